/- Part 31 of the proof of FnPXQuick (a QR code that is written for a text says this text in a picture): parts of the road. No condition. -/
import Derived.Test.YtnpkihobbcglcaaGreatDoorG14
import Derived.Test.YtnpkihobbcglcaaGreatDoorG30
/- Mask penalty rule 3. (Written by gen_pe.py.) -/
open Go Go.RowKit
namespace Go.Proofs.YtnpkihobbcglcaaGreatDoor
open Go.QZ

set_option maxRecDepth 20000 in
set_option maxHeartbeats 6400000 in
theorem rule3_c (w : World) (T d : Nat) (f : Nat → Nat → Int) (h : GM w T d f) (M : Nat) (hM : M = T + d + 1) :
    Calls Tryz.prog 132 #[.pointer (some ⟨M, 0, none⟩)] w (Num 100000000 w) := by
  have hs := h.small
  have H := Lib.hid h; have HM := Lib.hid hM
  clear h hM
  go_enter Tryz.func132, Tryz.ntmps132
  go_wp2_with fail
  refine ((ByteMatrix_GetArray_c w M 0 _ (H.out.ga HM.out))).mono ?_
  rintro e w1 ⟨rfl, rfl⟩
  go_wp2_with fail
  refine ((ByteMatrix_GetWidth_c w M 0 _ (H.out.gw HM.out))).mono ?_
  rintro e w1 ⟨rfl, rfl⟩
  go_wp2_with fail
  refine ((ByteMatrix_GetHeight_c w M 0 _ (H.out.gh HM.out))).mono ?_
  rintro e w1 ⟨rfl, rfl⟩
  go_wp2_with fail
  go_loop [7, 3, 8, 9] (fun a p _ _ => ∃ (i : Nat) (P : Int), i ≤ d ∧ a = .int .i64 i ∧ p = .int .i64 P ∧ 0 ≤ P ∧ P ≤ 2000 * i) (fun a _ _ _ => d - (intOf a).toNat)
  case atStart => exact ⟨0, 0, by omega, rfl, rfl, by omega, by omega⟩
  case round =>
    obtain ⟨i, P, hi, rfl, rfl, hP0, hP1⟩ := hrel
    by_cases hlt : i < d
    · go_wp2_with fail
      generalize decide ((i : Int) < (d : Int)) = bb
      go_loop [8, 3, 9] (fun a p _ => ∃ (j : Nat) (P : Int), j ≤ d ∧ a = .int .i64 j ∧ p = .int .i64 P ∧ 0 ≤ P ∧ P ≤ 2000 * i + 2 * j) (fun a _ _ => d - (intOf a).toNat)
      case atStart => exact ⟨0, P, by omega, rfl, rfl, by omega, by omega⟩
      case round =>
        obtain ⟨j, P2, hj, rfl, rfl, hP2, hPN⟩ := hrel
        by_cases hjl : j < d
        · have cr := H.out.cr i hlt
          repeat (fail_if_success (refine wp_seq_meet (x := Code.region 12 _ _) 30 104 (by decide) ?hy ?hz ?hw)
                  go_step)
          refine wp_seq_meet (x := Code.region 12 _ _) 30 104 (by decide) ?hy ?hz ?hw
          clear cr
          case hy => exact Nat.le_of_ble_eq_true rfl
          case hz =>
            intro K hK
            by_cases h6 : j + 6 < d
            · have hd6 : decide ((j : Int) + 6 < (d : Int)) = true := by simp; omega
              go_step
              refine wpList_meet 12 30 42 (by decide) ?h2 ?hx ?hy
              case h2 => exact Nat.le_of_ble_eq_true rfl
              case hx =>
                intro K1 hK1
                clear hK
                simp only [List.take]
                have c0 := H.out.cx j i (by omega) hlt
                generalize f j i = v0 at *
                go_wp2_with fail
                exact ⟨rfl, rfl, rfl, rfl, rfl, _, rfl⟩
              case hy =>
                intro u b
                simp only [List.take, List.drop, List.range, List.range.loop, List.map, List.cons_append, List.nil_append]
                refine wpList_meet 8 42 50 (by decide) ?h2 ?hx ?hy
                case h2 => exact Nat.le_of_ble_eq_true rfl
                case hx =>
                  intro K1 hK1
                  clear hK
                  simp only [List.take]
                  cases b
                  · go_wp2_with fail
                    exact ⟨rfl, rfl, rfl, rfl, rfl, _, rfl⟩
                  · have c0 := H.out.cx (j + 1) i (by omega) hlt
                    generalize f (j + 1) i = v0 at *
                    go_wp2_with fail
                    exact ⟨rfl, rfl, rfl, rfl, rfl, _, rfl⟩
                case hy =>
                  intro u b
                  simp only [List.take, List.drop, List.range, List.range.loop, List.map, List.cons_append, List.nil_append]
                  refine wpList_meet 8 50 58 (by decide) ?h2 ?hx ?hy
                  case h2 => exact Nat.le_of_ble_eq_true rfl
                  case hx =>
                    intro K1 hK1
                    clear hK
                    simp only [List.take]
                    cases b
                    · go_wp2_with fail
                      exact ⟨rfl, rfl, rfl, rfl, rfl, _, rfl⟩
                    · have c0 := H.out.cx (j + 2) i (by omega) hlt
                      generalize f (j + 2) i = v0 at *
                      go_wp2_with fail
                      exact ⟨rfl, rfl, rfl, rfl, rfl, _, rfl⟩
                  case hy =>
                    intro u b
                    simp only [List.take, List.drop, List.range, List.range.loop, List.map, List.cons_append, List.nil_append]
                    refine wpList_meet 8 58 66 (by decide) ?h2 ?hx ?hy
                    case h2 => exact Nat.le_of_ble_eq_true rfl
                    case hx =>
                      intro K1 hK1
                      clear hK
                      simp only [List.take]
                      cases b
                      · go_wp2_with fail
                        exact ⟨rfl, rfl, rfl, rfl, rfl, _, rfl⟩
                      · have c0 := H.out.cx (j + 3) i (by omega) hlt
                        generalize f (j + 3) i = v0 at *
                        go_wp2_with fail
                        exact ⟨rfl, rfl, rfl, rfl, rfl, _, rfl⟩
                    case hy =>
                      intro u b
                      simp only [List.take, List.drop, List.range, List.range.loop, List.map, List.cons_append, List.nil_append]
                      refine wpList_meet 8 66 74 (by decide) ?h2 ?hx ?hy
                      case h2 => exact Nat.le_of_ble_eq_true rfl
                      case hx =>
                        intro K1 hK1
                        clear hK
                        simp only [List.take]
                        cases b
                        · go_wp2_with fail
                          exact ⟨rfl, rfl, rfl, rfl, rfl, _, rfl⟩
                        · have c0 := H.out.cx (j + 4) i (by omega) hlt
                          generalize f (j + 4) i = v0 at *
                          go_wp2_with fail
                          exact ⟨rfl, rfl, rfl, rfl, rfl, _, rfl⟩
                      case hy =>
                        intro u b
                        simp only [List.take, List.drop, List.range, List.range.loop, List.map, List.cons_append, List.nil_append]
                        refine wpList_meet 8 74 82 (by decide) ?h2 ?hx ?hy
                        case h2 => exact Nat.le_of_ble_eq_true rfl
                        case hx =>
                          intro K1 hK1
                          clear hK
                          simp only [List.take]
                          cases b
                          · go_wp2_with fail
                            exact ⟨rfl, rfl, rfl, rfl, rfl, _, rfl⟩
                          · have c0 := H.out.cx (j + 5) i (by omega) hlt
                            generalize f (j + 5) i = v0 at *
                            go_wp2_with fail
                            exact ⟨rfl, rfl, rfl, rfl, rfl, _, rfl⟩
                        case hy =>
                          intro u b
                          simp only [List.take, List.drop, List.range, List.range.loop, List.map, List.cons_append, List.nil_append]
                          refine wpList_meet 8 82 90 (by decide) ?h2 ?hx ?hy
                          case h2 => exact Nat.le_of_ble_eq_true rfl
                          case hx =>
                            intro K1 hK1
                            clear hK
                            simp only [List.take]
                            cases b
                            · go_wp2_with fail
                              exact ⟨rfl, rfl, rfl, rfl, rfl, _, rfl⟩
                            · have c0 := H.out.cx (j + 6) i (by omega) hlt
                              generalize f (j + 6) i = v0 at *
                              go_wp2_with fail
                              exact ⟨rfl, rfl, rfl, rfl, rfl, _, rfl⟩
                          case hy =>
                            intro u b
                            simp only [List.take, List.drop, List.range, List.range.loop, List.map, List.cons_append, List.nil_append]
                            refine wpList_meet 14 90 104 (by decide) ?h2 ?hx ?hy
                            case h2 => exact Nat.le_of_ble_eq_true rfl
                            case hx =>
                              intro K1 hK1
                              clear hK
                              simp only [List.take]
                              cases b
                              · go_wp2_with fail
                                exact ⟨rfl, rfl, rfl, rfl, rfl, _, rfl⟩
                              · go_wp2_with fail
                                refine (whiteH_core w _ d (fun j => f j i) hs (fun j hj => H.out.cx j i hj hlt) _ _ (by omega) (by omega) (by omega) (by omega)).mono ?_
                                rintro e w1 ⟨b1, rfl, rfl⟩
                                cases b1
                                · go_wp2_with fail
                                  refine (whiteH_core w _ d (fun j => f j i) hs (fun j hj => H.out.cx j i hj hlt) _ _ (by omega) (by omega) (by omega) (by omega)).mono ?_
                                  rintro e w1 ⟨b2, rfl, rfl⟩
                                  go_wp2_with fail
                                  exact ⟨rfl, rfl, rfl, rfl, rfl, _, rfl⟩
                                · go_wp2_with fail
                                  exact ⟨rfl, rfl, rfl, rfl, rfl, _, rfl⟩
                            case hy =>
                              intro u b
                              simp only [List.take, List.drop, List.range, List.range.loop, List.map, List.cons_append, List.nil_append]
                              go_wp2_with fail
                              first | exact hK _ _ ⟨rfl, rfl, rfl, rfl, rfl, _, rfl⟩ | exact ⟨rfl, rfl, rfl, rfl, rfl, _, rfl⟩
            · have hd6 : decide ((j : Int) + 6 < (d : Int)) = false := by simp; omega
              go_wp2_with fail
              exact ⟨rfl, rfl, rfl, rfl, rfl, _, rfl⟩
          case hw =>
            intro u b
            simp only [List.take, List.drop, List.range, List.range.loop, List.map, List.cons_append, List.nil_append]
            cases b
            all_goals (
              repeat (fail_if_success (refine wp_seq_meet (x := Code.region 14 _ _) 106 203 (by decide) ?hy ?hz ?hw)
                      go_step)
              refine wp_seq_meet (x := Code.region 14 _ _) 106 203 (by decide) ?hy ?hz ?hw
              case hy => exact Nat.le_of_ble_eq_true rfl
              case hz =>
                intro K hK
                by_cases h6 : i + 6 < d
                · have hd6 : decide ((i : Int) + 6 < (d : Int)) = true := by simp; omega
                  go_step
                  refine wpList_meet 15 106 121 (by decide) ?h2 ?hx ?hy
                  case h2 => exact Nat.le_of_ble_eq_true rfl
                  case hx =>
                    intro K1 hK1
                    clear hK
                    simp only [List.take]
                    have r0 := H.out.cr i (by omega)
                    have c0 := H.out.cx j i hjl (by omega)
                    generalize f j i = v0 at *
                    generalize T + 1 + i = R0 at *
                    go_wp2_with fail
                    exact ⟨rfl, rfl, rfl, rfl, rfl, _, rfl⟩
                  case hy =>
                    intro u b
                    simp only [List.take, List.drop, List.range, List.range.loop, List.map, List.cons_append, List.nil_append]
                    refine wpList_meet 11 121 132 (by decide) ?h2 ?hx ?hy
                    case h2 => exact Nat.le_of_ble_eq_true rfl
                    case hx =>
                      intro K1 hK1
                      clear hK
                      simp only [List.take]
                      cases b
                      · go_wp2_with fail
                        exact ⟨rfl, rfl, rfl, rfl, rfl, _, rfl⟩
                      · have r0 := H.out.cr (i + 1) (by omega)
                        have c0 := H.out.cx j (i + 1) hjl (by omega)
                        generalize f j (i + 1) = v0 at *
                        generalize T + 1 + (i + 1) = R0 at *
                        go_wp2_with fail
                        exact ⟨rfl, rfl, rfl, rfl, rfl, _, rfl⟩
                    case hy =>
                      intro u b
                      simp only [List.take, List.drop, List.range, List.range.loop, List.map, List.cons_append, List.nil_append]
                      refine wpList_meet 11 132 143 (by decide) ?h2 ?hx ?hy
                      case h2 => exact Nat.le_of_ble_eq_true rfl
                      case hx =>
                        intro K1 hK1
                        clear hK
                        simp only [List.take]
                        cases b
                        · go_wp2_with fail
                          exact ⟨rfl, rfl, rfl, rfl, rfl, _, rfl⟩
                        · have r0 := H.out.cr (i + 2) (by omega)
                          have c0 := H.out.cx j (i + 2) hjl (by omega)
                          generalize f j (i + 2) = v0 at *
                          generalize T + 1 + (i + 2) = R0 at *
                          go_wp2_with fail
                          exact ⟨rfl, rfl, rfl, rfl, rfl, _, rfl⟩
                      case hy =>
                        intro u b
                        simp only [List.take, List.drop, List.range, List.range.loop, List.map, List.cons_append, List.nil_append]
                        refine wpList_meet 11 143 154 (by decide) ?h2 ?hx ?hy
                        case h2 => exact Nat.le_of_ble_eq_true rfl
                        case hx =>
                          intro K1 hK1
                          clear hK
                          simp only [List.take]
                          cases b
                          · go_wp2_with fail
                            exact ⟨rfl, rfl, rfl, rfl, rfl, _, rfl⟩
                          · have r0 := H.out.cr (i + 3) (by omega)
                            have c0 := H.out.cx j (i + 3) hjl (by omega)
                            generalize f j (i + 3) = v0 at *
                            generalize T + 1 + (i + 3) = R0 at *
                            go_wp2_with fail
                            exact ⟨rfl, rfl, rfl, rfl, rfl, _, rfl⟩
                        case hy =>
                          intro u b
                          simp only [List.take, List.drop, List.range, List.range.loop, List.map, List.cons_append, List.nil_append]
                          refine wpList_meet 11 154 165 (by decide) ?h2 ?hx ?hy
                          case h2 => exact Nat.le_of_ble_eq_true rfl
                          case hx =>
                            intro K1 hK1
                            clear hK
                            simp only [List.take]
                            cases b
                            · go_wp2_with fail
                              exact ⟨rfl, rfl, rfl, rfl, rfl, _, rfl⟩
                            · have r0 := H.out.cr (i + 4) (by omega)
                              have c0 := H.out.cx j (i + 4) hjl (by omega)
                              generalize f j (i + 4) = v0 at *
                              generalize T + 1 + (i + 4) = R0 at *
                              go_wp2_with fail
                              exact ⟨rfl, rfl, rfl, rfl, rfl, _, rfl⟩
                          case hy =>
                            intro u b
                            simp only [List.take, List.drop, List.range, List.range.loop, List.map, List.cons_append, List.nil_append]
                            refine wpList_meet 11 165 176 (by decide) ?h2 ?hx ?hy
                            case h2 => exact Nat.le_of_ble_eq_true rfl
                            case hx =>
                              intro K1 hK1
                              clear hK
                              simp only [List.take]
                              cases b
                              · go_wp2_with fail
                                exact ⟨rfl, rfl, rfl, rfl, rfl, _, rfl⟩
                              · have r0 := H.out.cr (i + 5) (by omega)
                                have c0 := H.out.cx j (i + 5) hjl (by omega)
                                generalize f j (i + 5) = v0 at *
                                generalize T + 1 + (i + 5) = R0 at *
                                go_wp2_with fail
                                exact ⟨rfl, rfl, rfl, rfl, rfl, _, rfl⟩
                            case hy =>
                              intro u b
                              simp only [List.take, List.drop, List.range, List.range.loop, List.map, List.cons_append, List.nil_append]
                              refine wpList_meet 11 176 187 (by decide) ?h2 ?hx ?hy
                              case h2 => exact Nat.le_of_ble_eq_true rfl
                              case hx =>
                                intro K1 hK1
                                clear hK
                                simp only [List.take]
                                cases b
                                · go_wp2_with fail
                                  exact ⟨rfl, rfl, rfl, rfl, rfl, _, rfl⟩
                                · have r0 := H.out.cr (i + 6) (by omega)
                                  have c0 := H.out.cx j (i + 6) hjl (by omega)
                                  generalize f j (i + 6) = v0 at *
                                  generalize T + 1 + (i + 6) = R0 at *
                                  go_wp2_with fail
                                  exact ⟨rfl, rfl, rfl, rfl, rfl, _, rfl⟩
                              case hy =>
                                intro u b
                                simp only [List.take, List.drop, List.range, List.range.loop, List.map, List.cons_append, List.nil_append]
                                refine wpList_meet 16 187 203 (by decide) ?h2 ?hx ?hy
                                case h2 => exact Nat.le_of_ble_eq_true rfl
                                case hx =>
                                  intro K1 hK1
                                  clear hK
                                  simp only [List.take]
                                  cases b
                                  · go_wp2_with fail
                                    exact ⟨rfl, rfl, rfl, rfl, rfl, _, rfl⟩
                                  · go_wp2_with fail
                                    refine (whiteV_core w T d j (fun y => f j y) hs hjl H.out.cr (fun y hy => H.out.cx j y hjl hy) _ _ (by omega) (by omega) (by omega) (by omega)).mono ?_
                                    rintro e w1 ⟨b1, rfl, rfl⟩
                                    cases b1
                                    · go_wp2_with fail
                                      refine (whiteV_core w T d j (fun y => f j y) hs hjl H.out.cr (fun y hy => H.out.cx j y hjl hy) _ _ (by omega) (by omega) (by omega) (by omega)).mono ?_
                                      rintro e w1 ⟨b2, rfl, rfl⟩
                                      go_wp2_with fail
                                      exact ⟨rfl, rfl, rfl, rfl, rfl, _, rfl⟩
                                    · go_wp2_with fail
                                      exact ⟨rfl, rfl, rfl, rfl, rfl, _, rfl⟩
                                case hy =>
                                  intro u b
                                  simp only [List.take, List.drop, List.range, List.range.loop, List.map, List.cons_append, List.nil_append]
                                  go_wp2_with fail
                                  first | exact hK _ _ ⟨rfl, rfl, rfl, rfl, rfl, _, rfl⟩ | exact ⟨rfl, rfl, rfl, rfl, rfl, _, rfl⟩
                · have hd6 : decide ((i : Int) + 6 < (d : Int)) = false := by simp; omega
                  go_wp2_with fail
                  exact ⟨rfl, rfl, rfl, rfl, rfl, _, rfl⟩
              case hw =>
                intro u2 b2
                simp only [List.take, List.drop, List.range, List.range.loop, List.map, List.cons_append, List.nil_append]
                cases b2
                all_goals (
                  go_wp2_with fail
                  go_round
                  case rel => exact ⟨j + 1, _, by omega, by go_num, rfl, by omega, by omega⟩
                  case measure => simp [intOf]; omega))
        · obtain rfl : j = d := by omega
          go_wp2_with fail
          go_round
          case rel => exact ⟨i + 1, _, by omega, by go_num, rfl, by omega, by omega⟩
          case measure => simp [intOf]; omega
    · obtain rfl : i = d := by omega
      go_wp2_with fail
      go_ret
      exact ⟨_, rfl, by omega, by omega, rfl⟩
end Go.Proofs.YtnpkihobbcglcaaGreatDoor
/- The mask's penalty and the choice of a mask: only their ranges. -/
open Go Go.RowKit
namespace Go.Proofs.YtnpkihobbcglcaaGreatDoor
open Go.QZ

theorem penalty_c (w : World) (T d : Nat) (f : Nat → Nat → Int) (h : GM w T d f) (M : Nat) (hM : M = T + d + 1) (hd : 0 < d) :
    Calls Tryz.prog 104 #[.pointer (some ⟨M, 0, none⟩)] w (Num 600000000 w) := by
  have H := Lib.hid h; have HM := Lib.hid hM
  clear h hM
  go_enter Tryz.func104, Tryz.ntmps104
  go_wp2_with fail
  refine (rule1_c w T d f H.out M HM.out).mono ?_
  rintro e w1 ⟨P, rfl, hP0, hP1, rfl⟩
  go_wp2_with fail
  refine (rule2_c w T d f H.out M HM.out hd).mono ?_
  rintro e w1 ⟨Q, rfl, hQ0, hQ1, rfl⟩
  go_wp2_with fail
  refine (rule3_c w T d f H.out M HM.out).mono ?_
  rintro e w1 ⟨R, rfl, hR0, hR1, rfl⟩
  go_wp2_with fail
  refine (rule4_c w T d f H.out M HM.out hd).mono ?_
  rintro e w1 ⟨S, rfl, hS0, hS1, rfl⟩
  go_wp2_with fail
  go_ret
  exact ⟨P + Q + R + S, rfl, by omega, by omega, rfl⟩

/-- A mask was chosen; the matrix is a matrix still. -/
def Chosen (w : World) (T d : Nat) (e : Ending) (w' : World) : Prop := ∃ (m : Nat) (f : Nat → Nat → Int), m < 8 ∧ e = .returned (.tuple #[.int .i64 m, .nilIface]) ∧ GM w' T d f ∧ QZ.Mod (GMb T d) w w'

set_option maxHeartbeats 1600000 in
theorem choose_c (w : World) (T d : Nat) (f : Nat → Nat → Int) (h : GM w T d f) (M : Nat) (hM : M = T + d + 1) (v : Nat) (hv1 : 1 ≤ v) (hv : v < 8) (hd : d = 17 + 4 * v)
    (pv : Nat) (hpv : w.cell? ⟨pv, 0, none⟩ = some (.int .i64 v)) (hS : ¬ GMb T d pv) (l : Nat) (hl : l < 4)
    (p B : Nat) (ws : List Nat) (bs : List Bool) (hb : BA w p B ws bs) (hp : ¬ GMb T d p) (hB : ¬ GMb T d B) (hend : ∀ m, m < 8 → (edI bs m (17 + 4 * v) (fnF v l m) (zzN v)).2 = bs.length) (hbs : bs.length ≤ 100000) :
    Calls Tryz.prog 60 #[.pointer (some ⟨p, 0, none⟩), .int .i64 l, .pointer (some ⟨pv, 0, none⟩), .pointer (some ⟨M, 0, none⟩)] w (Chosen w T d) := by
  have H := Lib.hid h; have HM := Lib.hid hM; have Hd := Lib.hid hd; have Hpv := Lib.hid hpv; have Hb := Lib.hid hb; have Hp := Lib.hid hp; have HB := Lib.hid hB; have HS := Lib.hid hS; have He := Lib.hid hend
  have Hd0 : Hid (0 < d) := by show 0 < d; omega
  clear h hM hpv hb hp hB hS hend hd
  go_enter Tryz.func60, Tryz.ntmps60
  go_wp2_with fail
  go_loopw [12, 10, 11, 13, 14] (fun a b c _ _ wr => ∃ (i : Nat) (P : Int) (k : Int) (g : Nat → Nat → Int), i ≤ 8 ∧ a = .int .i64 i ∧ b = .int .i64 P ∧ 0 ≤ P ∧ P ≤ 2147483647 ∧ c = .int .i64 k ∧ ((i = 0 ∧ P = 2147483647) ∨ (0 ≤ k ∧ k < 8)) ∧ GM wr T d g ∧ QZ.Mod (GMb T d) w wr) (fun a _ _ _ _ _ => 8 - (intOf a).toNat)
  case atStart => exact ⟨0, 2147483647, -1, f, by omega, rfl, rfl, by omega, by omega, rfl, .inl ⟨rfl, rfl⟩, H.out, QZ.Mod.refl _ _⟩
  case round =>
    obtain ⟨i, P, k, g, hi, rfl, rfl, hP0, hP1, rfl, hor, hg, hm⟩ := hrel
    have Hg := Lib.hid hg
    have Hm := Lib.hid hm
    have Hor := Lib.hid hor
    clear hg hm hor
    by_cases hlt : i < 8
    · go_wp2_with fail
      refine (build_c wr T d g Hg.out M HM.out v hv1 hv Hd.out pv (cell_mod Hm.out HS.out Hpv.out) HS.out l i hl hlt p B ws bs (Hb.out.mod Hm.out Hp.out HB.out) Hp.out HB.out (He.out i hlt) hbs).mono ?_
      rintro e w3 ⟨rfl, hg, hm⟩
      have Hg2 := Lib.hid hg; have Hm2 := Lib.hid (Hm.out.trans hm)
      clear hg hm
      go_wp2_with fail
      refine (penalty_c w3 T d _ Hg2.out M HM.out Hd0.out).mono ?_
      rintro e w4 ⟨Q, rfl, hQ0, hQ1, rfl⟩
      by_cases hQ : Q < P
      · go_wp2_with fail
        go_roundw
        case rel => exact ⟨i + 1, Q, i, _, by omega, by go_num, rfl, by omega, by omega, rfl, .inr ⟨by omega, by omega⟩, Hg2.out, Hm2.out⟩
        case measure => simp [intOf] <;> omega
      · have hor2 : (i + 1 = 0 ∧ P = 2147483647) ∨ (0 ≤ k ∧ k < 8) := by
          rcases Hor.out with ⟨h1, h2⟩ | h1
          · omega
          · exact .inr h1
        have Hor2 := Lib.hid hor2
        clear hor2
        go_wp2_with fail
        go_roundw
        case rel => exact ⟨i + 1, P, k, _, by omega, by go_num, rfl, by omega, by omega, rfl, Hor2.out, Hg2.out, Hm2.out⟩
        case measure => simp [intOf] <;> omega
    · obtain rfl : i = 8 := by omega
      obtain ⟨k, rfl⟩ : ∃ n : Nat, k = n := ⟨k.toNat, by have := Hor.out; omega⟩
      go_wp2_with fail
      go_ret2
      exact ⟨k, _, by have := Hor.out; omega, rfl, Hg.out, Hm.out⟩
end Go.Proofs.YtnpkihobbcglcaaGreatDoor
