/- Part 30 of the proof of FnPXQuick (a QR code that is written for a text says this text in a picture): parts of the road. No condition. -/
import Derived.Test.YtnpkihobbcglcaaGreatDoorG01
import Derived.Test.YtnpkihobbcglcaaGreatDoorG14
open Go Go.RowKit
namespace Go.Proofs.YtnpkihobbcglcaaGreatDoor
open Go.QZ

theorem GM.ga {w : World} {T d : Nat} {f : Nat → Nat → Int} (h : GM w T d f) {M : Nat} (hM : M = T + d + 1) : w.cell? ⟨M, 0, none⟩ = some (.slice (some ⟨T, 0, none⟩) d d) := by rw [hM]; exact h.c0

theorem quo_bound (X D : Int) (h0 : 0 ≤ X) (h1 : X ≤ 30000000) (hD : 0 < D) : 0 ≤ wrap64 (X / D * 10) ∧ wrap64 (X / D * 10) ≤ 400000000 := by
  have a : 0 ≤ X / D := Int.ediv_nonneg h0 (Int.le_of_lt hD)
  have b : X / D ≤ X := Int.ediv_le_self D h0
  obtain ⟨q, hq⟩ : ∃ q, X / D = q := ⟨_, rfl⟩
  rw [hq] at a b ⊢
  clear hq
  have hb : q ≤ 30000000 := by omega
  clear b h0 h1 hD
  unfold wrap64
  have e : (q * 10 + 9223372036854775808) % 18446744073709551616 = q * 10 + 9223372036854775808 := Int.emod_eq_of_lt (by omega) (by omega)
  rw [e]
  constructor <;> omega

/-- A number within bounds is returned, and nothing else happens. -/
def Num (K : Int) (w : World) (e : Ending) (w' : World) : Prop := ∃ P : Int, e = .returned (.int .i64 P) ∧ 0 ≤ P ∧ P ≤ K ∧ w = w'

set_option maxHeartbeats 1600000 in
theorem rule1h_c (w : World) (T d : Nat) (f : Nat → Nat → Int) (h : GM w T d f) (M : Nat) (hM : M = T + d + 1) :
    Calls Tryz.prog 169 #[.pointer (some ⟨M, 0, none⟩), .bool true] w (Num 2000000 w) := by
  have hs := h.small
  have H := Lib.hid h; have HM := Lib.hid hM
  clear h hM
  go_enter Tryz.func169, Tryz.ntmps169
  go_wp2_with fail
  refine (ByteMatrix_GetWidth_c w M 0 _ (H.out.gw HM.out)).mono ?_
  rintro e w1 ⟨rfl, rfl⟩
  go_wp2_with fail
  refine (ByteMatrix_GetHeight_c w M 0 _ (H.out.gh HM.out)).mono ?_
  rintro e w1 ⟨rfl, rfl⟩
  go_wp2_with fail
  refine (ByteMatrix_GetArray_c w M 0 _ (H.out.ga HM.out)).mono ?_
  rintro e w1 ⟨rfl, rfl⟩
  go_wp2_with fail
  go_loop [9, 5, 10, 11, 12, 13] (fun a p _ _ _ _ => ∃ (i : Nat) (P : Int), i ≤ d ∧ a = .int .i64 i ∧ p = .int .i64 P ∧ 0 ≤ P ∧ P ≤ 1000 * i) (fun a _ _ _ _ _ => d - (intOf a).toNat)
  case atStart => exact ⟨0, 0, by omega, rfl, rfl, by omega, by omega⟩
  case round =>
    obtain ⟨i, P, hi, rfl, rfl, hP0, hP1⟩ := hrel
    by_cases hlt : i < d
    · go_wp2_with fail
      generalize decide ((i : Int) < (d : Int)) = bb
      go_loop [12, 5, 10, 11, 13] (fun a p n q _ => ∃ (j : Nat) (P N Q : Int), j ≤ d ∧ a = .int .i64 j ∧ p = .int .i64 P ∧ n = .int .i64 N ∧ q = .int .i64 Q ∧ 0 ≤ P ∧ 0 ≤ N ∧ P + N ≤ 1000 * i + j) (fun a _ _ _ _ => d - (intOf a).toNat)
      case atStart => exact ⟨0, P, 0, -1, by omega, rfl, rfl, rfl, rfl, by omega, by omega, by omega⟩
      case round =>
        obtain ⟨j, P2, N, Q, hj, rfl, rfl, rfl, rfl, hP2, hN, hPN⟩ := hrel
        by_cases hjl : j < d
        · have cr := H.out.cr i hlt
          have cx := H.out.cx j i hjl hlt
          generalize f j i = v at *
          generalize T + 1 + i = R at *
          go_wp2_with fail
          all_goals (
            go_round
            case rel => exact ⟨j + 1, _, _, _, by omega, by go_num, rfl, rfl, rfl, by omega, by omega, by omega⟩
            case measure => simp [intOf]; omega)
        · obtain rfl : j = d := by omega
          by_cases h5 : 5 ≤ N
          · go_wp2_with fail
            go_round
            case rel => exact ⟨i + 1, _, by omega, by go_num, rfl, by omega, by omega⟩
            case measure => simp [intOf]; omega
          · go_wp2_with fail
            go_round
            case rel => exact ⟨i + 1, _, by omega, by go_num, rfl, by omega, by omega⟩
            case measure => simp [intOf]; omega
    · obtain rfl : i = d := by omega
      go_wp2_with fail
      go_ret
      exact ⟨P, rfl, hP0, by omega, rfl⟩
set_option maxHeartbeats 1600000 in
theorem rule1v_c (w : World) (T d : Nat) (f : Nat → Nat → Int) (h : GM w T d f) (M : Nat) (hM : M = T + d + 1) :
    Calls Tryz.prog 169 #[.pointer (some ⟨M, 0, none⟩), .bool false] w (Num 2000000 w) := by
  have hs := h.small
  have H := Lib.hid h; have HM := Lib.hid hM
  clear h hM
  go_enter Tryz.func169, Tryz.ntmps169
  go_wp2_with fail
  refine (ByteMatrix_GetWidth_c w M 0 _ (H.out.gw HM.out)).mono ?_
  rintro e w1 ⟨rfl, rfl⟩
  go_wp2_with fail
  refine (ByteMatrix_GetHeight_c w M 0 _ (H.out.gh HM.out)).mono ?_
  rintro e w1 ⟨rfl, rfl⟩
  go_wp2_with fail
  refine (ByteMatrix_GetArray_c w M 0 _ (H.out.ga HM.out)).mono ?_
  rintro e w1 ⟨rfl, rfl⟩
  go_wp2_with fail
  go_loop [9, 5, 10, 11, 12, 13] (fun a p _ _ _ _ => ∃ (i : Nat) (P : Int), i ≤ d ∧ a = .int .i64 i ∧ p = .int .i64 P ∧ 0 ≤ P ∧ P ≤ 1000 * i) (fun a _ _ _ _ _ => d - (intOf a).toNat)
  case atStart => exact ⟨0, 0, by omega, rfl, rfl, by omega, by omega⟩
  case round =>
    obtain ⟨i, P, hi, rfl, rfl, hP0, hP1⟩ := hrel
    by_cases hlt : i < d
    · go_wp2_with fail
      generalize decide ((i : Int) < (d : Int)) = bb
      go_loop [12, 5, 10, 11, 13] (fun a p n q _ => ∃ (j : Nat) (P N Q : Int), j ≤ d ∧ a = .int .i64 j ∧ p = .int .i64 P ∧ n = .int .i64 N ∧ q = .int .i64 Q ∧ 0 ≤ P ∧ 0 ≤ N ∧ P + N ≤ 1000 * i + j) (fun a _ _ _ _ => d - (intOf a).toNat)
      case atStart => exact ⟨0, P, 0, -1, by omega, rfl, rfl, rfl, rfl, by omega, by omega, by omega⟩
      case round =>
        obtain ⟨j, P2, N, Q, hj, rfl, rfl, rfl, rfl, hP2, hN, hPN⟩ := hrel
        by_cases hjl : j < d
        · have cr := H.out.cr j hjl
          have cx := H.out.cx i j hlt hjl
          generalize f i j = v at *
          generalize T + 1 + j = R at *
          go_wp2_with fail
          all_goals (
            go_round
            case rel => exact ⟨j + 1, _, _, _, by omega, by go_num, rfl, rfl, rfl, by omega, by omega, by omega⟩
            case measure => simp [intOf]; omega)
        · obtain rfl : j = d := by omega
          by_cases h5 : 5 ≤ N
          · go_wp2_with fail
            go_round
            case rel => exact ⟨i + 1, _, by omega, by go_num, rfl, by omega, by omega⟩
            case measure => simp [intOf]; omega
          · go_wp2_with fail
            go_round
            case rel => exact ⟨i + 1, _, by omega, by go_num, rfl, by omega, by omega⟩
            case measure => simp [intOf]; omega
    · obtain rfl : i = d := by omega
      go_wp2_with fail
      go_ret
      exact ⟨P, rfl, hP0, by omega, rfl⟩

theorem rule1_c (w : World) (T d : Nat) (f : Nat → Nat → Int) (h : GM w T d f) (M : Nat) (hM : M = T + d + 1) :
    Calls Tryz.prog 130 #[.pointer (some ⟨M, 0, none⟩)] w (Num 4000000 w) := by
  go_enter Tryz.func130, Tryz.ntmps130
  have H := Lib.hid h; have HM := Lib.hid hM
  clear h hM
  go_wp2_with fail
  refine (rule1h_c w T d f H.out M HM.out).mono ?_
  rintro e w1 ⟨P, rfl, hP0, hP1, rfl⟩
  go_wp2_with fail
  refine (rule1v_c w T d f H.out M HM.out).mono ?_
  rintro e w1 ⟨Q, rfl, hQ0, hQ1, rfl⟩
  go_wp2_with fail
  go_ret
  exact ⟨P + Q, rfl, by omega, by omega, rfl⟩

set_option maxHeartbeats 1600000 in
theorem rule4_c (w : World) (T d : Nat) (f : Nat → Nat → Int) (h : GM w T d f) (M : Nat) (hM : M = T + d + 1) (hd : 0 < d) :
    Calls Tryz.prog 133 #[.pointer (some ⟨M, 0, none⟩)] w (Num 400000000 w) := by
  have hs := h.small
  have H := Lib.hid h; have HM := Lib.hid hM
  obtain ⟨D, hD⟩ : ∃ D, d * d = D := ⟨_, rfl⟩
  have hD0 : 0 < D := by rw [← hD]; exact Nat.mul_pos hd hd
  have hD1 : D ≤ 1000 * 1000 := by rw [← hD]; exact Nat.mul_le_mul hs hs
  have hDD : (d : Int) * (d : Int) = (D : Int) := by rw [← hD]; exact (Int.natCast_mul _ _).symm
  clear h hM hD
  go_enter Tryz.func133, Tryz.ntmps133
  go_wp2_with fail
  refine (ByteMatrix_GetArray_c w M 0 _ (H.out.ga HM.out)).mono ?_
  rintro e w1 ⟨rfl, rfl⟩
  go_wp2_with fail
  refine (ByteMatrix_GetWidth_c w M 0 _ (H.out.gw HM.out)).mono ?_
  rintro e w1 ⟨rfl, rfl⟩
  go_wp2_with fail
  refine (ByteMatrix_GetHeight_c w M 0 _ (H.out.gh HM.out)).mono ?_
  rintro e w1 ⟨rfl, rfl⟩
  go_wp2_with fail
  go_loop [7, 3, 8, 9] (fun a p _ _ => ∃ (i : Nat) (P : Int), i ≤ d ∧ a = .int .i64 i ∧ p = .int .i64 P ∧ 0 ≤ P ∧ P ≤ 1000 * i) (fun a _ _ _ => d - (intOf a).toNat)
  case atStart => exact ⟨0, 0, by omega, rfl, rfl, by omega, by omega⟩
  case round =>
    obtain ⟨i, P, hi, rfl, rfl, hP0, hP1⟩ := hrel
    by_cases hlt : i < d
    · have cr := H.out.cr i hlt
      have Hcx := Lib.hid (fun j hj => H.out.cx j i hj hlt)
      generalize T + 1 + i = R at *
      go_wp2_with fail
      clear cr
      generalize decide ((i : Int) < (d : Int)) = bb
      go_loop [9, 3] (fun a p => ∃ (j : Nat) (P : Int), j ≤ d ∧ a = .int .i64 j ∧ p = .int .i64 P ∧ 0 ≤ P ∧ P ≤ 1000 * i + j) (fun a _ => d - (intOf a).toNat)
      case atStart => exact ⟨0, P, by omega, rfl, rfl, by omega, by omega⟩
      case round =>
        obtain ⟨j, P2, hj, rfl, rfl, hP2, hPN⟩ := hrel
        by_cases hjl : j < d
        · have cx := Hcx.out j hjl
          generalize f j i = v at *
          go_wp2_with fail
          all_goals (
            go_round
            case rel => exact ⟨j + 1, _, by omega, by go_num, rfl, by omega, by omega⟩
            case measure => simp [intOf]; omega)
        · obtain rfl : j = d := by omega
          go_wp2_with fail
          go_round
          case rel => exact ⟨i + 1, _, by omega, by go_num, rfl, by omega, by omega⟩
          case measure => simp [intOf]; omega
    · obtain rfl : i = d := by omega
      go_wp2_with fail
      refine (ByteMatrix_GetHeight_c w M 0 _ (H.out.gh HM.out)).mono ?_
      rintro e w1 ⟨rfl, rfl⟩
      go_wp2_with fail
      refine (ByteMatrix_GetWidth_c w M 0 _ (H.out.gw HM.out)).mono ?_
      rintro e w1 ⟨rfl, rfl⟩
      go_wp2_with fail
      all_goals go_ret
      · exact ⟨_, rfl, (quo_bound _ _ (by omega) (by omega) (by omega)).1, (quo_bound _ _ (by omega) (by omega) (by omega)).2, rfl⟩
      · exact ⟨_, rfl, (quo_bound _ _ (by omega) (by omega) (by omega)).1, (quo_bound _ _ (by omega) (by omega) (by omega)).2, rfl⟩
end Go.Proofs.YtnpkihobbcglcaaGreatDoor
/- Ways that meet again: behind a part of the code only some slots are new, and the last of them is a bool. -/
open Go Go.RowKit
namespace Go.QZ
variable {P : Program}

/-- Nothing happened but that the slots from lo up to ahead of hi are new, and the last of them is a bool. -/
def Meets (lo hi : Nat) (a : Act) (w : World) (a' : Act) (w' : World) : Prop :=
  w' = w ∧ a'.defers = a.defers ∧ a'.tmps.toList.take lo = a.tmps.toList.take lo ∧ a'.tmps.toList.drop hi = a.tmps.toList.drop hi ∧ a'.tmps.toList.length = a.tmps.toList.length ∧ ∃ b, a'.tmps.toList[hi - 1]? = some (.bool b)

theorem list_parts {α : Type} (l : List α) (lo hi : Nat) (x d : α) (h1 : lo < hi) (h2 : hi ≤ l.length) (hx : l[hi - 1]? = some x) :
    l = l.take lo ++ ((List.range (hi - 1 - lo)).map (fun i => l.getD (lo + i) d) ++ (x :: l.drop hi)) := by
  apply List.ext_getElem?
  intro k
  rcases Nat.lt_or_ge k lo with h | h
  · rw [List.getElem?_append_left (by rw [List.length_take]; omega), List.getElem?_take_of_lt h]
  · rw [List.getElem?_append_right (by rw [List.length_take]; omega), List.length_take, Nat.min_eq_left (by omega)]
    rcases Nat.lt_trichotomy k (hi - 1) with h3 | h3 | h3
    · rw [List.getElem?_append_left (by simp; omega)]
      simp only [List.getElem?_map, List.getElem?_range (show k - lo < hi - 1 - lo by omega), Option.map_some]
      rw [List.getD_eq_getElem?_getD, show lo + (k - lo) = k by omega, List.getElem?_eq_getElem (by omega)]; rfl
    · subst h3
      rw [List.getElem?_append_right (by simp), hx]
      simp
    · rw [List.getElem?_append_right (by simp; omega)]
      simp only [List.length_map, List.length_range]
      rw [show k - lo - (hi - 1 - lo) = (k - hi) + 1 by omega, List.getElem?_cons_succ, List.getElem?_drop, show hi + (k - hi) = k by omega]

theorem wp_seq_meet {x y : Code} {Q : Exit → Act → World → Prop} {a : Act} {w : World} (lo hi : Nat) (h1 : lo < hi) (h2 : hi ≤ a.tmps.toList.length)
    (hx : ∀ K : Act → World → Prop, (∀ a' w', Meets lo hi a w a' w' → K a' w') → x.wp P (Exit.then K Q) a w)
    (hy : ∀ (u : Nat → Value) (b : Bool), y.wp P Q { tmps := (a.tmps.toList.take lo ++ ((List.range (hi - 1 - lo)).map u ++ (.bool b :: a.tmps.toList.drop hi))).toArray, defers := a.defers } w) : (Code.seq x y).wp P Q a w := by
  refine wp_seq (hx _ fun a' w' hm => ?_)
  obtain ⟨rfl, hd, ht, hr, hl, b, hb⟩ := hm
  have e := list_parts a'.tmps.toList lo hi (.bool b) undef h1 (by omega) hb
  rw [ht, hr] at e
  have := hy (fun i => a'.tmps.toList.getD (lo + i) undef) b
  rw [← e] at this
  have e2 : a' = { tmps := a'.tmps.toList.toArray, defers := a.defers } := by
    cases a'; simp only at hd ⊢; rw [hd]
  rw [e2]; exact this
end Go.QZ
open Go Go.RowKit
namespace Go.Proofs.YtnpkihobbcglcaaGreatDoor
open Go.QZ

/-- A truth value is returned, and nothing else happens. -/
def Truth (w : World) (e : Ending) (w' : World) : Prop := ∃ b : Bool, e = .returned (.bool b) ∧ w = w'

set_option maxHeartbeats 800000 in
theorem whiteH_core (w : World) (R d : Nat) (g : Nat → Int) (hs : d ≤ 1000) (hc : ∀ j, j < d → w.cell? ⟨R, j, none⟩ = some (.int .i8 (g j))) (x z : Int) (_hx : -100 ≤ x) (hx2 : x ≤ 2000) (hz : -100 ≤ z) (hz2 : z ≤ 2000) :
    Calls Tryz.prog 171 #[.slice (some ⟨R, 0, none⟩) d d, .int .i64 x, .int .i64 z] w (Truth w) := by
  have Hc := Lib.hid hc
  clear hc
  go_enter Tryz.func171, Tryz.ntmps171
  go_wp2_with fail
  all_goals (
    go_loop [7] (fun a => ∃ k : Int, 0 ≤ k ∧ k ≤ 2000 ∧ a = .int .i64 k) (fun a => 2000 - (intOf a).toNat)
    case atStart => exact ⟨_, by omega, by omega, rfl⟩
    case round =>
      obtain ⟨k, hk0, hk1, rfl⟩ := hrel
      obtain ⟨k, rfl⟩ := Int.eq_ofNat_of_zero_le hk0
      by_cases hk : k < d
      · have cx := Hc.out k hk
        generalize g k = v at *
        go_wp2_with fail
        all_goals first
          | (go_ret; exact ⟨_, rfl, rfl⟩)
          | (go_round
             case rel => exact ⟨(k : Int) + 1, by omega, by omega, by go_num⟩
             case measure => simp [intOf]; omega)
      · go_wp2_with fail
        all_goals first
          | (go_ret; exact ⟨_, rfl, rfl⟩)
          | (go_round
             case rel => exact ⟨(k : Int) + 1, by omega, by omega, by go_num⟩
             case measure => simp [intOf]; omega))

set_option maxHeartbeats 800000 in
theorem whiteV_core (w : World) (T d c : Nat) (g : Nat → Int) (hs : d ≤ 1000) (hcd : c < d) (hr : ∀ j, j < d → w.cell? ⟨T, j, none⟩ = some (.slice (some ⟨T + 1 + j, 0, none⟩) d d)) (hc : ∀ j, j < d → w.cell? ⟨T + 1 + j, c, none⟩ = some (.int .i8 (g j))) (x z : Int) (_hx : -100 ≤ x) (hx2 : x ≤ 2000) (_hz : -100 ≤ z) (_hz2 : z ≤ 2000) :
    Calls Tryz.prog 172 #[.slice (some ⟨T, 0, none⟩) d d, .int .i64 c, .int .i64 x, .int .i64 z] w (Truth w) := by
  have Hc := Lib.hid hc; have Hr := Lib.hid hr
  clear hc hr
  go_enter Tryz.func172, Tryz.ntmps172
  go_wp2_with fail
  all_goals (
    go_loop [9] (fun a => ∃ k : Int, 0 ≤ k ∧ k ≤ 2000 ∧ a = .int .i64 k) (fun a => 2000 - (intOf a).toNat)
    case atStart => exact ⟨_, by omega, by omega, rfl⟩
    case round =>
      obtain ⟨k, hk0, hk1, rfl⟩ := hrel
      obtain ⟨k, rfl⟩ := Int.eq_ofNat_of_zero_le hk0
      by_cases hk : k < d
      · have cr := Hr.out k hk
        have cx := Hc.out k hk
        generalize g k = v at *
        generalize T + 1 + k = R at *
        go_wp2_with fail
        all_goals first
          | (go_ret; exact ⟨_, rfl, rfl⟩)
          | (go_round
             case rel => exact ⟨(k : Int) + 1, by omega, by omega, by go_num⟩
             case measure => simp [intOf]; omega)
      · go_wp2_with fail
        all_goals first
          | (go_ret; exact ⟨_, rfl, rfl⟩)
          | (go_round
             case rel => exact ⟨(k : Int) + 1, by omega, by omega, by go_num⟩
             case measure => simp [intOf]; omega))
end Go.Proofs.YtnpkihobbcglcaaGreatDoor
open Go Go.RowKit
namespace Go.Proofs.YtnpkihobbcglcaaGreatDoor
open Go.QZ

set_option maxRecDepth 20000 in
set_option maxHeartbeats 1600000 in
theorem rule2_c (w : World) (T d : Nat) (f : Nat → Nat → Int) (h : GM w T d f) (M : Nat) (hM : M = T + d + 1) (hd : 0 < d) :
    Calls Tryz.prog 131 #[.pointer (some ⟨M, 0, none⟩)] w (Num 4000000 w) := by
  have hs := h.small
  have H := Lib.hid h; have HM := Lib.hid hM
  clear h hM
  go_enter Tryz.func131, Tryz.ntmps131
  go_wp2_with fail
  refine (ByteMatrix_GetArray_c w M 0 _ (H.out.ga HM.out)).mono ?_
  rintro e w1 ⟨rfl, rfl⟩
  go_wp2_with fail
  refine (ByteMatrix_GetWidth_c w M 0 _ (H.out.gw HM.out)).mono ?_
  rintro e w1 ⟨rfl, rfl⟩
  go_wp2_with fail
  refine (ByteMatrix_GetHeight_c w M 0 _ (H.out.gh HM.out)).mono ?_
  rintro e w1 ⟨rfl, rfl⟩
  go_wp2_with fail
  go_loop [7, 3, 8, 9, 10] (fun a p _ _ _ => ∃ (i : Nat) (P : Int), i ≤ d - 1 ∧ a = .int .i64 i ∧ p = .int .i64 P ∧ 0 ≤ P ∧ P ≤ 1000 * i) (fun a _ _ _ _ => d - (intOf a).toNat)
  case atStart => exact ⟨0, 0, by omega, rfl, rfl, by omega, by omega⟩
  case round =>
    obtain ⟨i, P, hi, rfl, rfl, hP0, hP1⟩ := hrel
    by_cases hlt : i < d - 1
    · have cr := H.out.cr i (by omega)
      have cr1 := H.out.cr (i + 1) (by omega)
      have Hcx := Lib.hid (fun j hj => H.out.cx j i hj (by omega))
      have Hcx1 := Lib.hid (fun j hj => H.out.cx j (i + 1) hj (by omega))
      generalize T + 1 + i = R at *
      generalize T + 1 + (i + 1) = R1 at *
      go_wp2_with fail
      clear cr
      generalize decide ((i : Int) < (d : Int) - 1) = bb
      go_loop [9, 3, 10] (fun a p _ => ∃ (j : Nat) (P : Int), j ≤ d - 1 ∧ a = .int .i64 j ∧ p = .int .i64 P ∧ 0 ≤ P ∧ P ≤ 1000 * i + j) (fun a _ _ => d - (intOf a).toNat)
      case atStart => exact ⟨0, P, by omega, rfl, rfl, by omega, by omega⟩
      case round =>
        obtain ⟨j, P2, hj, rfl, rfl, hP2, hPN⟩ := hrel
        by_cases hjl : j < d - 1
        · have c1 := Hcx.out j (by omega)
          have c2 := Hcx.out (j + 1) (by omega)
          have c3 := Hcx1.out j (by omega)
          have c4 := Hcx1.out (j + 1) (by omega)
          generalize f j i = v1 at *
          generalize f (j + 1) i = v2 at *
          generalize f j (i + 1) = v3 at *
          generalize f (j + 1) (i + 1) = v4 at *
          cases hA : (v1 == v2)
          · go_wp2_with fail
            go_round
            case rel => exact ⟨j + 1, _, by omega, by go_num, rfl, by omega, by omega⟩
            case measure => simp [intOf]; omega
          · cases hB : (v1 == v3)
            · go_wp2_with fail
              go_round
              case rel => exact ⟨j + 1, _, by omega, by go_num, rfl, by omega, by omega⟩
              case measure => simp [intOf]; omega
            · cases hC : (v1 == v4)
              · go_wp2_with fail
                go_round
                case rel => exact ⟨j + 1, _, by omega, by go_num, rfl, by omega, by omega⟩
                case measure => simp [intOf]; omega
              · go_wp2_with fail
                go_round
                case rel => exact ⟨j + 1, _, by omega, by go_num, rfl, by omega, by omega⟩
                case measure => simp [intOf]; omega
        · obtain rfl : j = d - 1 := by omega
          go_wp2_with fail
          go_round
          case rel => exact ⟨i + 1, _, by omega, by go_num, rfl, by omega, by omega⟩
          case measure => simp [intOf]; omega
    · obtain rfl : i = d - 1 := by omega
      go_wp2_with fail
      go_ret
      exact ⟨_, rfl, by omega, by omega, rfl⟩
end Go.Proofs.YtnpkihobbcglcaaGreatDoor
/- A region's operations in pieces: behind each piece only some slots are new, and the last of them is a bool. -/
open Go Go.RowKit
namespace Go.QZ
variable {P : Program}

theorem oper_wp_then {o : Oper} {a : Act} {w : World} {K K' N : Act → World → Prop} {Q : Exit → Act → World → Prop} (h : ∀ a w, K a w → K' a w)
    (hh : o.wp P a w K (Exit.then N Q)) : o.wp P a w K' Q := by
  unfold Oper.wp at *
  generalize (execOp a.eval o).run P w = r at *
  cases r with
  | ok n w' =>
    cases n <;> simp only [Oper.upon] at hh ⊢ <;>
      first
        | exact h _ _ hh
        | exact Calls.mono hh (fun e w'' he => by cases e <;> first | exact h _ _ he | exact he)
        | exact Rows.mono hh (fun _ _ he => h _ _ he)
  | halt x w' => cases x <;> simp only [Oper.upon] at hh ⊢ <;> exact hh
theorem wpList_split {ops : Array Oper} {Q : Exit → Act → World → Prop} {l2 : List Oper} : ∀ (l1 : List Oper) (a : Act) (w : World), wpList P ops (Exit.then (wpList P ops Q l2) Q) l1 a w → wpList P ops Q (l1 ++ l2) a w
  | [], _, _, h => h
  | o :: l1, a, w, h => by
    show (if _ then _ else _)
    have h : (if Region.wanted o (yielded ops a.tmps) then o.wp P a w (wpList P ops (Exit.then (wpList P ops Q l2) Q) l1) (Exit.then (wpList P ops Q l2) Q) ∨ (o.asks P a w ∧ LetsOut (Exit.then (wpList P ops Q l2) Q)) else wpList P ops (Exit.then (wpList P ops Q l2) Q) l1 (a.put o.dst undef) w) := h
    split
    · rename_i hw
      rw [if_pos hw] at h
      exact h.imp (oper_wp_then (fun a w hk => wpList_split l1 a w hk)) (fun hk => ⟨hk.1, hk.2⟩)
    · rename_i hw
      rw [if_neg hw] at h
      exact wpList_split l1 _ _ h
theorem wpList_meet {ops : Array Oper} {Q : Exit → Act → World → Prop} {l : List Oper} {a : Act} {w : World} (n lo hi : Nat) (h1 : lo < hi) (h2 : hi ≤ a.tmps.toList.length)
    (hx : ∀ K : Act → World → Prop, (∀ a' w', Meets lo hi a w a' w' → K a' w') → wpList P ops (Exit.then K Q) (l.take n) a w)
    (hy : ∀ (u : Nat → Value) (b : Bool), wpList P ops Q (l.drop n) { tmps := (a.tmps.toList.take lo ++ ((List.range (hi - 1 - lo)).map u ++ (.bool b :: a.tmps.toList.drop hi))).toArray, defers := a.defers } w) : wpList P ops Q l a w := by
  rw [← List.take_append_drop n l]
  refine wpList_split _ _ _ (hx _ fun a' w' hm => ?_)
  obtain ⟨rfl, hd, ht, hr, hl, b, hb⟩ := hm
  have e := list_parts a'.tmps.toList lo hi (.bool b) undef h1 (by omega) hb
  rw [ht, hr] at e
  have := hy (fun i => a'.tmps.toList.getD (lo + i) undef) b
  rw [← e] at this
  have e2 : a' = { tmps := a'.tmps.toList.toArray, defers := a.defers } := by
    cases a'; simp only at hd ⊢; rw [hd]
  rw [e2]; exact this
end Go.QZ
