/- Part 4 of the proof of FnPXQuick (a QR code that is written for a text says this text in a picture): parts of the road. No condition. -/
import Derived.Test.YtnpkihobbcglcaaGreatDoorG02
import Derived.Test.YtnpkihobbcglcaaGreatDoorG03
open Go Go.RowKit
namespace Go.Proofs.YtnpkihobbcglcaaGreatDoor
open Go.QZ

/-- A field of a table. -/
def tget (tab : List (List Int)) (i j : Nat) : Int := ith (tab.getD i []) j

theorem Table.int {w0 w : World} {k : IntKind} {tab : List (List Int)} (h : Table w0 w (tab.map (cellsI k))) (m : Nat) (hm : tab.all (fun r => r.length == m) = true) (i j : Nat) (hi : i < tab.length) (hj : j < m) :
    w.cell? ⟨w0.heap.size + i, j, none⟩ = some (.int k (tget tab i j)) := by
  have hl : (tab.getD i []).length = m := by
    rw [List.getD_eq_getElem?_getD, List.getElem?_eq_getElem hi]
    simpa using List.all_eq_true.1 hm _ (List.getElem_mem hi)
  rw [h.cell i (by simpa using hi)]
  have : (tab.map (cellsI k)).getD i [] = cellsI k (tab.getD i []) := by
    simp [List.getD_eq_getElem?_getD, hi]
  rw [this, cellsI_get _ _ _ (by omega)]; rfl
theorem Table.row {w0 w : World} {k : IntKind} {tab : List (List Int)} (h : Table w0 w (tab.map (cellsI k))) (m : Nat) (hm : tab.all (fun r => r.length == m) = true) (i : Nat) (hi : i < tab.length) (n : Nat) (hn : tab.length = n) :
    w.cell? ⟨w0.heap.size + n, i, none⟩ = some (.slice (some ⟨w0.heap.size + i, 0, none⟩) m m) := by
  have hl : (tab.getD i []).length = m := by
    rw [List.getD_eq_getElem?_getD, List.getElem?_eq_getElem hi]
    simpa using List.all_eq_true.1 hm _ (List.getElem_mem hi)
  have := h.ref i (by simpa using hi)
  rw [List.length_map, hn] at this
  have e : ((tab.map (cellsI k)).getD i []).length = m := by
    simp [List.getD_eq_getElem?_getD, hi, cellsI_length]
    rw [← hl, List.getD_eq_getElem?_getD, List.getElem?_eq_getElem hi]; rfl
  rw [e] at this
  exact this

/-- A patch from a place on: so many whole rows and cells of the next one are t. -/
def put2 (f : Nat → Nat → Int) (x0 y0 : Nat) (t : Nat → Nat → Int) (nx k j : Nat) : Nat → Nat → Int :=
  fun a b => if x0 ≤ a ∧ a < x0 + nx ∧ y0 ≤ b ∧ (b < y0 + k ∨ (b = y0 + k ∧ a < x0 + j)) then t (a - x0) (b - y0) else f a b

theorem put2_zero (f : Nat → Nat → Int) (x0 y0 : Nat) (t : Nat → Nat → Int) (nx : Nat) : put2 f x0 y0 t nx 0 0 = f := by
  funext a b; unfold put2; rw [if_neg (by omega)]
theorem put2_step (f : Nat → Nat → Int) (x0 y0 : Nat) (t : Nat → Nat → Int) (nx k j : Nat) (hj : j < nx) : upd (put2 f x0 y0 t nx k j) (x0 + j) (y0 + k) (t j k) = put2 f x0 y0 t nx k (j + 1) := by
  funext a b
  unfold upd put2
  by_cases h1 : a = x0 + j ∧ b = y0 + k
  · obtain ⟨rfl, rfl⟩ := h1
    rw [if_pos ⟨rfl, rfl⟩, if_pos (by omega), Nat.add_sub_cancel_left, Nat.add_sub_cancel_left]
  · rw [if_neg h1]
    by_cases h2 : x0 ≤ a ∧ a < x0 + nx ∧ y0 ≤ b ∧ (b < y0 + k ∨ (b = y0 + k ∧ a < x0 + j))
    · rw [if_pos h2, if_pos (by omega)]
    · rw [if_neg h2, if_neg (by omega)]
theorem put2_row (f : Nat → Nat → Int) (x0 y0 : Nat) (t : Nat → Nat → Int) (nx k : Nat) : put2 f x0 y0 t nx k nx = put2 f x0 y0 t nx (k + 1) 0 := by
  funext a b
  unfold put2
  by_cases h2 : x0 ≤ a ∧ a < x0 + nx ∧ y0 ≤ b ∧ (b < y0 + k ∨ (b = y0 + k ∧ a < x0 + nx))
  · rw [if_pos h2, if_pos (by omega)]
  · rw [if_neg h2, if_neg (by omega)]
theorem put2_next (f : Nat → Nat → Int) (x0 y0 : Nat) (t : Nat → Nat → Int) (nx k j a b : Nat) (h : b = y0 + k) (h2 : x0 + j ≤ a) : put2 f x0 y0 t nx k j a b = f a b := by
  unfold put2; rw [if_neg (by omega)]

theorem isEmpty_c (w : World) (v : Int) : Calls Tryz.prog 143 #[.int .i8 v] w fun e w' => e = .returned (.bool (decide (v = -1))) ∧ w = w' := by
  go_enter Tryz.func143, Tryz.ntmps143
  go_wp2
  go_ret
  exact ⟨rfl, rfl⟩

/-- What became of a matrix. -/
def Drawn (w : World) (T d : Nat) (f : Nat → Nat → Int) (v : Value) (e : Ending) (w' : World) : Prop :=
  e = .returned v ∧ GM w' T d f ∧ QZ.Mod (GMb T d) w w'

def pdpF (x y : Nat) : Int := tget pdpT y x

set_option maxHeartbeats 800000 in
theorem embedPDP_c (w : World) (T d : Nat) (f : Nat → Nat → Int) (h : GM w T d f) (M : Nat) (hM : M = T + d + 1) (x0 y0 : Int) (hx0 : 0 ≤ x0) (hx : x0 + 7 ≤ d) (hy0 : 0 ≤ y0) (hy : y0 + 7 ≤ d) :
    Calls Tryz.prog 174 #[.int .i64 x0, .int .i64 y0, .pointer (some ⟨M, 0, none⟩)] w (Drawn w T d (put2 f x0.toNat y0.toNat pdpF 7 7 0) (.tuple #[])) := by
  obtain ⟨x0, rfl⟩ := Int.eq_ofNat_of_zero_le hx0
  obtain ⟨y0, rfl⟩ := Int.eq_ofNat_of_zero_le hy0
  rw [Int.toNat_natCast, Int.toNat_natCast]
  have hs := h.small
  have H := Lib.hid h; have HM := Lib.hid hM
  clear h hM
  go_enter Tryz.func174, Tryz.ntmps174
  go_wp2_with fail
  go_loopw [6, 7, 8] (fun a _ _ wr => ∃ k : Nat, k ≤ 7 ∧ a = .int .i64 k ∧ GM wr T d (put2 f x0 y0 pdpF 7 k 0) ∧ QZ.Mod (GMb T d) w wr) (fun a _ _ _ => 7 - (intOf a).toNat)
  case atStart => exact ⟨0, by omega, rfl, by rw [put2_zero]; exact H.out, QZ.Mod.refl _ _⟩
  case round =>
    obtain ⟨k, hk, rfl, hg, hm⟩ := hrel
    by_cases hlt : k < 7
    · have Hg := Lib.hid hg; have Hm := Lib.hid hm
      clear hg hm
      go_wp2_with fail
      refine (pdp_c wr).mono ?_
      rintro e w1 ⟨rfl, ht⟩
      have href := Table.row ht 7 (by decide) k hlt 7 rfl
      have Ht := Lib.hid ht
      have hR : wr.heap.size + k < w1.heap.size := by have := ht.size; simp only [List.length_map] at this; have : pdpT.length = 7 := rfl; omega
      have Hg1 := Lib.hid (Hg.out.mod ht.mod (fun _ _ _ => fun f => f))
      have Hm1 := Lib.hid (Hm.out.then ht.mod (fun _ _ f => f.elim))
      have HR : Hid (T + d + 1 < wr.heap.size + k) := by have h1 := Hg.out.head.lt; show _ < _; omega
      generalize wr.heap.size + 7 = A at *
      generalize hRR : wr.heap.size + k = R at *
      have HRR := Lib.hid hRR
      clear ht hR hRR
      go_wp2_with fail
      go_loopw [8] (fun b wq => ∃ j : Nat, j ≤ 7 ∧ b = .int .i64 j ∧ GM wq T d (put2 f x0 y0 pdpF 7 k j) ∧ QZ.Mod (GMb T d) w1 wq) (fun b _ => 7 - (intOf b).toNat)
      case atStart => exact ⟨0, by omega, rfl, Hg1.out, QZ.Mod.refl _ _⟩
      case round =>
        obtain ⟨j, hj, rfl, hg2, hm2⟩ := hrel
        clear href
        by_cases hjlt : j < 7
        · have hcell := Table.int Ht.out 7 (by decide) k j hlt hjlt
          rw [HRR.out] at hcell
          have hc2 := cell_mod hm2 (R := R) (by have := HR.out; unfold GMb; omega) hcell
          have Hg2 := Lib.hid hg2; have Hm2 := Lib.hid hm2
          clear hcell hg2 hm2
          go_wp2_with fail
          refine (gmSet_c wr T d _ Hg2.out M HM.out _ _ (by omega) (by omega) (by omega) (by omega) _).mono ?_
          rintro e w3 ⟨rfl, hg3, hm3⟩
          rw [show ((x0 : Int) + (j : Int)).toNat = x0 + j by omega, show ((y0 : Int) + (k : Int)).toNat = y0 + k by omega] at hg3
          have hg4 : GM w3 T d (put2 f x0 y0 pdpF 7 k (j + 1)) := by
            have := hg3
            rwa [show tget pdpT k j = pdpF j k from rfl, put2_step _ _ _ _ _ _ _ hjlt] at this
          have Hg4 := Lib.hid hg4; have Hm4 := Lib.hid (Hm2.out.trans hm3)
          clear hg3 hg4 hm3
          go_wp2_with fail
          go_roundw
          case rel => exact ⟨j + 1, by omega, by go_num, Hg4.out, Hm4.out⟩
          case measure => simp [intOf]; omega
        · obtain rfl : j = 7 := by omega
          rw [put2_row] at hg2
          have Hg2 := Lib.hid hg2; have Hm2 := Lib.hid (Hm1.out.trans hm2)
          clear hg2 hm2
          go_wp2_with fail
          go_roundw
          case rel => exact ⟨k + 1, by omega, by go_num, Hg2.out, Hm2.out⟩
          case measure => simp [intOf]; omega
    · obtain rfl : k = 7 := by omega
      have Hg := Lib.hid hg; have Hm := Lib.hid hm
      clear hg hm
      go_wp2_with fail
      go_end0
      exact ⟨rfl, Hg.out, Hm.out⟩
end Go.Proofs.YtnpkihobbcglcaaGreatDoor
open Go Go.RowKit
namespace Go.Proofs.YtnpkihobbcglcaaGreatDoor
open Go.QZ

def papF (x y : Nat) : Int := tget papT y x

set_option maxHeartbeats 800000 in
theorem embedPAP_c (w : World) (T d : Nat) (f : Nat → Nat → Int) (h : GM w T d f) (M : Nat) (hM : M = T + d + 1) (x0 y0 : Int) (hx0 : 0 ≤ x0) (hx : x0 + 5 ≤ d) (hy0 : 0 ≤ y0) (hy : y0 + 5 ≤ d) :
    Calls Tryz.prog 179 #[.int .i64 x0, .int .i64 y0, .pointer (some ⟨M, 0, none⟩)] w (Drawn w T d (put2 f x0.toNat y0.toNat papF 5 5 0) (.tuple #[])) := by
  obtain ⟨x0, rfl⟩ := Int.eq_ofNat_of_zero_le hx0
  obtain ⟨y0, rfl⟩ := Int.eq_ofNat_of_zero_le hy0
  rw [Int.toNat_natCast, Int.toNat_natCast]
  have hs := h.small
  have H := Lib.hid h; have HM := Lib.hid hM
  clear h hM
  go_enter Tryz.func179, Tryz.ntmps179
  go_wp2_with fail
  go_loopw [6, 7, 8] (fun a _ _ wr => ∃ k : Nat, k ≤ 5 ∧ a = .int .i64 k ∧ GM wr T d (put2 f x0 y0 papF 5 k 0) ∧ QZ.Mod (GMb T d) w wr) (fun a _ _ _ => 5 - (intOf a).toNat)
  case atStart => exact ⟨0, by omega, rfl, by rw [put2_zero]; exact H.out, QZ.Mod.refl _ _⟩
  case round =>
    obtain ⟨k, hk, rfl, hg, hm⟩ := hrel
    by_cases hlt : k < 5
    · have Hg := Lib.hid hg; have Hm := Lib.hid hm
      clear hg hm
      go_wp2_with fail
      refine (pap_c wr).mono ?_
      rintro e w1 ⟨rfl, ht⟩
      have href := Table.row ht 5 (by decide) k hlt 5 rfl
      have Ht := Lib.hid ht
      have hR : wr.heap.size + k < w1.heap.size := by have := ht.size; simp only [List.length_map] at this; have : papT.length = 5 := rfl; omega
      have Hg1 := Lib.hid (Hg.out.mod ht.mod (fun _ _ _ => fun f => f))
      have Hm1 := Lib.hid (Hm.out.then ht.mod (fun _ _ f => f.elim))
      have HR : Hid (T + d + 1 < wr.heap.size + k) := by have h1 := Hg.out.head.lt; show _ < _; omega
      generalize wr.heap.size + 5 = A at *
      generalize hRR : wr.heap.size + k = R at *
      have HRR := Lib.hid hRR
      clear ht hR hRR
      go_wp2_with fail
      go_loopw [8] (fun b wq => ∃ j : Nat, j ≤ 5 ∧ b = .int .i64 j ∧ GM wq T d (put2 f x0 y0 papF 5 k j) ∧ QZ.Mod (GMb T d) w1 wq) (fun b _ => 5 - (intOf b).toNat)
      case atStart => exact ⟨0, by omega, rfl, Hg1.out, QZ.Mod.refl _ _⟩
      case round =>
        obtain ⟨j, hj, rfl, hg2, hm2⟩ := hrel
        clear href
        by_cases hjlt : j < 5
        · have hcell := Table.int Ht.out 5 (by decide) k j hlt hjlt
          rw [HRR.out] at hcell
          have hc2 := cell_mod hm2 (R := R) (by have := HR.out; unfold GMb; omega) hcell
          have Hg2 := Lib.hid hg2; have Hm2 := Lib.hid hm2
          clear hcell hg2 hm2
          go_wp2_with fail
          refine (gmSet_c wr T d _ Hg2.out M HM.out _ _ (by omega) (by omega) (by omega) (by omega) _).mono ?_
          rintro e w3 ⟨rfl, hg3, hm3⟩
          rw [show ((x0 : Int) + (j : Int)).toNat = x0 + j by omega, show ((y0 : Int) + (k : Int)).toNat = y0 + k by omega] at hg3
          have hg4 : GM w3 T d (put2 f x0 y0 papF 5 k (j + 1)) := by
            have := hg3
            rwa [show tget papT k j = papF j k from rfl, put2_step _ _ _ _ _ _ _ hjlt] at this
          have Hg4 := Lib.hid hg4; have Hm4 := Lib.hid (Hm2.out.trans hm3)
          clear hg3 hg4 hm3
          go_wp2_with fail
          go_roundw
          case rel => exact ⟨j + 1, by omega, by go_num, Hg4.out, Hm4.out⟩
          case measure => simp [intOf]; omega
        · obtain rfl : j = 5 := by omega
          rw [put2_row] at hg2
          have Hg2 := Lib.hid hg2; have Hm2 := Lib.hid (Hm1.out.trans hm2)
          clear hg2 hm2
          go_wp2_with fail
          go_roundw
          case rel => exact ⟨k + 1, by omega, by go_num, Hg2.out, Hm2.out⟩
          case measure => simp [intOf]; omega
    · obtain rfl : k = 5 := by omega
      have Hg := Lib.hid hg; have Hm := Lib.hid hm
      clear hg hm
      go_wp2_with fail
      go_end0
      exact ⟨rfl, Hg.out, Hm.out⟩

theorem GM.gw {w : World} {T d : Nat} {f : Nat → Nat → Int} (h : GM w T d f) {M : Nat} (hM : M = T + d + 1) : w.cell? ⟨M, 0 + 1, none⟩ = some (.int .i64 d) := by rw [hM]; exact h.c1
theorem GM.gh {w : World} {T d : Nat} {f : Nat → Nat → Int} (h : GM w T d f) {M : Nat} (hM : M = T + d + 1) : w.cell? ⟨M, 0 + 2, none⟩ = some (.int .i64 d) := by rw [hM]; exact h.c2

set_option maxHeartbeats 800000 in
theorem embedHS_c (w : World) (T d : Nat) (f : Nat → Nat → Int) (h : GM w T d f) (M : Nat) (hM : M = T + d + 1) (x0 y0 : Int) (hx0 : 0 ≤ x0) (hx : x0 + 8 ≤ d) (hy0 : 0 ≤ y0) (hy : y0 < d) (hE : ∀ i, i < 8 → f (x0.toNat + i) y0.toNat = -1) :
    Calls Tryz.prog 175 #[.int .i64 x0, .int .i64 y0, .pointer (some ⟨M, 0, none⟩)] w (Drawn w T d (put2 f x0.toNat y0.toNat (fun _ _ => 0) 8 1 0) .nilIface) := by
  obtain ⟨x0, rfl⟩ := Int.eq_ofNat_of_zero_le hx0
  obtain ⟨y0, rfl⟩ := Int.eq_ofNat_of_zero_le hy0
  rw [Int.toNat_natCast, Int.toNat_natCast] at *
  have hs := h.small
  have H := Lib.hid h; have HM := Lib.hid hM; have HE := Lib.hid hE
  clear h hM hE
  go_enter Tryz.func175, Tryz.ntmps175
  go_wp2_with fail
  go_loopw [7] (fun a wr => ∃ k : Nat, k ≤ 8 ∧ a = .int .i64 k ∧ GM wr T d (put2 f x0 y0 (fun _ _ => 0) 8 0 k) ∧ QZ.Mod (GMb T d) w wr) (fun a _ => 8 - (intOf a).toNat)
  case atStart => exact ⟨0, by omega, rfl, by rw [put2_zero]; exact H.out, QZ.Mod.refl _ _⟩
  case round =>
    obtain ⟨k, hk, rfl, hg, hm⟩ := hrel
    by_cases hlt : k < 8
    · have Hg := Lib.hid hg; have Hm := Lib.hid hm
      clear hg hm
      go_wp2_with fail
      refine (gmGet_c wr T d _ Hg.out M HM.out _ _ (by omega) (by omega) (by omega) (by omega)).mono ?_
      rintro e w1 ⟨rfl, rfl⟩
      rw [show ((x0 : Int) + (k : Int)).toNat = x0 + k by omega, Int.toNat_natCast, put2_next _ _ _ _ _ _ _ _ _ (by omega) (Nat.le_refl _), HE.out k hlt]
      go_wp2_with fail
      refine (isEmpty_c wr (-1)).mono ?_
      rintro e w1 ⟨rfl, rfl⟩
      go_wp2_with fail
      refine (gmSet_c wr T d _ Hg.out M HM.out _ _ (by omega) (by omega) (by omega) (by omega) _).mono ?_
      rintro e w3 ⟨rfl, hg3, hm3⟩
      rw [show ((x0 : Int) + (k : Int)).toNat = x0 + k by omega, Int.toNat_natCast] at hg3
      have hg4 : GM w3 T d (put2 f x0 y0 (fun _ _ => 0) 8 0 (k + 1)) := by
        have := put2_step f x0 y0 (fun _ _ => 0) 8 0 k hlt
        rw [Nat.add_zero] at this
        rwa [this] at hg3
      have Hg4 := Lib.hid hg4; have Hm4 := Lib.hid (Hm.out.trans hm3)
      clear hg3 hg4 hm3
      go_wp2_with fail
      go_roundw
      case rel => exact ⟨k + 1, by omega, by go_num, Hg4.out, Hm4.out⟩
      case measure => simp [intOf]; omega
    · obtain rfl : k = 8 := by omega
      rw [put2_row] at hg
      have Hg := Lib.hid hg; have Hm := Lib.hid hm
      clear hg hm
      go_wp2_with fail
      go_ret
      exact ⟨rfl, Hg.out, Hm.out⟩

set_option maxHeartbeats 800000 in
theorem embedVS_c (w : World) (T d : Nat) (f : Nat → Nat → Int) (h : GM w T d f) (M : Nat) (hM : M = T + d + 1) (x0 y0 : Int) (hx0 : 0 ≤ x0) (hx : x0 < d) (hy0 : 0 ≤ y0) (hy : y0 + 7 ≤ d) (hE : ∀ i, i < 7 → f x0.toNat (y0.toNat + i) = -1) :
    Calls Tryz.prog 176 #[.int .i64 x0, .int .i64 y0, .pointer (some ⟨M, 0, none⟩)] w (Drawn w T d (put2 f x0.toNat y0.toNat (fun _ _ => 0) 1 7 0) .nilIface) := by
  obtain ⟨x0, rfl⟩ := Int.eq_ofNat_of_zero_le hx0
  obtain ⟨y0, rfl⟩ := Int.eq_ofNat_of_zero_le hy0
  rw [Int.toNat_natCast, Int.toNat_natCast] at *
  have hs := h.small
  have H := Lib.hid h; have HM := Lib.hid hM; have HE := Lib.hid hE
  clear h hM hE
  go_enter Tryz.func176, Tryz.ntmps176
  go_wp2_with fail
  go_loopw [7] (fun a wr => ∃ k : Nat, k ≤ 7 ∧ a = .int .i64 k ∧ GM wr T d (put2 f x0 y0 (fun _ _ => 0) 1 k 0) ∧ QZ.Mod (GMb T d) w wr) (fun a _ => 7 - (intOf a).toNat)
  case atStart => exact ⟨0, by omega, rfl, by rw [put2_zero]; exact H.out, QZ.Mod.refl _ _⟩
  case round =>
    obtain ⟨k, hk, rfl, hg, hm⟩ := hrel
    by_cases hlt : k < 7
    · have Hg := Lib.hid hg; have Hm := Lib.hid hm
      clear hg hm
      go_wp2_with fail
      refine (gmGet_c wr T d _ Hg.out M HM.out _ _ (by omega) (by omega) (by omega) (by omega)).mono ?_
      rintro e w1 ⟨rfl, rfl⟩
      rw [show ((y0 : Int) + (k : Int)).toNat = y0 + k by omega, Int.toNat_natCast, put2_next _ _ _ _ _ _ _ _ _ rfl (by omega), HE.out k hlt]
      go_wp2_with fail
      refine (isEmpty_c wr (-1)).mono ?_
      rintro e w1 ⟨rfl, rfl⟩
      go_wp2_with fail
      refine (gmSet_c wr T d _ Hg.out M HM.out _ _ (by omega) (by omega) (by omega) (by omega) _).mono ?_
      rintro e w3 ⟨rfl, hg3, hm3⟩
      rw [show ((y0 : Int) + (k : Int)).toNat = y0 + k by omega, Int.toNat_natCast] at hg3
      have hg4 : GM w3 T d (put2 f x0 y0 (fun _ _ => 0) 1 (k + 1) 0) := by
        have := put2_step f x0 y0 (fun _ _ => 0) 1 k 0 (by omega)
        rw [Nat.add_zero] at this
        rwa [this, put2_row] at hg3
      have Hg4 := Lib.hid hg4; have Hm4 := Lib.hid (Hm.out.trans hm3)
      clear hg3 hg4 hm3
      go_wp2_with fail
      go_roundw
      case rel => exact ⟨k + 1, by omega, by go_num, Hg4.out, Hm4.out⟩
      case measure => simp [intOf]; omega
    · obtain rfl : k = 7 := by omega
      have Hg := Lib.hid hg; have Hm := Lib.hid hm
      clear hg hm
      go_wp2_with fail
      go_ret
      exact ⟨rfl, Hg.out, Hm.out⟩

set_option maxHeartbeats 800000 in
theorem embedDark_c (w : World) (T d : Nat) (f : Nat → Nat → Int) (h : GM w T d f) (M : Nat) (hM : M = T + d + 1) (hd : 21 ≤ d) (hE : f 8 (d - 8) = -1) :
    Calls Tryz.prog 136 #[.pointer (some ⟨M, 0, none⟩)] w (Drawn w T d (upd f 8 (d - 8) 1) .nilIface) := by
  have hs := h.small
  have H := Lib.hid h; have HM := Lib.hid hM; have HE := Lib.hid hE
  clear h hM hE
  go_enter Tryz.func136, Tryz.ntmps136
  go_wp2_with fail
  refine (ByteMatrix_GetHeight_c w M 0 _ (H.out.gh HM.out)).mono ?_
  rintro e w1 ⟨rfl, rfl⟩
  go_wp2_with fail
  refine (gmGet_c w T d _ H.out M HM.out _ _ (by omega) (by omega) (by omega) (by omega)).mono ?_
  rintro e w1 ⟨rfl, rfl⟩
  rw [show ((d : Int) - 8).toNat = d - 8 by omega, show ((8 : Int)).toNat = 8 from rfl, HE.out]
  go_wp2_with fail
  refine (ByteMatrix_GetHeight_c w M 0 _ (H.out.gh HM.out)).mono ?_
  rintro e w1 ⟨rfl, rfl⟩
  go_wp2_with fail
  refine (gmSet_c w T d _ H.out M HM.out _ _ (by omega) (by omega) (by omega) (by omega) _).mono ?_
  rintro e w3 ⟨rfl, hg3, hm3⟩
  rw [show ((d : Int) - 8).toNat = d - 8 by omega, show ((8 : Int)).toNat = 8 from rfl] at hg3
  have Hg := Lib.hid hg3; have Hm := Lib.hid hm3
  clear hg3 hm3
  go_wp2_with fail
  go_ret
  exact ⟨rfl, Hg.out, Hm.out⟩
end Go.Proofs.YtnpkihobbcglcaaGreatDoor
open Go Go.RowKit
namespace Go.Proofs.YtnpkihobbcglcaaGreatDoor
open Go.QZ

theorem put2_out {f : Nat → Nat → Int} {x0 y0 : Nat} {t : Nat → Nat → Int} {nx k a b : Nat} (h : ¬ (x0 ≤ a ∧ a < x0 + nx ∧ y0 ≤ b ∧ b < y0 + k)) : put2 f x0 y0 t nx k 0 a b = f a b := by
  unfold put2; rw [if_neg (by omega)]

def zF (_ _ : Nat) : Int := 0
def eF (_ _ : Nat) : Int := -1
def pf3 (d : Nat) : Nat → Nat → Int := put2 (put2 (put2 eF 0 0 pdpF 7 7 0) (d - 7) 0 pdpF 7 7 0) 0 (d - 7) pdpF 7 7 0
def pf4 (d : Nat) : Nat → Nat → Int := put2 (pf3 d) 0 7 zF 8 1 0
def pf5 (d : Nat) : Nat → Nat → Int := put2 (pf4 d) (d - 8) 7 zF 8 1 0
def pf6 (d : Nat) : Nat → Nat → Int := put2 (pf5 d) 0 (d - 8) zF 8 1 0
def pf7 (d : Nat) : Nat → Nat → Int := put2 (pf6 d) 7 0 zF 1 7 0
def pf8 (d : Nat) : Nat → Nat → Int := put2 (pf7 d) (d - 8) 0 zF 1 7 0
def pf9 (d : Nat) : Nat → Nat → Int := put2 (pf8 d) 7 (d - 7) zF 1 7 0
theorem pf3_out {d a b : Nat} (h : ¬ (a < 7 ∧ b < 7) ∧ ¬ (d - 7 ≤ a ∧ b < 7) ∧ ¬ (a < 7 ∧ d - 7 ≤ b)) : pf3 d a b = -1 := by
  unfold pf3; rw [put2_out (by omega), put2_out (by omega), put2_out (by omega)]; rfl

set_option maxHeartbeats 1600000 in
theorem embedPDPS_c (w : World) (T d : Nat) (h : GM w T d eF) (M : Nat) (hM : M = T + d + 1) (hd : 21 ≤ d) :
    Calls Tryz.prog 135 #[.pointer (some ⟨M, 0, none⟩)] w (Drawn w T d (pf9 d) .nilIface) := by
  have hs := h.small
  have H := Lib.hid h; have HM := Lib.hid hM
  clear h hM
  have n7 : ((d : Int) - 7).toNat = d - 7 := by omega
  have n8 : ((d : Int) - 8).toNat = d - 8 := by omega
  have N7 := Lib.hid n7; have N8 := Lib.hid n8
  clear n7 n8
  go_enter Tryz.func135, Tryz.ntmps135
  go_wp2_with fail
  refine (pdp_c w).mono ?_
  rintro e w0 ⟨rfl, ht⟩
  have href := Table.row ht 7 (by decide) 0 (by decide) 7 rfl
  have Hg0 := Lib.hid (H.out.mod ht.mod (fun _ _ _ => fun f => f))
  have Hm0 := Lib.hid (Mod.none (S := GMb T d) ht.mod)
  clear ht
  go_wp2_with fail
  clear href
  refine (embedPDP_c w0 T d _ Hg0.out M HM.out _ _ (by omega) (by omega) (by omega) (by omega)).mono ?_
  rintro e w1 ⟨rfl, hg, hm⟩
  have Hg1 := Lib.hid hg; have Hm1 := Lib.hid (Hm0.out.trans hm)
  clear hg hm
  go_wp2_with fail
  refine (ByteMatrix_GetWidth_c w1 M 0 _ (Hg1.out.gw HM.out)).mono ?_
  rintro e w2 ⟨rfl, rfl⟩
  go_wp2_with fail
  refine (embedPDP_c w1 T d _ Hg1.out M HM.out _ _ (by omega) (by omega) (by omega) (by omega)).mono ?_
  rintro e w2 ⟨rfl, hg, hm⟩
  rw [N7.out] at hg
  have Hg2 := Lib.hid hg; have Hm2 := Lib.hid (Hm1.out.trans hm)
  clear hg hm
  go_wp2_with fail
  refine (ByteMatrix_GetWidth_c w2 M 0 _ (Hg2.out.gw HM.out)).mono ?_
  rintro e w3 ⟨rfl, rfl⟩
  go_wp2_with fail
  refine (embedPDP_c w2 T d _ Hg2.out M HM.out _ _ (by omega) (by omega) (by omega) (by omega)).mono ?_
  rintro e w3 ⟨rfl, hg, hm⟩
  rw [N7.out] at hg
  have hg : GM w3 T d (pf3 d) := hg
  have Hg3 := Lib.hid hg; have Hm3 := Lib.hid (Hm2.out.trans hm)
  clear hg hm
  go_wp2_with fail
  refine (embedHS_c w3 T d _ Hg3.out M HM.out _ _ (by omega) (by omega) (by omega) (by omega) (fun i hi => pf3_out (by simp only [Int.toNat_zero]; omega))).mono ?_
  rintro e w4 ⟨rfl, hg, hm⟩
  have hg : GM w4 T d (pf4 d) := hg
  have Hg4 := Lib.hid hg; have Hm4 := Lib.hid (Hm3.out.trans hm)
  clear hg hm
  go_wp2_with fail
  refine (ByteMatrix_GetWidth_c w4 M 0 _ (Hg4.out.gw HM.out)).mono ?_
  rintro e w5 ⟨rfl, rfl⟩
  go_wp2_with fail
  refine (embedHS_c w4 T d _ Hg4.out M HM.out _ _ (by omega) (by omega) (by omega) (by omega) (fun i hi => by rw [N8.out]; unfold pf4; rw [put2_out (by omega)]; exact pf3_out (by omega))).mono ?_
  rintro e w5 ⟨rfl, hg, hm⟩
  rw [N8.out] at hg
  have hg : GM w5 T d (pf5 d) := hg
  have Hg5 := Lib.hid hg; have Hm5 := Lib.hid (Hm4.out.trans hm)
  clear hg hm
  go_wp2_with fail
  refine (ByteMatrix_GetWidth_c w5 M 0 _ (Hg5.out.gw HM.out)).mono ?_
  rintro e w6 ⟨rfl, rfl⟩
  go_wp2_with fail
  refine (embedHS_c w5 T d _ Hg5.out M HM.out _ _ (by omega) (by omega) (by omega) (by omega) (fun i hi => by rw [N8.out]; unfold pf5 pf4; rw [put2_out (by simp only [Int.toNat_zero]; omega), put2_out (by simp only [Int.toNat_zero]; omega)]; exact pf3_out (by simp only [Int.toNat_zero]; omega))).mono ?_
  rintro e w6 ⟨rfl, hg, hm⟩
  rw [N8.out] at hg
  have hg : GM w6 T d (pf6 d) := hg
  have Hg6 := Lib.hid hg; have Hm6 := Lib.hid (Hm5.out.trans hm)
  clear hg hm
  go_wp2_with fail
  refine (embedVS_c w6 T d _ Hg6.out M HM.out _ _ (by omega) (by omega) (by omega) (by omega) (fun i hi => by
    rw [show (7 : Int).toNat = 7 from rfl, Int.toNat_zero]
    unfold pf6 pf5 pf4; rw [put2_out (by omega), put2_out (by omega), put2_out (by omega)]; exact pf3_out (by omega))).mono ?_
  rintro e w7 ⟨rfl, hg, hm⟩
  have hg : GM w7 T d (pf7 d) := hg
  have Hg7 := Lib.hid hg; have Hm7 := Lib.hid (Hm6.out.trans hm)
  clear hg hm
  go_wp2_with fail
  refine (ByteMatrix_GetHeight_c w7 M 0 _ (Hg7.out.gh HM.out)).mono ?_
  rintro e w8 ⟨rfl, rfl⟩
  go_wp2_with fail
  have n8' : ((d : Int) - 7 - 1).toNat = d - 8 := by omega
  have N8' := Lib.hid n8'
  clear n8'
  refine (embedVS_c w7 T d _ Hg7.out M HM.out _ _ (by omega) (by omega) (by omega) (by omega) (fun i hi => by
    rw [N8'.out, Int.toNat_zero]
    unfold pf7 pf6 pf5 pf4; rw [put2_out (by omega), put2_out (by omega), put2_out (by omega), put2_out (by omega)]; exact pf3_out (by omega))).mono ?_
  rintro e w8 ⟨rfl, hg, hm⟩
  rw [N8'.out] at hg
  have hg : GM w8 T d (pf8 d) := hg
  have Hg8 := Lib.hid hg; have Hm8 := Lib.hid (Hm7.out.trans hm)
  clear hg hm
  go_wp2_with fail
  refine (ByteMatrix_GetHeight_c w8 M 0 _ (Hg8.out.gh HM.out)).mono ?_
  rintro e w9 ⟨rfl, rfl⟩
  go_wp2_with fail
  refine (embedVS_c w8 T d _ Hg8.out M HM.out _ _ (by omega) (by omega) (by omega) (by omega) (fun i hi => by
    rw [N7.out, show (7 : Int).toNat = 7 from rfl]
    unfold pf8 pf7 pf6 pf5 pf4; rw [put2_out (by omega), put2_out (by omega), put2_out (by omega), put2_out (by omega), put2_out (by omega)]; exact pf3_out (by omega))).mono ?_
  rintro e w9 ⟨rfl, hg, hm⟩
  rw [N7.out] at hg
  have hg : GM w9 T d (pf9 d) := hg
  have Hg9 := Lib.hid hg; have Hm9 := Lib.hid (Hm8.out.trans hm)
  clear hg hm
  go_wp2_with fail
  go_ret
  exact ⟨rfl, Hg9.out, Hm9.out⟩
end Go.Proofs.YtnpkihobbcglcaaGreatDoor
open Go Go.RowKit
namespace Go.Proofs.YtnpkihobbcglcaaGreatDoor
open Go.QZ

/-- One step of the timing patterns; the first steps. -/
def timS (g : Nat → Nat → Int) (i : Nat) : Nat → Nat → Int :=
  let g1 := if g i 6 = -1 then upd g i 6 (((i + 1) % 2 : Nat) : Int) else g
  if g1 6 i = -1 then upd g1 6 i (((i + 1) % 2 : Nat) : Int) else g1
def timF (f : Nat → Nat → Int) : Nat → Nat → Nat → Int
  | 0 => f
  | k + 1 => timS (timF f k) (8 + k)

set_option maxHeartbeats 800000 in
theorem timing_c (w : World) (T d : Nat) (f : Nat → Nat → Int) (h : GM w T d f) (M : Nat) (hM : M = T + d + 1) (hd : 21 ≤ d) :
    Calls Tryz.prog 138 #[.pointer (some ⟨M, 0, none⟩)] w (Drawn w T d (timF f (d - 16)) (.tuple #[])) := by
  have hs := h.small
  have H := Lib.hid h; have HM := Lib.hid hM
  clear h hM
  go_enter Tryz.func138, Tryz.ntmps138
  go_wp2_with fail
  go_loopw [2, 3] (fun a _ wr => ∃ i : Nat, 8 ≤ i ∧ i ≤ d - 8 ∧ a = .int .i64 i ∧ GM wr T d (timF f (i - 8)) ∧ QZ.Mod (GMb T d) w wr) (fun a _ _ => d - (intOf a).toNat)
  case atStart => exact ⟨8, by omega, by omega, rfl, H.out, QZ.Mod.refl _ _⟩
  case round =>
    obtain ⟨i, hi8, hi, rfl, hg, hm⟩ := hrel
    have Hn : Hid (timF f (i + 1 - 8) = timS (timF f (i - 8)) i) := by
      show timF f (i + 1 - 8) = _
      rw [show i + 1 - 8 = (i - 8) + 1 by omega]
      show timS (timF f (i - 8)) (8 + (i - 8)) = _
      rw [show 8 + (i - 8) = i by omega]
    have Hg := Lib.hid hg; have Hm := Lib.hid hm
    clear hg hm
    go_wp2_with fail
    refine (ByteMatrix_GetWidth_c wr M 0 _ (Hg.out.gw HM.out)).mono ?_
    rintro e w3 ⟨rfl, rfl⟩
    by_cases hlt : i < d - 8
    · generalize timF f (i - 8) = g at *
      obtain ⟨b, hb⟩ : ∃ b : Int, ((i : Int) + 1) % 2 = b := ⟨_, rfl⟩
      have Hb : Hid ((((i + 1) % 2 : Nat) : Int) = b) := by show _ = b; omega
      have hb0 : 0 ≤ b := by omega
      have hb1 : b ≤ 1 := by omega
      go_wp2_with fail
      refine (gmGet_c wr T d _ Hg.out M HM.out _ _ (by omega) (by omega) (by omega) (by omega)).mono ?_
      rintro e w3 ⟨rfl, rfl⟩
      rw [Int.toNat_natCast, show (6 : Int).toNat = 6 from rfl]
      go_wp2_with fail
      refine (isEmpty_c wr _).mono ?_
      rintro e w3 ⟨rfl, rfl⟩
      by_cases h1 : g i 6 = -1
      · rw [show decide (g i 6 = -1) = true from decide_eq_true h1]
        have Hh1 := Lib.hid h1; clear h1
        go_wp2_with fail
        refine (gmSet_c wr T d _ Hg.out M HM.out _ _ (by omega) (by omega) (by omega) (by omega) _).mono ?_
        rintro e w4 ⟨rfl, hg, hm⟩
        rw [Int.toNat_natCast, show (6 : Int).toNat = 6 from rfl] at hg
        have Hg2 := Lib.hid hg; have Hm2 := Lib.hid (Hm.out.trans hm)
        clear hg hm
        go_wp2_with fail
        refine (gmGet_c w4 T d _ Hg2.out M HM.out _ _ (by omega) (by omega) (by omega) (by omega)).mono ?_
        rintro e w5 ⟨rfl, rfl⟩
        rw [Int.toNat_natCast, show (6 : Int).toNat = 6 from rfl]
        go_wp2_with fail
        refine (isEmpty_c w4 _).mono ?_
        rintro e w5 ⟨rfl, rfl⟩
        by_cases h2 : (upd g i 6 b) 6 i = -1
        · rw [show decide ((upd g i 6 b) 6 i = -1) = true from decide_eq_true h2]
          have Hh2 := Lib.hid h2; clear h2
          go_wp2_with fail
          refine (gmSet_c w4 T d _ Hg2.out M HM.out _ _ (by omega) (by omega) (by omega) (by omega) _).mono ?_
          rintro e w5 ⟨rfl, hg, hm⟩
          rw [Int.toNat_natCast, show (6 : Int).toNat = 6 from rfl] at hg
          have Hg3 := Lib.hid hg; have Hm3 := Lib.hid (Hm2.out.trans hm)
          clear hg hm
          go_wp2_with fail
          go_roundw
          case rel => exact ⟨i + 1, by omega, by omega, by go_num, by
            rw [Hn.out]; unfold timS; simp only [Hb.out]; rw [if_pos Hh1.out, if_pos Hh2.out]; exact Hg3.out, Hm3.out⟩
          case measure => simp [intOf]; omega
        · rw [show decide ((upd g i 6 b) 6 i = -1) = false from decide_eq_false h2]
          have Hh2 := Lib.hid h2; clear h2
          go_wp2_with fail
          go_roundw
          case rel => exact ⟨i + 1, by omega, by omega, by go_num, by
            rw [Hn.out]; unfold timS; simp only [Hb.out]; rw [if_pos Hh1.out, if_neg Hh2.out]; exact Hg2.out, Hm2.out⟩
          case measure => simp [intOf]; omega
      · rw [show decide (g i 6 = -1) = false from decide_eq_false h1]
        have Hh1 := Lib.hid h1; clear h1
        go_wp2_with fail
        refine (gmGet_c wr T d _ Hg.out M HM.out _ _ (by omega) (by omega) (by omega) (by omega)).mono ?_
        rintro e w5 ⟨rfl, rfl⟩
        rw [Int.toNat_natCast, show (6 : Int).toNat = 6 from rfl]
        go_wp2_with fail
        refine (isEmpty_c wr _).mono ?_
        rintro e w5 ⟨rfl, rfl⟩
        by_cases h2 : (g) 6 i = -1
        · rw [show decide ((g) 6 i = -1) = true from decide_eq_true h2]
          have Hh2 := Lib.hid h2; clear h2
          go_wp2_with fail
          refine (gmSet_c wr T d _ Hg.out M HM.out _ _ (by omega) (by omega) (by omega) (by omega) _).mono ?_
          rintro e w5 ⟨rfl, hg, hm⟩
          rw [Int.toNat_natCast, show (6 : Int).toNat = 6 from rfl] at hg
          have Hg3 := Lib.hid hg; have Hm3 := Lib.hid (Hm.out.trans hm)
          clear hg hm
          go_wp2_with fail
          go_roundw
          case rel => exact ⟨i + 1, by omega, by omega, by go_num, by
            rw [Hn.out]; unfold timS; simp only [Hb.out]; rw [if_neg Hh1.out, if_pos Hh2.out]; exact Hg3.out, Hm3.out⟩
          case measure => simp [intOf]; omega
        · rw [show decide ((g) 6 i = -1) = false from decide_eq_false h2]
          have Hh2 := Lib.hid h2; clear h2
          go_wp2_with fail
          go_roundw
          case rel => exact ⟨i + 1, by omega, by omega, by go_num, by
            rw [Hn.out]; unfold timS; simp only [Hb.out]; rw [if_neg Hh1.out, if_neg Hh2.out]; exact Hg.out, Hm.out⟩
          case measure => simp [intOf]; omega
    · obtain rfl : i = d - 8 := by omega
      go_wp2_with fail
      go_end0
      exact ⟨rfl, by rw [show d - 16 = d - 8 - 8 by omega]; exact Hg.out, Hm.out⟩
end Go.Proofs.YtnpkihobbcglcaaGreatDoor
open Go Go.RowKit
namespace Go.Proofs.YtnpkihobbcglcaaGreatDoor
open Go.QZ

/-- One step of the adjustment patterns; the first steps. -/
def adjS (g : Nat → Nat → Int) (y x : Int) : Nat → Nat → Int :=
  if 0 ≤ y ∧ 0 ≤ x ∧ g x.toNat y.toNat = -1 then put2 g (x.toNat - 2) (y.toNat - 2) papF 5 5 0 else g
def adjF (v : Nat) (f : Nat → Nat → Int) : Nat → Nat → Nat → Int
  | 0 => f
  | n + 1 => adjS (adjF v f n) (tget coordT (v - 1) (n / 7)) (tget coordT (v - 1) (n % 7))

theorem coord_ok : ∀ v, v < 8 → ∀ i, i < 7 → 2 ≤ v → tget coordT (v - 1) i = -1 ∨ (2 ≤ tget coordT (v - 1) i ∧ tget coordT (v - 1) i + 3 ≤ 17 + 4 * v) := by decide

theorem adjF_neg (v : Nat) (f : Nat → Nat → Int) (k : Nat) (h : tget coordT (v - 1) k < 0) : ∀ j, j ≤ 7 → adjF v f (7 * k + j) = adjF v f (7 * k) := by
  intro j
  induction j with
  | zero => intro _; rfl
  | succ j ih =>
    intro hj
    rw [← ih (by omega)]
    show adjS (adjF v f (7 * k + j)) (tget coordT (v - 1) ((7 * k + j) / 7)) _ = _
    rw [show (7 * k + j) / 7 = k by omega]
    unfold adjS; rw [if_neg (by omega)]

set_option maxHeartbeats 1600000 in
theorem adjust_c (w : World) (T d : Nat) (f : Nat → Nat → Int) (h : GM w T d f) (M : Nat) (hM : M = T + d + 1) (v : Nat) (hv2 : 2 ≤ v) (hv : v < 8) (hd : d = 17 + 4 * v) (pv : Nat) (hpv : w.cell? ⟨pv, 0, none⟩ = some (.int .i64 v)) :
    Calls Tryz.prog 137 #[.pointer (some ⟨pv, 0, none⟩), .pointer (some ⟨M, 0, none⟩)] w (Drawn w T d (adjF v f 49) (.tuple #[])) := by
  have hs := h.small
  have H := Lib.hid h; have HM := Lib.hid hM; have Hd := Lib.hid hd
  clear h hM
  go_enter Tryz.func137, Tryz.ntmps137
  go_wp2_with fail
  refine (Version_GetVersionNumber_c w pv 0 _ hpv).mono ?_
  rintro e w1 ⟨rfl, rfl⟩
  go_wp2_with fail
  refine (Version_GetVersionNumber_c w pv 0 _ hpv).mono ?_
  rintro e w1 ⟨rfl, rfl⟩
  go_wp2_with fail
  refine (coord_c w).mono ?_
  rintro e w1 ⟨rfl, ht⟩
  have href := Table.row ht 7 (by decide) (v - 1) (by show v - 1 < 40; omega) 40 rfl
  have Ht := Lib.hid ht
  have Hg1 := Lib.hid (H.out.mod ht.mod (fun _ _ _ => fun f => f))
  have Hm1 := Lib.hid (Mod.none (S := GMb T d) ht.mod)
  have HR : Hid (T + d + 1 < w.heap.size + (v - 1)) := by have h1 := H.out.head.lt; show _ < _; omega
  generalize w.heap.size + 40 = A at *
  generalize hRR : w.heap.size + (v - 1) = R at *
  have HRR := Lib.hid hRR
  have hvv : ((v : Int) - 1) = ((v - 1 : Nat) : Int) := by omega
  obtain ⟨u, hu⟩ : ∃ u, v - 1 = u := ⟨_, rfl⟩
  rw [hu] at hvv href
  have hu40 : u < 40 := by omega
  have Hu := Lib.hid hu
  clear ht hRR hpv hu
  go_wp2_with fail
  go_loopw [22, 7, 9] (fun a _ _ wr => ∃ k : Nat, k ≤ 7 ∧ a = .int .i64 k ∧ GM wr T d (adjF v f (7 * k)) ∧ QZ.Mod (GMb T d) w1 wr) (fun a _ _ _ => 7 - (intOf a).toNat)
  case atStart => exact ⟨0, by omega, rfl, Hg1.out, QZ.Mod.refl _ _⟩
  case round =>
    obtain ⟨k, hk, rfl, hg, hm⟩ := hrel
    clear href hvv
    by_cases hlt : k < 7
    · have hcell := Table.int Ht.out 7 (by decide) u k hu40 hlt
      rw [← Hu.out, HRR.out] at hcell
      have hc2 := cell_mod hm (R := R) (by have := HR.out; unfold GMb; omega) hcell
      have hok := coord_ok v hv k hlt hv2
      have Hneg := Lib.hid (adjF_neg v f k)
      obtain ⟨y, hy⟩ : ∃ y, tget coordT (v - 1) k = y := ⟨_, rfl⟩
      rw [hy] at hc2 hok
      have Hy := Lib.hid hy
      have Hg := Lib.hid hg; have Hm := Lib.hid hm
      clear hg hm hcell hy
      by_cases hy0 : 0 ≤ y
      · go_wp2_with fail
        clear hc2
        generalize decide ((k : Int) < 7) = bb
        go_loopw [30, 9] (fun b _ wq => ∃ j : Nat, j ≤ 7 ∧ b = .int .i64 j ∧ GM wq T d (adjF v f (7 * k + j)) ∧ QZ.Mod (GMb T d) w1 wq) (fun b _ _ => 7 - (intOf b).toNat)
        case atStart => exact ⟨0, by omega, rfl, Hg.out, Hm.out⟩
        case round =>
          obtain ⟨j, hj, rfl, hg2, hm2⟩ := hrel
          by_cases hjlt : j < 7
          · have hcell := Table.int Ht.out 7 (by decide) u j hu40 hjlt
            rw [← Hu.out, HRR.out] at hcell
            have hc2 := cell_mod hm2 (R := R) (by have := HR.out; unfold GMb; omega) hcell
            have hokx := coord_ok v hv j hjlt hv2
            have Hn : Hid (adjF v f (7 * k + (j + 1)) = adjS (adjF v f (7 * k + j)) (tget coordT (v - 1) k) (tget coordT (v - 1) j)) := by
              show adjS (adjF v f (7 * k + j)) (tget coordT (v - 1) ((7 * k + j) / 7)) (tget coordT (v - 1) ((7 * k + j) % 7)) = _
              rw [show (7 * k + j) / 7 = k by omega, show (7 * k + j) % 7 = j by omega]
            rw [Hy.out] at Hn
            obtain ⟨x, hx⟩ : ∃ x, tget coordT (v - 1) j = x := ⟨_, rfl⟩
            rw [hx] at hc2 hokx Hn
            have Hg2 := Lib.hid hg2; have Hm2 := Lib.hid hm2
            generalize adjF v f (7 * k + j) = g at *
            clear hg2 hm2 hcell hx
            by_cases hx0 : 0 ≤ x
            · obtain ⟨X, rfl⟩ := Int.eq_ofNat_of_zero_le hx0
              obtain ⟨Y, rfl⟩ := Int.eq_ofNat_of_zero_le hy0
              have hX2 : 2 ≤ X := by omega
              have hY2 : 2 ≤ Y := by omega
              have hX3 : X + 3 ≤ d := by omega
              have hY3 : Y + 3 ≤ d := by omega
              clear hok hokx
              go_wp2_with fail
              refine (gmGet_c wr T d _ Hg2.out M HM.out _ _ (by omega) (by omega) (by omega) (by omega)).mono ?_
              rintro e w3 ⟨rfl, rfl⟩
              rw [Int.toNat_natCast, Int.toNat_natCast]
              go_wp2_with fail
              refine (isEmpty_c wr _).mono ?_
              rintro e w3 ⟨rfl, rfl⟩
              by_cases h1 : g X Y = -1
              · rw [show decide (g X Y = -1) = true from decide_eq_true h1]
                have Hh1 := Lib.hid h1; clear h1
                go_wp2_with fail
                refine (embedPAP_c wr T d _ Hg2.out M HM.out _ _ (by omega) (by omega) (by omega) (by omega)).mono ?_
                rintro e w4 ⟨rfl, hg, hm⟩
                rw [show ((X : Int) - 2).toNat = X - 2 by omega, show ((Y : Int) - 2).toNat = Y - 2 by omega] at hg
                have Hg3 := Lib.hid hg; have Hm3 := Lib.hid (Hm2.out.trans hm)
                clear hg hm
                go_wp2_with fail
                go_roundw
                case rel => exact ⟨j + 1, by omega, by go_num, by
                  rw [Hn.out]; unfold adjS; rw [Int.toNat_natCast, Int.toNat_natCast, if_pos ⟨by omega, by omega, Hh1.out⟩]; exact Hg3.out, Hm3.out⟩
                case measure => simp [intOf]; omega
              · rw [show decide (g X Y = -1) = false from decide_eq_false h1]
                have Hh1 := Lib.hid h1; clear h1
                go_wp2_with fail
                go_roundw
                case rel => exact ⟨j + 1, by omega, by go_num, by
                  rw [Hn.out]; unfold adjS; rw [Int.toNat_natCast, Int.toNat_natCast, if_neg (fun hh => Hh1.out hh.2.2)]; exact Hg2.out, Hm2.out⟩
                case measure => simp [intOf]; omega
            · go_wp2_with fail
              go_roundw
              case rel => exact ⟨j + 1, by omega, by go_num, by
                rw [Hn.out]; unfold adjS; rw [if_neg (fun hh => hx0 hh.2.1)]; exact Hg2.out, Hm2.out⟩
              case measure => simp [intOf]; omega
          · obtain rfl : j = 7 := by omega
            have Hg2 := Lib.hid hg2; have Hm2 := Lib.hid hm2
            clear hg2 hm2
            go_wp2_with fail
            go_roundw
            case rel => exact ⟨k + 1, by omega, by go_num, Hg2.out, Hm2.out⟩
            case measure => simp [intOf]; omega
      · go_wp2_with fail
        go_roundw
        case rel => exact ⟨k + 1, by omega, by go_num, by
          rw [show 7 * (k + 1) = 7 * k + 7 by omega, Hneg.out (by rw [Hy.out]; omega) 7 (by omega)]; exact Hg.out, Hm.out⟩
        case measure => simp [intOf]; omega
    · obtain rfl : k = 7 := by omega
      have Hg := Lib.hid hg; have Hm := Lib.hid hm
      clear hg hm
      go_wp2_with fail
      go_end0
      exact ⟨rfl, Hg.out, Hm1.out.trans Hm.out⟩
end Go.Proofs.YtnpkihobbcglcaaGreatDoor
open Go Go.RowKit
namespace Go.Proofs.YtnpkihobbcglcaaGreatDoor
open Go.QZ

theorem adjust1_c (w : World) (M : Value) (pv : Nat) (hpv : w.cell? ⟨pv, 0, none⟩ = some (.int .i64 1)) :
    Calls Tryz.prog 137 #[.pointer (some ⟨pv, 0, none⟩), M] w fun e w' => e = .returned (.tuple #[]) ∧ w = w' := by
  go_enter Tryz.func137, Tryz.ntmps137
  go_wp2_with fail
  refine (Version_GetVersionNumber_c w pv 0 _ hpv).mono ?_
  rintro e w1 ⟨rfl, rfl⟩
  go_wp2_with fail
  try simp only [Exit.inBlock, Exit.then]
  refine bodyPost_ret (results_none rfl _ _ _) rfl ?_
  exact ⟨rfl, rfl⟩

def adjA (v : Nat) (f : Nat → Nat → Int) : Nat → Nat → Int := if v < 2 then f else adjF v f 49
def basicF (v : Nat) : Nat → Nat → Int := timF (adjA v (upd (pf9 (17 + 4 * v)) 8 (17 + 4 * v - 8) 1)) (17 + 4 * v - 16)

theorem adjA_c (w : World) (T d : Nat) (f : Nat → Nat → Int) (h : GM w T d f) (M : Nat) (hM : M = T + d + 1) (v : Nat) (hv1 : 1 ≤ v) (hv : v < 8) (hd : d = 17 + 4 * v) (pv : Nat) (hpv : w.cell? ⟨pv, 0, none⟩ = some (.int .i64 v)) :
    Calls Tryz.prog 137 #[.pointer (some ⟨pv, 0, none⟩), .pointer (some ⟨M, 0, none⟩)] w (Drawn w T d (adjA v f) (.tuple #[])) := by
  by_cases h2 : 2 ≤ v
  · unfold adjA; rw [if_neg (by omega)]; exact adjust_c w T d f h M hM v h2 hv hd pv hpv
  · obtain rfl : v = 1 := by omega
    refine (adjust1_c w _ pv hpv).mono ?_
    rintro e w1 ⟨rfl, rfl⟩
    exact ⟨rfl, h, QZ.Mod.refl _ _⟩

theorem basic_c (w : World) (T d : Nat) (h : GM w T d eF) (M : Nat) (hM : M = T + d + 1) (v : Nat) (hv1 : 1 ≤ v) (hv : v < 8) (hd : d = 17 + 4 * v) (pv : Nat) (hpv : w.cell? ⟨pv, 0, none⟩ = some (.int .i64 v)) (hS : ¬ GMb T d pv) :
    Calls Tryz.prog 106 #[.pointer (some ⟨pv, 0, none⟩), .pointer (some ⟨M, 0, none⟩)] w (Drawn w T d (basicF v) .nilIface) := by
  have H := Lib.hid h; have HM := Lib.hid hM; have Hd := Lib.hid hd; have Hpv := Lib.hid hpv
  clear h hM hpv
  have h21 : 21 ≤ d := by omega
  clear hd
  go_enter Tryz.func106, Tryz.ntmps106
  go_wp2_with fail
  refine (embedPDPS_c w T d H.out M HM.out h21).mono ?_
  rintro e w1 ⟨rfl, hg, hm⟩
  have Hg1 := Lib.hid hg; have Hm1 := Lib.hid hm
  clear hg hm
  go_wp2_with fail
  refine (embedDark_c w1 T d _ Hg1.out M HM.out h21 (by unfold pf9 pf8 pf7 pf6 pf5 pf4; rw [put2_out (by omega), put2_out (by omega), put2_out (by omega), put2_out (by omega), put2_out (by omega), put2_out (by omega)]; exact pf3_out (by omega))).mono ?_
  rintro e w2 ⟨rfl, hg, hm⟩
  have Hg2 := Lib.hid hg; have Hm2 := Lib.hid (Hm1.out.trans hm)
  clear hg hm
  go_wp2_with fail
  refine (adjA_c w2 T d _ Hg2.out M HM.out v hv1 hv Hd.out pv (cell_mod Hm2.out hS Hpv.out)).mono ?_
  rintro e w3 ⟨rfl, hg, hm⟩
  have Hg3 := Lib.hid hg; have Hm3 := Lib.hid (Hm2.out.trans hm)
  clear hg hm
  go_wp2_with fail
  refine (timing_c w3 T d _ Hg3.out M HM.out h21).mono ?_
  rintro e w4 ⟨rfl, hg, hm⟩
  have Hg4 := Lib.hid hg; have Hm4 := Lib.hid (Hm3.out.trans hm)
  clear hg hm
  go_wp2_with fail
  go_ret
  refine ⟨rfl, ?_, Hm4.out⟩
  have hd := Hd.out
  have := Hg4.out
  unfold basicF
  rw [← hd]; exact this
end Go.Proofs.YtnpkihobbcglcaaGreatDoor
