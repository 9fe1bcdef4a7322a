/- Part 17 of the proof of FnPXQuick (a QR code that is written for a text says this text in a picture): parts of the road. No condition. -/
import Derived.Test.YtnpkihobbcglcaaGreatDoorG10
import Derived.Test.YtnpkihobbcglcaaGreatDoorG13
import Derived.Test.YtnpkihobbcglcaaGreatDoorG15
import Derived.Test.YtnpkihobbcglcaaGreatDoorG16
/- The version of a matrix is read. -/
open Go Go.RowKit
namespace Go.Proofs.YtnpkihobbcglcaaGreatDoor
open Go.QZ

def vdiL : List Int := [31892, 34236, 39577, 42195, 48118, 51042, 55367, 58893, 63784, 68472, 70749, 76311, 79154, 84390, 87683, 92361, 96236, 102084, 102881, 110507, 110734, 117786, 119615, 126325, 127568, 133589, 136944, 141498, 145311, 150283, 152622, 158308, 161089, 167017]
def vdiCells : List Value := vdiL.map fun x => Value.int .i64 x

set_option maxRecDepth 20000 in
theorem vdi_c (w : World) : Calls Tryz.prog 238 #[] w fun e w' => ∃ B, e = .returned (.slice (some ⟨B, 0, none⟩) 34 34) ∧ w'.cell? ⟨B, 0, none⟩ = some (.int .i64 31892) ∧ QZ.Mod (fun _ => False) w w' := by
  go_enter Tryz.func238, Tryz.ntmps238
  iterate 11 go_step
  refine wpList_rows rt117 w [vdiCells] [_] 1 _ w [] ?h1 ?h2 (RowsAt.start w) ?h3
  case h1 => kernel_rfl
  case h2 =>
    intro vs hvs
    simp only [List.mem_singleton] at hvs
    subst hvs
    refine ⟨by unfold vdiCells vdiL; rw [List.length_map]; decide, fun v hv => ?_⟩
    simp only [vdiCells, List.mem_map] at hv
    obtain ⟨x, _, rfl⟩ := hv
    rfl
  case h3 =>
    intro w' hR
    have hB := hR.rows 0 (by simp)
    have hm := hR.mod
    have HB := Lib.hid hB
    have Hm := Lib.hid hm
    clear hB hm
    clear hR
    change wpList _ _ _ _ ({ tmps := #[.slice none 0 0, .slice (some ⟨w.heap.size, 0, none⟩) 34 34], defers := [] } : Act) w'
    go_wp2
    go_ret
    exact ⟨_, rfl, HB.out.cell 0, Hm.out⟩

set_option maxHeartbeats 800000 in
theorem decodeVI_c (w : World) : Calls Tryz.prog 194 #[.int .i64 31892] w (GotVer2 w 7) := by
  go_enter Tryz.func194, Tryz.ntmps194
  go_wp2_with fail
  refine ((vdi_c w)).mono ?_
  rintro e w1 ⟨B, rfl, hB, hm⟩
  have Hm := Lib.hid hm
  clear hm
  go_wp2_with fail
  go_loop [11] (fun a => a = .int .i64 0) (fun _ => 0)
  case atStart => rfl
  case round =>
    obtain rfl := hrel
    go_wp2_with fail
    refine (getVersion_c w1 7 (by decide) (by decide)).mono ?_
    rintro e w2 ⟨p, rfl, hp, hm2⟩
    have hp2 := hp.weak (Y := fun k => k < w.heap.size) (fun k hk => by have := Hm.out.size; omega)
    have hm3 := Hm.out.trans hm2
    have Hp2 := Lib.hid hp2
    have Hm3 := Lib.hid hm3
    clear hp2 hm3
    go_wp2_with fail
    go_ret2
    exact ⟨p, rfl, Hp2.out, Hm3.out⟩

/-- A parser; if it holds a version, it is this one. -/
def PV (X : Nat → Prop) (w : World) (P p v : Nat) (fi : Value) : Prop := ∃ ver, Pars w P p ver fi ∧ (ver = .pointer none ∨ ∃ q, ver = .pointer (some ⟨q, 0, none⟩) ∧ Ver X w q v)
/-- The version was read. -/
def GotV (X : Nat → Prop) (w : World) (P p v : Nat) (fi : Value) (e : Ending) (w' : World) : Prop := ∃ q, e = .returned (.tuple #[.pointer (some ⟨q, 0, none⟩), .nilIface]) ∧ Ver X w' q v ∧ PV X w' P p v fi ∧ QZ.Mod (· = P) w w'

def pVk (k : Nat) : List (Nat × Nat) := (List.range k).map fun i => (36 - i % 3, 5 - i / 3)
theorem pVk_succ (k : Nat) : pVk (k + 1) = pVk k ++ [(36 - k % 3, 5 - k / 3)] := map_range_succ _ k
theorem pVk_all : pV 45 = pVk 18 := rfl

theorem readVersionS_c (X : Nat → Prop) (w : World) (P p v q : Nat) (fi : Value) (h : Pars w P p (.pointer (some ⟨q, 0, none⟩)) fi) (hV : Ver X w q v) :
    Calls Tryz.prog 154 #[.pointer (some ⟨P, 0, none⟩)] w (GotV X w P p v fi) := by
  have c1 := h.head.cell 1
  have Hh := Lib.hid h
  have HV := Lib.hid hV
  clear h hV
  go_enter Tryz.func154, Tryz.ntmps154
  go_wp2_with fail
  go_ret2
  exact ⟨q, rfl, HV.out, ⟨_, Hh.out, .inr ⟨q, rfl, HV.out⟩⟩, QZ.Mod.refl _ _⟩

set_option maxRecDepth 20000 in
set_option maxHeartbeats 1600000 in
theorem readVersionN_c (X : Nat → Prop) (w : World) (P p B d rs v : Nat) (ws : List Nat) (f : Nat → Nat → Bool) (fi : Value) (h : Pars w P p (.pointer none) fi) (hX : ∀ k, X k → k < w.heap.size) (hb : BM w p B d d rs ws f) (hd : d = 17 + 4 * v) (hv1 : 1 ≤ v) (hv : v < 7) :
    Calls Tryz.prog 154 #[.pointer (some ⟨P, 0, none⟩)] w (GotV X w P p v fi) := by
  have c0 := h.head.cell 0
  have c1 := h.head.cell 1
  have cb1 := hb.c1
  have HX := Lib.hid hX
  have Hh := Lib.hid h
  clear h
  clear hb hX
  obtain rfl | rfl | rfl | rfl | rfl | rfl : v = 1 ∨ v = 2 ∨ v = 3 ∨ v = 4 ∨ v = 5 ∨ v = 6 := by omega
  all_goals
    subst hd
    go_enter Tryz.func154, Tryz.ntmps154
    go_wp2_with fail
    refine (BitMatrix_GetHeight_c w p 0 _ cb1).mono ?_
    rintro e w1 ⟨rfl, rfl⟩
    go_wp2_with fail
    refine (getVersion_c w _ (by decide) (by decide)).mono ?_
    rintro e w2 ⟨q, rfl, hp, hm2⟩
    have hp2 := hp.weak HX.out
    have hP2 := Hh.out.mod hm2 (fun f => f)
    have Hp2 := Lib.hid hp2
    have Hm2 := Lib.hid hm2
    have HP2 := Lib.hid hP2
    clear hp2 hm2 hP2
    go_wp2_with fail
    go_ret2
    exact ⟨q, rfl, Hp2.out, ⟨_, HP2.out, .inl rfl⟩, QZ.Mod.none Hm2.out⟩

set_option maxRecDepth 20000 in
set_option maxHeartbeats 1600000 in
theorem readVersion7_c (X : Nat → Prop) (w : World) (P p B rs : Nat) (ws : List Nat) (f : Nat → Nat → Bool) (fi : Value) (h : Pars w P p (.pointer none) fi) (hX : ∀ k, X k → k < w.heap.size) (hb : BM w p B 45 45 rs ws f) (h7 : rdF f 0 (pV 45) = 31892) (hXP : X P) :
    Calls Tryz.prog 154 #[.pointer (some ⟨P, 0, none⟩)] w (GotV X w P p 7 fi) := by
  have c0 := h.head.cell 0
  have c1 := h.head.cell 1
  have cb1 := hb.c1
  have hPl := h.head.lt
  rw [pVk_all] at h7
  have HP := Lib.hid h; have Hb := Lib.hid hb; have HX := Lib.hid hX; have H7 := Lib.hid h7
  clear h hb hX h7
  go_enter Tryz.func154, Tryz.ntmps154
  go_wp2_with fail
  refine (BitMatrix_GetHeight_c w p 0 _ cb1).mono ?_
  rintro e w1 ⟨rfl, rfl⟩
  go_wp2_with fail
  clear c0 c1 cb1
  go_loop [8, 6, 9] (fun a b _ => ∃ j : Nat, j ≤ 6 ∧ a = .int .i64 (5 - (j : Int)) ∧ b = .int .i64 (rdF f 0 (pVk (3 * j)) : Nat)) (fun a _ _ => (intOf a + 1).toNat)
  case atStart => exact ⟨0, by omega, rfl, rfl⟩
  case round =>
    obtain ⟨j, hj, rfl, rfl⟩ := hrel
    by_cases hlt : j < 6
    · obtain ⟨t, ht⟩ : ∃ t, 5 - j = t := ⟨_, rfl⟩
      have htI : 5 - (j : Int) = (t : Int) := by omega
      rw [htI]
      obtain ⟨v0, hv0⟩ : ∃ v0, rdF f 0 (pVk (3 * j)) = v0 := ⟨_, rfl⟩
      rw [hv0]
      have Hv0 := Lib.hid hv0
      have Ht := Lib.hid ht
      clear hv0
      go_wp2_with fail
      go_loop [9, 6] (fun a b => ∃ i : Nat, i ≤ 3 ∧ a = .int .i64 (36 - (i : Int)) ∧ b = .int .i64 (rdF f 0 (pVk (3 * j + i)) : Nat)) (fun a _ => (intOf a).toNat)
      case atStart => exact ⟨0, by omega, rfl, by rw [Nat.add_zero, Hv0.out]⟩
      case round =>
        obtain ⟨i, hi, rfl, rfl⟩ := hrel
        by_cases hil : i < 3
        · have hv := rd_few f (pVk (3 * j + i)) (by simp [pVk]; omega)
          have Hs := Lib.hid (rdF_snoc f (pVk (3 * j + i)) 0 (36 - (3 * j + i) % 3, 5 - (3 * j + i) / 3))
          rw [← pVk_succ, show 36 - (3 * j + i) % 3 = 36 - i by omega, show 5 - (3 * j + i) / 3 = t by omega] at Hs
          obtain ⟨u, hu⟩ : ∃ u, 36 - i = u := ⟨_, rfl⟩
          have huI : 36 - (i : Int) = (u : Int) := by omega
          rw [hu] at Hs
          rw [huI]
          generalize rdF f 0 (pVk (3 * j + i)) = v at *
          have t1 : decide ((u : Int) ≥ 34) = true := by simp <;> omega
          have t2 : decide ((34 : Int) ≤ (u : Int)) = true := by simp <;> omega
          go_wp2_with fail
          refine (copyBit_c w P p B 45 rs ws f _ _ HP.out Hb.out u t v (by omega) (by omega) hv).mono ?_
          rintro e w1 ⟨rfl, rfl⟩
          go_wp2_with fail
          go_round
          case rel => exact ⟨i + 1, by omega, by rw [← huI]; congr 1; omega, by rw [← Nat.add_assoc, Hs.out]⟩
          case measure => simp [intOf] <;> omega
        · obtain rfl : i = 3 := by omega
          rw [show 36 - ((3 : Nat) : Int) = 33 from rfl]
          go_wp2_with fail
          go_round
          case rel => exact ⟨j + 1, by omega, by rw [← htI]; congr 1; omega, by rw [Nat.mul_succ]⟩
          case measure => simp [intOf] <;> omega
    · obtain rfl : j = 6 := by omega
      rw [show 5 - ((6 : Nat) : Int) = -1 from rfl, show 3 * 6 = 18 from rfl, H7.out]
      go_wp2_with fail
      refine (decodeVI_c w).mono ?_
      rintro e w2 ⟨q, rfl, hV, hm2⟩
      have hVc : w2.cell? ⟨q, 0, none⟩ = some (.int .i64 (7 : Nat)) := by obtain ⟨_, _, h, _⟩ := hV; exact h.cell 0
      have hVX := hV.weak HX.out
      have hqP : ¬ q = P := by obtain ⟨_, _, _, _, _, h, _⟩ := hV; omega
      have hP2 := HP.out.mod hm2 (fun f => f)
      have HVX := Lib.hid hVX
      have HP2 := Lib.hid hP2
      have Hm2 := Lib.hid hm2
      clear hVX hP2 hm2
      clear hV
      go_wp2_with fail
      refine (getDim_c w2 q 7 (by decide) hVc).mono ?_
      rintro e w3 ⟨rfl, rfl⟩
      have c1' := HP2.out.head.cell 1
      have hfr := HP2.out.head.frozen 1
      have hm3 : QZ.Mod (· = P) w (w2.setCell ⟨P, 1, none⟩ (.pointer (some ⟨q, 0, none⟩))) := (QZ.Mod.none Hm2.out : QZ.Mod (· = P) w w2).setCell (p := ⟨P, 1, none⟩) (.inr rfl) _
      have hP3 : Pars (w2.setCell ⟨P, 1, none⟩ (.pointer (some ⟨q, 0, none⟩))) P p (.pointer (some ⟨q, 0, none⟩)) fi := ⟨HP2.out.head.set 1 _⟩
      have hV3 : Ver X (w2.setCell ⟨P, 1, none⟩ (.pointer (some ⟨q, 0, none⟩))) q 7 := HVX.out.mod ((QZ.Mod.refl (· = P) w2).setCell (p := ⟨P, 1, none⟩) (.inr rfl) _) (fun k hk => by rw [hk]; exact hXP)
      have Hm3 := Lib.hid hm3
      have HP3 := Lib.hid hP3
      have HV3 := Lib.hid hV3
      clear hm3 hP3 hV3
      clear hVc
      go_wp2_with fail
      go_ret2
      exact ⟨q, rfl, HV3.out, ⟨_, HP3.out, .inr ⟨q, rfl, HV3.out⟩⟩, Hm3.out⟩

theorem readVersion_c (X : Nat → Prop) (w : World) (P p B d rs v : Nat) (ws : List Nat) (f : Nat → Nat → Bool) (fi : Value) (h : PV X w P p v fi) (hX : ∀ k, X k → k < w.heap.size) (hb : BM w p B d d rs ws f) (hd : d = 17 + 4 * v) (hv1 : 1 ≤ v) (hv : v < 8) (h7 : v = 7 → rdF f 0 (pV 45) = 31892) (hXP : X P) :
    Calls Tryz.prog 154 #[.pointer (some ⟨P, 0, none⟩)] w (GotV X w P p v fi) := by
  obtain ⟨ver, hp, rfl | ⟨q, rfl, hV⟩⟩ := h
  · by_cases e : v = 7
    · subst e; subst hd
      exact readVersion7_c X w P p B rs ws f fi hp hX hb (h7 rfl) hXP
    · exact readVersionN_c X w P p B d rs v ws f fi hp hX hb hd hv1 (by omega)
  · exact readVersionS_c X w P p v q fi hp hV
end Go.Proofs.YtnpkihobbcglcaaGreatDoor
