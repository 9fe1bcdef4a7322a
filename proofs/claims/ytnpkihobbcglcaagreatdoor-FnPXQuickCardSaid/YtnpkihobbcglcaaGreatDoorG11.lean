/- Part 11 of the proof of FnPXQuick (a QR code that is written for a text says this text in a picture): parts of the road. No condition. -/
import Derived.Test.YtnpkihobbcglcaaGreatDoorG02
/- The error correction blocks of a version. -/
open Go Go.RowKit
namespace Go.Proofs.YtnpkihobbcglcaaGreatDoor
open Go.QZ

theorem getCount_c (w : World) (a b : Int) : Calls Tryz.prog 103 #[.agg #[.int .i64 a, .int .i64 b]] w fun e w' => e = .returned (.int .i64 a) ∧ QZ.Mod (fun _ => False) w w' := by
  go_enter Tryz.func103, Tryz.ntmps103
  go_wp2
  go_ret
  exact ⟨rfl, (QZ.Mod.refl _ _).alloc _⟩
theorem getDataCodewords_c (w : World) (a b : Int) : Calls Tryz.prog 164 #[.agg #[.int .i64 a, .int .i64 b]] w fun e w' => e = .returned (.int .i64 b) ∧ QZ.Mod (fun _ => False) w w' := by
  go_enter Tryz.func164, Tryz.ntmps164
  go_wp2
  go_ret
  exact ⟨rfl, (QZ.Mod.refl _ _).alloc _⟩
theorem getDim_c (w : World) (p v : Nat) (hv : v < 8) (h : w.cell? ⟨p, 0, none⟩ = some (.int .i64 v)) : Calls Tryz.prog 57 #[.pointer (some ⟨p, 0, none⟩)] w fun e w' => e = .returned (.int .i64 (17 + 4 * v : Nat)) ∧ w = w' := by
  go_enter Tryz.func57, Tryz.ntmps57
  go_wp2
  go_ret
  exact ⟨by go_num, rfl⟩
end Go.Proofs.YtnpkihobbcglcaaGreatDoor
/- How many blocks. -/
open Go Go.RowKit
namespace Go.Proofs.YtnpkihobbcglcaaGreatDoor
open Go.QZ

/-- The pairs (count, data bytes) of one level, to be read at block B. -/
def Prs (w : World) (B : Nat) (bl : List (Nat × Nat)) : Prop := ∀ j, j < bl.length → w.cell? ⟨B, j * 2, none⟩ = some (.int .i64 (bl.getD j (0, 0)).1) ∧ w.cell? ⟨B, j * 2 + 1, none⟩ = some (.int .i64 (bl.getD j (0, 0)).2)
theorem Prs.mod {S : Nat → Prop} {w w' : World} {B : Nat} {bl : List (Nat × Nat)} (h : Prs w B bl) (hm : QZ.Mod S w w') (hS : ¬ S B) : Prs w' B bl :=
  fun j hj => ⟨cell_mod hm hS (h j hj).1, cell_mod hm hS (h j hj).2⟩
def cntTo (bl : List (Nat × Nat)) (k : Nat) : Nat := ((bl.take k).map Prod.fst).sum
theorem cntTo_le (bl : List (Nat × Nat)) (hb : ∀ x ∈ bl, x.1 ≤ 100) (k : Nat) (hk : k < bl.length) : cntTo bl (k + 1) = cntTo bl k + (bl.getD k (0, 0)).1 ∧ cntTo bl (k + 1) ≤ 100 * (k + 1) := by
  have h1 : ∀ k, k < bl.length → cntTo bl (k + 1) = cntTo bl k + (bl.getD k (0, 0)).1 := by
    intro k hk
    unfold cntTo
    rw [List.take_add_one, List.getElem?_eq_getElem hk]
    rw [List.getD_eq_getElem?_getD, List.getElem?_eq_getElem hk]; simp only [List.map_append, List.sum_append, Option.toList_some, List.map_cons, List.map_nil, List.sum_cons, List.sum_nil, Nat.add_zero, Option.getD_some]
  refine ⟨h1 k hk, ?_⟩
  have : ∀ k, k ≤ bl.length → cntTo bl k ≤ 100 * k := by
    intro k
    induction k with
    | zero => intro _; simp [cntTo]
    | succ k ih =>
      intro hk
      rw [h1 k (by omega)]
      have := ih (by omega)
      have h2 : (bl.getD k (0, 0)).1 ≤ 100 := by
        rw [List.getD_eq_getElem?_getD, List.getElem?_eq_getElem (by omega)]
        exact hb _ (List.getElem_mem _)
      omega
  exact this (k + 1) (by omega)

set_option maxHeartbeats 1600000 in
theorem getNumBlocks_c (w : World) (C o B : Nat) (bl : List (Nat × Nat)) (hc : w.cell? ⟨C, o + 1, none⟩ = some (.slice (some ⟨B, 0, none⟩) bl.length bl.length)) (h : Prs w B bl) (hb : ∀ x ∈ bl, x.1 ≤ 100) (hl : bl.length ≤ 4) :
    Calls Tryz.prog 52 #[.pointer (some ⟨C, o, none⟩)] w fun e w' => e = .returned (.int .i64 (cntTo bl bl.length : Nat)) ∧ QZ.Mod (fun _ => False) w w' := by
  have Hp := Lib.hid h; have Hb := Lib.hid hb
  clear h hb
  go_enter Tryz.func52, Tryz.ntmps52
  go_wp2
  clear hc
  go_loopw [3, 5, 11] (fun a _ b wr => ∃ (k : Nat), k ≤ bl.length ∧ b = .int .i64 k ∧ a = .int .i64 (cntTo bl k : Nat) ∧ cntTo bl k ≤ 100 * k ∧ QZ.Mod (fun _ => False) w wr) (fun _ _ b _ => bl.length - (intOf b).toNat)
  case atStart => exact ⟨0, by omega, rfl, by simp [cntTo], by simp [cntTo], QZ.Mod.refl _ _⟩
  case round =>
    obtain ⟨k, hk, rfl, rfl, hc4, hm⟩ := hrel
    have Hm := Lib.hid hm
    clear hm
    by_cases hlt : k < bl.length
    · have c0 := ((Hp.out.mod Hm.out (fun f => f)) k hlt).1
      have c1 := ((Hp.out.mod Hm.out (fun f => f)) k hlt).2
      obtain ⟨n1, n2⟩ := cntTo_le bl Hb.out k hlt
      obtain ⟨m, hm1⟩ : ∃ m, cntTo bl (k + 1) = m := ⟨_, rfl⟩
      rw [hm1] at n1 n2
      have Hm1 := Lib.hid hm1
      clear hm1
      generalize cntTo bl k = n at *
      generalize bl.getD k (0, 0) = x at *
      go_wp2
      go_roundw
      case rel => exact ⟨k + 1, by omega, by go_num, by rw [Hm1.out, n1]; go_num, by rw [Hm1.out]; omega, (Hm.out.alloc _).alloc _⟩
      case measure => simp [intOf] <;> omega
    · obtain rfl : k = bl.length := by omega
      go_wp2
      go_ret
      exact ⟨rfl, Hm.out⟩
end Go.Proofs.YtnpkihobbcglcaaGreatDoor
