/- Part 37 of the proof of FnPXQuick (a QR code that is written for a text says this text in a picture): parts of the road. No condition. -/
import Derived.Test.YtnpkihobbcglcaaGreatDoorG02
import Derived.Test.YtnpkihobbcglcaaGreatDoorG16
import Derived.Test.YtnpkihobbcglcaaGreatDoorG18
import Derived.Test.YtnpkihobbcglcaaGreatDoorG30
/- The source of bits; the mode of four bits. -/
open Go Go.RowKit
namespace Go.Proofs.YtnpkihobbcglcaaGreatDoor
open Go.QZ

/-- A source of bits at block q: the bytes are at block D; a whole bytes and b bits of the next one are read. -/
structure Src (w : World) (q D n cap a b : Nat) (ys : List Nat) : Prop where
  head : Blk w q [.slice (some ⟨D, 0, none⟩) n cap, .int .i64 a, .int .i64 b]
  bytes : ∀ j, j < n → w.cell? ⟨D, j, none⟩ = some (.int .u8 (nth ys j : Nat))
  ne : q ≠ D
  b8 : b < 8
  few : n ≤ 100000
  an : 8 * a + b ≤ 8 * n

theorem newSrc_c (w : World) (D n cap : Nat) (ys : List Nat) (h : ∀ j, j < n → w.cell? ⟨D, j, none⟩ = some (.int .u8 (nth ys j : Nat))) (hD : D < w.heap.size) (hn : n ≤ 100000) :
    Calls Tryz.prog 217 #[.slice (some ⟨D, 0, none⟩) n cap] w fun e w' => e = .returned (.pointer (some ⟨w.heap.size, 0, none⟩)) ∧ Src w' w.heap.size D n cap 0 0 ys ∧ QZ.Mod (fun _ => False) w w' := by
  have hnew := Lib.hid (fun t => Blk.new w [.slice (some ⟨D, 0, none⟩) n cap, .int .i64 0, .int .i64 0] t)
  have Hh := Lib.hid h
  clear h
  go_enter Tryz.func217, Tryz.ntmps217
  go_wp2
  go_ret
  exact ⟨rfl, ⟨hnew.out _, fun j hj => cell_mod ((QZ.Mod.refl (fun _ => False) w).alloc _) (fun f => f) (Hh.out j hj), by omega, by omega, hn, by omega⟩, (QZ.Mod.refl _ _).alloc _⟩

theorem modeBits_c (w : World) (m : Nat) (hm : m = 0 ∨ m = 1 ∨ m = 2 ∨ m = 4) : Calls Tryz.prog 220 #[.int .i64 m] w fun e w' => e = .returned (.tuple #[.int .i64 m, .nilIface]) ∧ w = w' := by
  obtain rfl | rfl | rfl | rfl := hm
  all_goals
    go_enter Tryz.func220, Tryz.ntmps220
    go_wp2
    go_ret2
    exact ⟨rfl, rfl⟩

set_option maxHeartbeats 800000 in
theorem avail_c (w : World) (q D n cap a b : Nat) (ys : List Nat) (h : Src w q D n cap a b ys) : Calls Tryz.prog 218 #[.pointer (some ⟨q, 0, none⟩)] w fun e w' => e = .returned (.int .i64 (8 * n - 8 * a - b : Nat)) ∧ ∃ k, w.drewN k = w' := by
  have c0 := h.head.cell 0
  have c1 := h.head.cell 1
  have c2 := h.head.cell 2
  have b8 := h.b8
  have hf := h.few
  have han := h.an
  clear h
  go_enter Tryz.func218, Tryz.ntmps218
  go_wp2
  go_quiet (fail)
  go_wp2
  go_ret
  refine ⟨?_, _, rfl⟩
  show Ending.returned (.int .i64 (8 * ((n : Int) - (a : Int)) - (b : Int))) = _
  rw [show 8 * ((n : Int) - (a : Int)) - (b : Int) = ((8 * n - 8 * a - b : Nat) : Int) by omega]
end Go.Proofs.YtnpkihobbcglcaaGreatDoor
/- Bits are read: what comes out. -/
open Go Go.RowKit
namespace Go.Proofs.YtnpkihobbcglcaaGreatDoor
open Go.QZ

def RdOut (w : World) (q D n cap : Nat) (ys : List Nat) (pos v : Nat) (e : Ending) (w' : World) : Prop := ∃ a b, e = .returned (.tuple #[.int .i64 v, .nilIface]) ∧ Src w' q D n cap a b ys ∧ 8 * a + b = pos ∧ QZ.Mod (· = q) w w'
theorem and8 : ∀ x : Nat, x < 256 → ∀ s, s < 9 → ∀ t, t < 9 → s + t ≤ 8 → bits .and .u8 (x : Int) (((2 ^ t - 1) * 2 ^ s : Nat) : Int) = ((x / 2 ^ s % 2 ^ t * 2 ^ s : Nat) : Int) := by decide +kernel
theorem or_add (x y k : Nat) (hx : x < 65536) (hy : y < 2 ^ k) (hk : k ≤ 12) : bits .or .i64 ((x : Int) * (2 ^ k : Nat)) (y : Int) = ((x * 2 ^ k + y : Nat) : Int) := by
  have hp : 2 ^ k ≤ 4096 := Nat.le_trans (Nat.pow_le_pow_right (by decide) hk) (by decide)
  have hxk : x * 2 ^ k < 65536 * 4096 := Nat.lt_of_lt_of_le ((Nat.mul_lt_mul_right (Nat.two_pow_pos k)).2 hx) (Nat.mul_le_mul_left _ hp)
  have h1 := (bits_nat .i64 63 (by decide) (fun n h0 h1 => by rw [IntKind.wrap_i64]; omega) (x * 2 ^ k) y (by omega) (by omega)).2
  rw [← Int.natCast_mul, h1]
  congr 1
  rw [Nat.mul_comm]
  exact (Nat.two_pow_add_eq_or_of_lt hy x).symm
end Go.Proofs.YtnpkihobbcglcaaGreatDoor
/- Behind a part of the code most slots may hold anything: the ways meet again. -/
open Go Go.RowKit
namespace Go.QZ
variable {P : Program}
/-- Slot 1 holds m, slot 6 holds r, the other slots from 1 up to ahead of hi hold what u says. -/
def absL (l : List Value) (hi m r : Nat) (u : Nat → Value) : List Value := l.take 1 ++ (.int .i64 m :: ([u 2, u 3, u 4, u 5] ++ (.int .i64 r :: ((List.range (hi - 7)).map (fun i => u (7 + i)) ++ l.drop hi))))
theorem absL_eq (l l' : List Value) (hi m r : Nat) (h7 : 7 ≤ hi) (h2 : hi ≤ l.length) (ht : l'.take 1 = l.take 1) (hd : l'.drop hi = l.drop hi) (hl : l'.length = l.length) (h1 : l'[1]? = some (.int .i64 m)) (h6 : l'[6]? = some (.int .i64 r)) : l' = absL l hi m r (fun i => l'.getD i undef) := by
  unfold absL
  rw [← ht, ← hd]
  apply List.ext_getElem?
  intro i
  have hlt : (l'.take 1).length = 1 := by rw [List.length_take]; omega
  rcases Nat.lt_or_ge i 1 with h | h
  · rw [List.getElem?_append_left (by omega), List.getElem?_take_of_lt h]
  rw [List.getElem?_append_right (by omega), hlt]
  obtain ⟨j, rfl⟩ : ∃ j, i = j + 1 := ⟨i - 1, by omega⟩
  rw [Nat.add_sub_cancel]
  rcases Nat.lt_or_ge j 6 with h5 | h5
  · obtain rfl | rfl | rfl | rfl | rfl | rfl : j = 0 ∨ j = 1 ∨ j = 2 ∨ j = 3 ∨ j = 4 ∨ j = 5 := by omega
    · simpa using h1
    · simp [List.getD_eq_getElem?_getD, List.getElem?_eq_getElem (show 2 < l'.length by omega)]
    · simp [List.getD_eq_getElem?_getD, List.getElem?_eq_getElem (show 3 < l'.length by omega)]
    · simp [List.getD_eq_getElem?_getD, List.getElem?_eq_getElem (show 4 < l'.length by omega)]
    · simp [List.getD_eq_getElem?_getD, List.getElem?_eq_getElem (show 5 < l'.length by omega)]
    · simpa using h6
  · obtain ⟨q, rfl⟩ : ∃ q, j = q + 6 := ⟨j - 6, by omega⟩
    have e : ∀ (x y : Value) (z : List Value), (x :: ([l'.getD 2 undef, l'.getD 3 undef, l'.getD 4 undef, l'.getD 5 undef] ++ (y :: z)))[q + 6]? = z[q]? := fun x y z => by simp
    rw [e]
    rcases Nat.lt_or_ge q (hi - 7) with h8 | h8
    · rw [List.getElem?_append_left (by simp; exact h8)]
      simp only [List.getElem?_map, List.getElem?_range h8, Option.map_some]
      rw [List.getD_eq_getElem?_getD, show 7 + q = q + 6 + 1 by omega, List.getElem?_eq_getElem (by omega)]; rfl
    · rw [List.getElem?_append_right (by simp; omega)]
      simp only [List.length_map, List.length_range]
      rw [List.getElem?_drop, show hi + (q - (hi - 7)) = q + 6 + 1 by omega]

theorem wp_seq_abs {x y : Code} {Q : Exit → Act → World → Prop} {a : Act} {w : World} (hi : Nat) (R : World → Nat → Nat → Prop) (h7 : 7 ≤ hi) (h2 : hi ≤ a.tmps.toList.length)
    (hx : ∀ K : Act → World → Prop, (∀ a' w' m r, R w' m r → a'.defers = a.defers → a'.tmps.toList.take 1 = a.tmps.toList.take 1 → a'.tmps.toList.drop hi = a.tmps.toList.drop hi → a'.tmps.toList.length = a.tmps.toList.length → a'.tmps.toList[1]? = some (.int .i64 m) → a'.tmps.toList[6]? = some (.int .i64 r) → K a' w') → x.wp P (Exit.then K Q) a w)
    (hy : ∀ (u : Nat → Value) (w' : World) (m r : Nat), R w' m r → y.wp P Q { tmps := (absL a.tmps.toList hi m r u).toArray, defers := a.defers } w') : (Code.seq x y).wp P Q a w := by
  refine wp_seq (hx _ fun a' w' m r hR hd ht hdr hl h1 h6 => ?_)
  have e := absL_eq a.tmps.toList a'.tmps.toList hi m r h7 h2 ht hdr hl h1 h6
  have := hy (fun i => a'.tmps.toList.getD i undef) w' m r hR
  rw [← e] at this
  have e2 : a' = { tmps := a'.tmps.toList.toArray, defers := a.defers } := by
    cases a'; simp only at hd ⊢; rw [hd]
  rw [e2]; exact this
end Go.QZ
