/- Part 24 of the proof of FnPXQuick (a QR code that is written for a text says this text in a picture): parts of the road. No condition. -/
import Derived.Laws.ResultCell
import Derived.Test.YtnpkihobbcglcaaGreatDoorG02
/- The QRCode that is handed back: a new one, its fields set. -/
open Go Go.RowKit
namespace Go.Proofs.YtnpkihobbcglcaaGreatDoor
open Go.QZ

/-- The QRCode at block q: mode, level, version, mask, matrix. -/
def QRAt (w : World) (q : Nat) (m l : Int) (v : Value) (k : Int) (t : Value) : Prop := Blk w q [.int .i64 m, .int .i64 l, v, .int .i64 k, t]
def Put (w : World) (q : Nat) (P : World → Prop) (e : Ending) (w' : World) : Prop := e = .returned (.tuple #[]) ∧ P w' ∧ QZ.Mod (fun k => k = q) w w'

theorem newQR_c (w : World) : Calls Tryz.prog 53 #[] w fun e w' => e = .returned (.pointer (some ⟨w.heap.size, 0, none⟩)) ∧ QRAt w' w.heap.size 0 0 (.pointer none) (-1) (.pointer none) ∧ QZ.Mod (fun _ => False) w w' ∧ w.heap.size < w'.heap.size := by
  have hnew := Lib.hid (fun t => Blk.new w [.int .i64 0, .int .i64 0, .pointer none, .int .i64 (-1), .pointer none] t)
  go_enter Tryz.func53, Tryz.ntmps53
  go_wp2
  go_ret
  exact ⟨rfl, hnew.out _, (QZ.Mod.refl _ _).alloc _, by rw [World.size_alloc]; omega⟩

theorem qr_frozen {w : World} {q : Nat} {cs : List Value} (h : Blk w q cs) (i : Nat) : w.frozen? ⟨q, i, none⟩ = false := h.frozen i

theorem vrValidMask_c (w : World) (k : Nat) (hk : k < 8) : Calls Tryz.prog 59 #[.int .i64 k] w fun e w' => e = .returned (.bool true) ∧ w = w' := by
  have t1 : decide (0 ≤ (k : Int)) = true := by simp
  have t2 : decide ((k : Int) < 8) = true := by simp; omega
  go_enter Tryz.func59, Tryz.ntmps59
  go_wp2
  go_ret
  exact ⟨rfl, rfl⟩

theorem setMode_c (w : World) (q : Nat) (m l : Int) (v : Value) (k : Int) (t : Value) (h : QRAt w q m l v k t) (x : Int) : Calls Tryz.prog 55 #[.pointer (some ⟨q, 0, none⟩), (.int .i64 x)] w (Put w q fun w' => QRAt w' q x l v k t) := by
  have c0 := Lib.hid (h.cell 0)
  have c0' := c0.out
  have f0 := qr_frozen h 0
  have Hs := Lib.hid (Blk.set h 0 (.int .i64 x))
  have Hm := Lib.hid ((QZ.Mod.refl (fun k => k = q) w).setCell (p := ⟨q, 0, none⟩) (.inr rfl) (.int .i64 x))
  clear h
  go_enter Tryz.func55, Tryz.ntmps55
  go_wp2
  go_end0
  exact ⟨rfl, Hs.out, Hm.out⟩

theorem setLevel_c (w : World) (q : Nat) (m l : Int) (v : Value) (k : Int) (t : Value) (h : QRAt w q m l v k t) (x : Int) : Calls Tryz.prog 54 #[.pointer (some ⟨q, 0, none⟩), (.int .i64 x)] w (Put w q fun w' => QRAt w' q m x v k t) := by
  have c0 := Lib.hid (h.cell 1)
  have c0' := c0.out
  have f0 := qr_frozen h 1
  have Hs := Lib.hid (Blk.set h 1 (.int .i64 x))
  have Hm := Lib.hid ((QZ.Mod.refl (fun k => k = q) w).setCell (p := ⟨q, 1, none⟩) (.inr rfl) (.int .i64 x))
  clear h
  go_enter Tryz.func54, Tryz.ntmps54
  go_wp2
  go_end0
  exact ⟨rfl, Hs.out, Hm.out⟩

theorem setVersion_c (w : World) (q : Nat) (m l : Int) (v : Value) (k : Int) (t : Value) (h : QRAt w q m l v k t) (x : Option Addr) : Calls Tryz.prog 56 #[.pointer (some ⟨q, 0, none⟩), (.pointer x)] w (Put w q fun w' => QRAt w' q m l (.pointer x) k t) := by
  have c0 := Lib.hid (h.cell 2)
  have c0' := c0.out
  have f0 := qr_frozen h 2
  have Hs := Lib.hid (Blk.set h 2 (.pointer x))
  have Hm := Lib.hid ((QZ.Mod.refl (fun k => k = q) w).setCell (p := ⟨q, 2, none⟩) (.inr rfl) (.pointer x))
  clear h
  go_enter Tryz.func56, Tryz.ntmps56
  go_wp2
  go_end0
  exact ⟨rfl, Hs.out, Hm.out⟩

theorem setMask_c (w : World) (q : Nat) (m l : Int) (v : Value) (k : Int) (t : Value) (h : QRAt w q m l v k t) (x : Int) : Calls Tryz.prog 61 #[.pointer (some ⟨q, 0, none⟩), (.int .i64 x)] w (Put w q fun w' => QRAt w' q m l v x t) := by
  have c0 := Lib.hid (h.cell 3)
  have c0' := c0.out
  have f0 := qr_frozen h 3
  have Hs := Lib.hid (Blk.set h 3 (.int .i64 x))
  have Hm := Lib.hid ((QZ.Mod.refl (fun k => k = q) w).setCell (p := ⟨q, 3, none⟩) (.inr rfl) (.int .i64 x))
  clear h
  go_enter Tryz.func61, Tryz.ntmps61
  go_wp2
  go_end0
  exact ⟨rfl, Hs.out, Hm.out⟩

theorem setMatrix_c (w : World) (q : Nat) (m l : Int) (v : Value) (k : Int) (t : Value) (h : QRAt w q m l v k t) (x : Option Addr) : Calls Tryz.prog 63 #[.pointer (some ⟨q, 0, none⟩), (.pointer x)] w (Put w q fun w' => QRAt w' q m l v k (.pointer x)) := by
  have c0 := Lib.hid (h.cell 4)
  have c0' := c0.out
  have f0 := qr_frozen h 4
  have Hs := Lib.hid (Blk.set h 4 (.pointer x))
  have Hm := Lib.hid ((QZ.Mod.refl (fun k => k = q) w).setCell (p := ⟨q, 4, none⟩) (.inr rfl) (.pointer x))
  clear h
  go_enter Tryz.func63, Tryz.ntmps63
  go_wp2
  go_end0
  exact ⟨rfl, Hs.out, Hm.out⟩
end Go.Proofs.YtnpkihobbcglcaaGreatDoor
/- A pair of a block's bytes. -/
open Go Go.RowKit
namespace Go.Proofs.YtnpkihobbcglcaaGreatDoor
open Go.QZ

theorem newPair_c (w : World) (A B : Option Addr) (a a' b b' : Nat) : Calls Tryz.prog 100 #[.slice A a a', .slice B b b'] w fun e w' => e = .returned (.pointer (some ⟨w.heap.size, 0, none⟩)) ∧ Blk w' w.heap.size [.slice A a a', .slice B b b'] ∧ QZ.Mod (fun _ => False) w w' ∧ w.heap.size < w'.heap.size := by
  have hnew := Lib.hid (fun t => Blk.new w [.slice A a a', .slice B b b'] t)
  go_enter Tryz.func100, Tryz.ntmps100
  go_wp2
  go_ret
  exact ⟨rfl, hnew.out _, (QZ.Mod.refl _ _).alloc _, by rw [World.size_alloc]; omega⟩
end Go.Proofs.YtnpkihobbcglcaaGreatDoor
/- The margins of a picture. -/
open Go Go.RowKit
namespace Go.Proofs.YtnpkihobbcglcaaGreatDoor
open Go.QZ

theorem results_cell1 {fn : Func} {p : Tmp} {ty : TypeId} (h : fn.results = #[.cell p ty]) (tmps : Array Value) (P : Program) (w : World) :
    (results fn tmps).run P w = ((asAddr (tmps.getD p undef)).run P w).andThen fun a w₁ => (loadVar ty a).run P w₁ := by
  simp only [results, h]
  simp [Sem.run_bind, Result.andThen]

def Margins (n : Nat) (e : Ending) : Prop := ∃ m0 m1 m2 m3 : Nat, e = .returned (.agg #[.int .i64 m0, .int .i64 m1, .int .i64 m2, .int .i64 m3]) ∧ m0 ≤ 15 ∧ m1 ≤ 40 ∧ m2 ≤ 15 ∧ m3 ≤ 40 ∧ 40 ≤ m0 + n + m1 ∧ 40 ≤ m2 + n + m3
theorem margins_of {n : Nat} {x0 x1 x2 x3 : Int} (h0 : 0 ≤ x0 ∧ x0 ≤ 15) (h1 : 0 ≤ x1 ∧ x1 ≤ 40) (h2 : 0 ≤ x2 ∧ x2 ≤ 15) (h3 : 0 ≤ x3 ∧ x3 ≤ 40) (h4 : 40 ≤ x0 + n + x1) (h5 : 40 ≤ x2 + n + x3) : Margins n (.returned (.agg #[.int .i64 x0, .int .i64 x1, .int .i64 x2, .int .i64 x3])) := by
  obtain ⟨m0, rfl⟩ := Int.eq_ofNat_of_zero_le h0.1
  obtain ⟨m1, rfl⟩ := Int.eq_ofNat_of_zero_le h1.1
  obtain ⟨m2, rfl⟩ := Int.eq_ofNat_of_zero_le h2.1
  obtain ⟨m3, rfl⟩ := Int.eq_ofNat_of_zero_le h3.1
  exact ⟨m0, m1, m2, m3, rfl, by omega, by omega, by omega, by omega, by omega, by omega⟩

set_option maxHeartbeats 800000 in
theorem margins_c (w : World) (a0 a1 a2 a3 n : Nat) (h0 : a0 < 256) (h1 : a1 < 256) (h2 : a2 < 256) (h3 : a3 < 256) (hn : n ≤ 200) :
    Calls Tryz.prog 22 #[.agg #[.int .u8 a0, .int .u8 a1, .int .u8 a2, .int .u8 a3], .int .i64 n] w fun e w' => Margins n e ∧ QZ.Mod (fun _ => False) w w' := by
  go_enter Tryz.func22, Tryz.ntmps22
  go_wp2
  all_goals (try simp only [Exit.inBlock, Exit.then])
  all_goals
    first
    | (refine bodyPost_ret (v := .agg #[.int .i64 ((a0 : Int) % 16), .int .i64 ((a1 : Int) % 16), .int .i64 ((a2 : Int) % 16), .int .i64 ((a3 : Int) % 16)]) (by rw [results_cell1 rfl]; go_simp) rfl ⟨margins_of (by omega) (by omega) (by omega) (by omega) (by omega) (by omega), ?_⟩)
    | (refine bodyPost_ret (v := .agg #[.int .i64 ((a0 : Int) % 16), .int .i64 (40 - (n : Int) - (a0 : Int) % 16), .int .i64 ((a2 : Int) % 16), .int .i64 ((a3 : Int) % 16)]) (by rw [results_cell1 rfl]; go_simp) rfl ⟨margins_of (by omega) (by omega) (by omega) (by omega) (by omega) (by omega), ?_⟩)
    | (refine bodyPost_ret (v := .agg #[.int .i64 ((a0 : Int) % 16), .int .i64 ((a1 : Int) % 16), .int .i64 ((a2 : Int) % 16), .int .i64 (40 - (n : Int) - (a2 : Int) % 16)]) (by rw [results_cell1 rfl]; go_simp) rfl ⟨margins_of (by omega) (by omega) (by omega) (by omega) (by omega) (by omega), ?_⟩)
    | (refine bodyPost_ret (v := .agg #[.int .i64 ((a0 : Int) % 16), .int .i64 (40 - (n : Int) - (a0 : Int) % 16), .int .i64 ((a2 : Int) % 16), .int .i64 (40 - (n : Int) - (a2 : Int) % 16)]) (by rw [results_cell1 rfl]; go_simp) rfl ⟨margins_of (by omega) (by omega) (by omega) (by omega) (by omega) (by omega), ?_⟩)
  all_goals exact (((QZ.Mod.refl _ _).alloc _).alloc _).alloc _
end Go.Proofs.YtnpkihobbcglcaaGreatDoor
/- The level of a byte. -/
open Go Go.RowKit
namespace Go.Proofs.YtnpkihobbcglcaaGreatDoor
open Go.QZ

theorem qrLevel_c (w : World) (c : Nat) (hc : c < 256) : Calls Tryz.prog 6 #[.int .u8 c] w fun e w' => e = .returned (.int .i64 (c % 4 : Nat)) ∧ w = w' := by
  go_enter Tryz.func6, Tryz.ntmps6
  go_wp2
  go_ret
  exact ⟨by first | rfl | (congr 2; omega), rfl⟩
end Go.Proofs.YtnpkihobbcglcaaGreatDoor
