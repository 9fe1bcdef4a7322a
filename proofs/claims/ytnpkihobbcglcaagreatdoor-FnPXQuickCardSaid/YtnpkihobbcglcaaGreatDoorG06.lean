/- Part 6 of the proof of FnPXQuick (a QR code that is written for a text says this text in a picture): parts of the road. No condition. -/
import Derived.Laws.CopyOwn
import Derived.Test.YtnpkihobbcglcaaGreatDoorG02
open Go Go.RowKit
namespace Go.Proofs.YtnpkihobbcglcaaGreatDoor
open Go.QZ

def bth (bs : List Bool) (j : Nat) : Bool := bs.getD j false
/-- Bit i of words of 32. -/
def bit (ws : List Nat) (i : Nat) : Bool := (nth ws (i / 32)).testBit (i % 32)

/-- A BitArray at block p, its words in block B: it holds bits; behind them all is light. -/
structure BA (w : World) (p B : Nat) (ws : List Nat) (bs : List Bool) : Prop where
  head : Blk w p [.slice (some ⟨B, 0, none⟩) ws.length ws.length, .int .i64 bs.length]
  words : Blk w B (cellsN .u32 ws)
  ne : p ≠ B
  fits : bs.length ≤ 32 * ws.length
  few : ws.length ≤ 1048576
  lt : ∀ x ∈ ws, x < 4294967296
  bits : ∀ i, bit ws i = bth bs i

theorem BA.mod {S : Nat → Prop} {w w' : World} {p B : Nat} {ws : List Nat} {bs : List Bool} (h : BA w p B ws bs) (hm : QZ.Mod S w w') (hp : ¬ S p) (hB : ¬ S B) : BA w' p B ws bs :=
  ⟨hm.blk hp h.head, hm.blk hB h.words, h.ne, h.fits, h.few, h.lt, h.bits⟩
theorem BA.c0 {w : World} {p B : Nat} {ws : List Nat} {bs : List Bool} (h : BA w p B ws bs) : w.cell? ⟨p, 0, none⟩ = some (.slice (some ⟨B, 0, none⟩) ws.length ws.length) := by rw [h.head.cell]; rfl
theorem BA.c1 {w : World} {p B : Nat} {ws : List Nat} {bs : List Bool} (h : BA w p B ws bs) : w.cell? ⟨p, 1, none⟩ = some (.int .i64 bs.length) := by rw [h.head.cell]; rfl
theorem BA.cw {w : World} {p B : Nat} {ws : List Nat} {bs : List Bool} (h : BA w p B ws bs) (j : Nat) (hj : j < ws.length) : w.cell? ⟨B, j, none⟩ = some (.int .u32 (nth ws j : Nat)) := by
  rw [h.words.cell, cellsN_get _ _ _ hj]
theorem BA.wlt {w : World} {p B : Nat} {ws : List Nat} {bs : List Bool} (h : BA w p B ws bs) (j : Nat) : nth ws j < 4294967296 := nth_lt (by decide) h.lt j

theorem iu32 : (Tryz.prog.info? 204).map (fun i => (i.zero, i.size, i.bytes)) = some (some (.int .u32 0), 1, 4) := by kernel_rfl

theorem mkArr_c (w : World) (n : Int) (h0 : 0 ≤ n) (h1 : n ≤ 2147483648) :
    Calls Tryz.prog 80 #[.int .i64 n] w fun e w' => e = .returned (.slice (some ⟨w.heap.size, 0, none⟩) ((n.toNat + 31) / 32) ((n.toNat + 31) / 32)) ∧ w.alloc (zrow 204 (.int .u32 0) ((n.toNat + 31) / 32)) = w' := by
  obtain ⟨n, rfl⟩ := Int.eq_ofNat_of_zero_le h0
  rw [Int.toNat_natCast]
  have hmk := make_run (P := Tryz.prog) Tryz.underlying151 iu32 rfl (((n : Int) + 31) / 32) (((n : Int) + 31) / 32) ((n + 31) / 32) ((n + 31) / 32) (by omega) (by omega) (by omega) (by omega) (by omega)
  go_enter Tryz.func80, Tryz.ntmps80
  go_wp2
  go_ret
  exact ⟨rfl, rfl⟩

theorem bit_zero (k i : Nat) : bit (List.replicate k 0) i = false := by
  unfold bit nth
  rw [List.getD_eq_getElem?_getD, List.getElem?_replicate]
  split <;> simp
theorem bth_out {bs : List Bool} {i : Nat} (h : bs.length ≤ i) : bth bs i = false := by
  unfold bth; rw [List.getD_eq_getElem?_getD, List.getElem?_eq_none h]; rfl

/-- A new BitArray of no bits. -/
def NewBA (w : World) (e : Ending) (w' : World) : Prop :=
  ∃ p B, e = .returned (.pointer (some ⟨p, 0, none⟩)) ∧ BA w' p B [0] [] ∧ w.heap.size ≤ p ∧ w.heap.size ≤ B ∧ QZ.Mod (fun _ => False) w w'

theorem newBA_c (w : World) : Calls Tryz.prog 34 #[] w (NewBA w) := by
  go_enter Tryz.func34, Tryz.ntmps34
  go_wp2_with fail
  refine (mkArr_c w 1 (by omega) (by omega)).mono ?_
  rintro e w1 ⟨rfl, rfl⟩
  go_wp2_with fail
  go_ret
  have hb := (Blk.made w 204 (.int .u32 0) 1).alloc (.cells #[.slice (some ⟨w.heap.size, 0, none⟩) 1 1, .int .i64 0] 154)
  have hh := Blk.new (w.alloc (zrow 204 (.int .u32 0) 1)) [.slice (some ⟨w.heap.size, 0, none⟩) 1 1, .int .i64 0] 154
  rw [World.size_alloc] at hh
  exact ⟨w.heap.size + 1, w.heap.size, rfl, ⟨hh, hb, by omega, by simp, by simp, by simp, fun i => by rw [show ([0] : List Nat) = List.replicate 1 0 from rfl, bit_zero, bth_out (by simp)]⟩, by omega, by omega, (QZ.Mod.refl _ _).alloc _ |>.alloc _⟩

theorem sizeBytes_c (w : World) (p : Nat) (n : Nat) (hn : n ≤ 1000000000) (h : w.cell? ⟨p, 1, none⟩ = some (.int .i64 n)) :
    Calls Tryz.prog 45 #[.pointer (some ⟨p, 0, none⟩)] w fun e w' => e = .returned (.int .i64 ((n + 7) / 8 : Nat)) ∧ w = w' := by
  go_enter Tryz.func45, Tryz.ntmps45
  go_wp2
  go_ret
  exact ⟨by rw [show (((n + 7) / 8 : Nat) : Int) = ((n : Int) + 7) / 8 by omega]; rfl, rfl⟩

theorem getBA_core (w : World) (p B : Nat) (len : Nat) (x i : Nat) (c0 : w.cell? ⟨p, 0, none⟩ = some (.slice (some ⟨B, 0, none⟩) len len)) (hj : i / 32 < len) (hl : len ≤ 1048576) (hx : x < 4294967296) (cw : w.cell? ⟨B, i / 32, none⟩ = some (.int .u32 (x : Nat))) :
    Calls Tryz.prog 96 #[.pointer (some ⟨p, 0, none⟩), .int .i64 i] w fun e w' => e = .returned (.bool (x.testBit (i % 32))) ∧ w = w' := by
  have Hf := Lib.hid (and_bit x (i % 32) hx (by omega))
  go_enter Tryz.func96, Tryz.ntmps96
  go_wp2
  go_ret
  exact ⟨by rw [← Hf.out]; rfl, rfl⟩
theorem getBA_c (w : World) (p B : Nat) (ws : List Nat) (bs : List Bool) (h : BA w p B ws bs) (i : Int) (h0 : 0 ≤ i) (hi : i < bs.length) :
    Calls Tryz.prog 96 #[.pointer (some ⟨p, 0, none⟩), .int .i64 i] w fun e w' => e = .returned (.bool (bth bs i.toNat)) ∧ w = w' := by
  obtain ⟨i, rfl⟩ := Int.eq_ofNat_of_zero_le h0
  rw [Int.toNat_natCast, ← h.bits i]
  have hf := h.fits
  exact getBA_core w p B ws.length _ i h.c0 (by omega) h.few (h.wlt _) (h.cw _ (by omega))

/-- What became of a BitArray: it holds bits now. -/
def Grew (w : World) (p B L : Nat) (bs : List Bool) (v : Value) (e : Ending) (w' : World) : Prop :=
  e = .returned v ∧ ∃ B' ws', BA w' p B' ws' bs ∧ (bs.length ≤ 32 * L → ws'.length = L) ∧ (B' = B ∨ w.heap.size ≤ B') ∧ QZ.Mod (fun k => k = p ∨ k = B) w w'

/-- What became of its room. -/
def Roomed (w : World) (p B L : Nat) (bs : List Bool) (n : Nat) (e : Ending) (w' : World) : Prop :=
  e = .returned (.tuple #[]) ∧ ∃ B' ws', BA w' p B' ws' bs ∧ n ≤ 32 * ws'.length ∧ (n ≤ 32 * L → ws'.length = L) ∧ (B' = B ∨ w.heap.size ≤ B') ∧ QZ.Mod (fun k => k = p ∨ k = B) w w'

set_option maxHeartbeats 400000 in
theorem ensure_c (w : World) (p B : Nat) (ws : List Nat) (bs : List Bool) (h : BA w p B ws bs) (n : Int) (h0 : 0 ≤ n) (hn : n ≤ 16777216) :
    Calls Tryz.prog 94 #[.pointer (some ⟨p, 0, none⟩), .int .i64 n] w (Roomed w p B ws.length bs n.toNat) := by
  obtain ⟨n, rfl⟩ := Int.eq_ofNat_of_zero_le h0
  rw [Int.toNat_natCast]
  have c0 := h.c0
  have hfew := h.few
  by_cases hle : n ≤ 32 * ws.length
  · have H := Lib.hid h
    clear h
    go_enter Tryz.func94, Tryz.ntmps94
    go_wp2_with fail
    go_end0
    exact ⟨rfl, B, ws, H.out, hle, fun _ => rfl, .inl rfl, QZ.Mod.refl _ _⟩
  · have H := Lib.hid h
    have hplt := h.head.lt
    have hBlt := h.words.lt
    clear h
    go_enter Tryz.func94, Tryz.ntmps94
    go_wp2_with fail
    refine (mkArr_c w n (by omega) (by omega)).mono ?_
    rintro e w1 ⟨rfl, rfl⟩
    rw [Int.toNat_natCast]
    have hm1 := (QZ.Mod.refl (fun k => k = p ∨ k = B) w).alloc (zrow 204 (.int .u32 0) ((n + 31) / 32))
    have hb1 := Blk.made w 204 (.int .u32 0) ((n + 31) / 32)
    have hba := H.out.mod ((QZ.Mod.refl (fun _ => False) w).alloc (zrow 204 (.int .u32 0) ((n + 31) / 32))) (fun f => f) (fun f => f)
    have Hg : Hid ((w.alloc (zrow 204 (.int .u32 0) ((n + 31) / 32))).heap[w.heap.size]? = some (.cells (List.replicate ((n + 31) / 32) (Value.int .u32 0)).toArray 204 (0, 0))) := (Go.MapKept.heap_alloc w _).1
    have Hsrc : Hid (∀ j v, (cellsN .u32 ws)[j]? = some v → (w.alloc (zrow 204 (.int .u32 0) ((n + 31) / 32))).cell? ((⟨B, 0, none⟩ : Addr).add j) = some v) := by
      intro j v hv
      rw [show (⟨B, 0, none⟩ : Addr).add j = ⟨B, j, none⟩ by rw [Addr.add_lit, Nat.zero_add], hba.words.cell]; exact hv
    have Hone : Hid (∀ v ∈ cellsN .u32 ws, v.oneCell' = true) := by
      intro v hv; simp only [cellsN, List.mem_map] at hv; obtain ⟨x, _, rfl⟩ := hv; rfl
    have Hlen : Hid ((cellsN .u32 ws).length = Nat.min ws.length ((n + 31) / 32)) := by
      show (cellsN .u32 ws).length = _
      rw [cellsN_length]; simp only [Nat.min_def]; split <;> omega
    have Hfit : Hid (0 + (cellsN .u32 ws).length ≤ (List.replicate ((n + 31) / 32) (Value.int .u32 0)).length) := by
      show 0 + (cellsN .u32 ws).length ≤ _
      rw [cellsN_length, List.length_replicate]; omega
    have c0' := hba.c0
    have Hba := Lib.hid hba
    clear hm1 hb1 hba c0
    go_wp2_with (with_reducible refine wpList_copy_splice rfl (.tmp 15) (.tmp 19) 151 151 rfl 204 Tryz.underlying151 (by kernel_rfl) _ _ _ _ _ _ rfl rfl w.heap.size 0 _ 204 Hg.out (cellsN .u32 ws) Hlen.out (fun _ => ⟨rfl, _, rfl, Hsrc.out⟩) Hfit.out Hone.out w.heap.size w (((Below.refl _ _).alloc (Nat.le_refl _) _)) (Nat.le_refl _) ?_; intro w2 hw2 hb2; have c2 := (hb2.cell (p := ⟨p, 0, none⟩) hplt).trans H.out.c0; have f2 := (hb2.frozen (p := ⟨p, 0, none⟩) hplt).trans (H.out.head.frozen 0); have Hb2 := Lib.hid hb2; clear hb2)
    go_end0
    have hm2 := (QZ.Below.mod Hb2.out (fun k => k = p ∨ k = B)).setCell (p := ⟨p, 0, none⟩) (.inr (.inl rfl)) (.slice (some ⟨w.heap.size, 0, none⟩) ((n + 31) / 32) ((n + 31) / 32))
    refine ⟨rfl, w.heap.size, ws ++ List.replicate ((n + 31) / 32 - ws.length) 0, ⟨?_, ?_, by omega, ?_, ?_, ?_, ?_⟩, ?_, fun hc => absurd hc hle, .inr (Nat.le_refl _), hm2⟩
    · have h1 : Blk w2 p [.slice (some ⟨B, 0, none⟩) ws.length ws.length, .int .i64 bs.length] := (QZ.Below.mod Hb2.out (fun _ => False)).blk (fun f => f) H.out.head
      have h2 := h1.set 0 (.slice (some ⟨w.heap.size, 0, none⟩) ((n + 31) / 32) ((n + 31) / 32))
      rw [List.length_append, List.length_replicate, show ws.length + ((n + 31) / 32 - ws.length) = (n + 31) / 32 by omega]
      exact h2
    · have h1 : Blk w2 w.heap.size (splice (List.replicate ((n + 31) / 32) (Value.int .u32 0)) 0 (cellsN .u32 ws)) := ⟨204, hw2.out⟩
      have h2 := h1.set_other (a := ⟨p, 0, none⟩) (by simp only; omega) (.slice (some ⟨w.heap.size, 0, none⟩) ((n + 31) / 32) ((n + 31) / 32))
      have e : splice (List.replicate ((n + 31) / 32) (Value.int .u32 0)) 0 (cellsN .u32 ws) = cellsN .u32 (ws ++ List.replicate ((n + 31) / 32 - ws.length) 0) := by
        unfold splice cellsN
        simp
      rwa [e] at h2
    · have := H.out.fits; rw [List.length_append, List.length_replicate]; omega
    · rw [List.length_append, List.length_replicate]; omega
    · intro x hx
      rcases List.mem_append.1 hx with hx | hx
      · exact H.out.lt x hx
      · rw [(List.mem_replicate.1 hx).2]; decide
    · intro i
      rw [← H.out.bits i]
      unfold bit nth
      congr 1
      rw [List.getD_eq_getElem?_getD, List.getD_eq_getElem?_getD, List.getElem?_append]
      split
      · rfl
      · rename_i hge
        rw [List.getElem?_replicate, List.getElem?_eq_none (by omega)]
        split <;> rfl
    · rw [List.length_append, List.length_replicate]; omega
end Go.Proofs.YtnpkihobbcglcaaGreatDoor
open Go Go.RowKit
namespace Go.Proofs.YtnpkihobbcglcaaGreatDoor
open Go.QZ

/-- One bit set. -/
def orb (x k : Nat) : Nat := x ||| 2 ^ k
def setBit (ws : List Nat) (i : Nat) : List Nat := ws.set (i / 32) (orb (nth ws (i / 32)) (i % 32))
theorem orb_lt {x k : Nat} (hx : x < 4294967296) (hk : k < 32) : orb x k < 4294967296 := Nat.or_lt_two_pow (n := 32) hx (pow_lt32 k hk)
theorem orb_run {x k : Nat} (hx : x < 4294967296) (hk : k < 32) : bits .or .u32 (x : Int) (2 ^ k % 4294967296) = (orb x k : Int) := by
  have hp := pow_lt32 k hk
  have e : ((2 : Int) ^ k % 4294967296) = ((2 ^ k : Nat) : Int) := by rw [pow_cast]; generalize 2 ^ k = q at *; omega
  rw [e, or_u32_nat _ _ hx hp]; rfl
theorem bit_setBit (ws : List Nat) (i j : Nat) (h : i / 32 < ws.length) : bit (setBit ws i) j = (bit ws j || decide (j = i)) := by
  unfold bit setBit
  rw [nth_set _ _ _ _ h]
  by_cases e : j / 32 = i / 32
  · rw [if_pos e, e]
    unfold orb
    rw [Nat.testBit_or, Nat.testBit_two_pow]
    congr 1
    rw [decide_eq_decide]; omega
  · rw [if_neg e]
    have : decide (j = i) = false := by rw [decide_eq_false_iff_not]; intro h; subst h; exact e rfl
    rw [this, Bool.or_false]
theorem setBit_length (ws : List Nat) (i : Nat) : (setBit ws i).length = ws.length := by unfold setBit; rw [List.length_set]
theorem setBit_lt {ws : List Nat} {i : Nat} (h : ∀ x ∈ ws, x < 4294967296) : ∀ x ∈ setBit ws i, x < 4294967296 := fun y hy => by
  rcases List.mem_or_eq_of_mem_set hy with hy | hy
  · exact h y hy
  · rw [hy]; exact orb_lt (nth_lt (by decide) h _) (by omega)

/-- A BitArray whose size is yet to be written: n says, the words hold bits. -/
structure BAx (w : World) (p B : Nat) (ws : List Nat) (n : Nat) (bs : List Bool) : Prop where
  head : Blk w p [.slice (some ⟨B, 0, none⟩) ws.length ws.length, .int .i64 n]
  words : Blk w B (cellsN .u32 ws)
  ne : p ≠ B
  fits : bs.length ≤ 32 * ws.length
  few : ws.length ≤ 1048576
  lt : ∀ x ∈ ws, x < 4294967296
  bits : ∀ i, bit ws i = bth bs i

theorem BA.x {w : World} {p B : Nat} {ws : List Nat} {bs : List Bool} (h : BA w p B ws bs) : BAx w p B ws bs.length bs := ⟨h.head, h.words, h.ne, h.fits, h.few, h.lt, h.bits⟩
theorem BAx.mod {S : Nat → Prop} {w w' : World} {p B : Nat} {ws : List Nat} {n : Nat} {bs : List Bool} (h : BAx w p B ws n bs) (hm : QZ.Mod S w w') (hp : ¬ S p) (hB : ¬ S B) : BAx w' p B ws n bs :=
  ⟨hm.blk hp h.head, hm.blk hB h.words, h.ne, h.fits, h.few, h.lt, h.bits⟩
theorem BAx.c0 {w : World} {p B : Nat} {ws : List Nat} {n : Nat} {bs : List Bool} (h : BAx w p B ws n bs) : w.cell? ⟨p, 0, none⟩ = some (.slice (some ⟨B, 0, none⟩) ws.length ws.length) := by rw [h.head.cell]; rfl
theorem BAx.c1 {w : World} {p B : Nat} {ws : List Nat} {n : Nat} {bs : List Bool} (h : BAx w p B ws n bs) : w.cell? ⟨p, 1, none⟩ = some (.int .i64 n) := by rw [h.head.cell]; rfl
theorem BAx.cw {w : World} {p B : Nat} {ws : List Nat} {n : Nat} {bs : List Bool} (h : BAx w p B ws n bs) (j : Nat) (hj : j < ws.length) : w.cell? ⟨B, j, none⟩ = some (.int .u32 (nth ws j : Nat)) := by
  rw [h.words.cell, cellsN_get _ _ _ hj]
theorem BAx.wlt {w : World} {p B : Nat} {ws : List Nat} {n : Nat} {bs : List Bool} (h : BAx w p B ws n bs) (j : Nat) : nth ws j < 4294967296 := nth_lt (by decide) h.lt j

theorem bth_push (bs : List Bool) (b : Bool) (i : Nat) : bth (bs ++ [b]) i = (bth bs i || (decide (i = bs.length) && b)) := by
  unfold bth
  rw [List.getD_eq_getElem?_getD, List.getD_eq_getElem?_getD]
  rcases Nat.lt_trichotomy i bs.length with h | h | h
  · rw [List.getElem?_append_left h]
    have : decide (i = bs.length) = false := by simp; omega
    rw [this]; simp
  · subst h; simp
  · rw [List.getElem?_eq_none (by simp; omega), List.getElem?_eq_none (by omega)]
    have : decide (i = bs.length) = false := by simp; omega
    rw [this]; rfl

/-- A dark bit behind the others. -/
theorem BAx.dark {w : World} {p B : Nat} {ws : List Nat} {n : Nat} {bs : List Bool} (h : BAx w p B ws n bs) (hr : bs.length < 32 * ws.length) :
    BAx (w.setCell ⟨B, bs.length / 32, none⟩ (.int .u32 (orb (nth ws (bs.length / 32)) (bs.length % 32) : Nat))) p B (setBit ws bs.length) n (bs ++ [true]) := by
  have hl := setBit_length ws bs.length
  refine ⟨?_, ?_, h.ne, ?_, ?_, setBit_lt h.lt, fun i => ?_⟩
  · rw [hl]; exact h.head.set_other h.ne _
  · have := h.words.set (bs.length / 32) (.int .u32 (orb (nth ws (bs.length / 32)) (bs.length % 32) : Nat))
    rwa [cellsN_set] at this
  · rw [hl, List.length_append]; simp; omega
  · rw [hl]; exact h.few
  · rw [bit_setBit _ _ _ (by omega), h.bits, bth_push, Bool.and_true]
/-- A light bit behind the others. -/
theorem BAx.pale {w : World} {p B : Nat} {ws : List Nat} {n : Nat} {bs : List Bool} (h : BAx w p B ws n bs) (hr : bs.length < 32 * ws.length) : BAx w p B ws n (bs ++ [false]) :=
  ⟨h.head, h.words, h.ne, by rw [List.length_append]; simp; omega, h.few, h.lt, fun i => by rw [h.bits, bth_push, Bool.and_false, Bool.or_false]⟩
/-- The size is written. -/
theorem BAx.sized {w : World} {p B : Nat} {ws : List Nat} {n : Nat} {bs : List Bool} (h : BAx w p B ws n bs) : BA (w.setCell ⟨p, 1, none⟩ (.int .i64 bs.length)) p B ws bs :=
  ⟨h.head.set 1 _, h.words.set_other (a := ⟨p, 1, none⟩) (Ne.symm h.ne) _, h.ne, h.fits, h.few, h.lt, h.bits⟩

theorem len_push (bs : List Bool) (b : Bool) : ((bs ++ [b]).length : Int) = (bs.length : Int) + 1 := by simp

set_option maxHeartbeats 400000 in
theorem appendBit_t (w : World) (p B : Nat) (ws : List Nat) (bs : List Bool) (h : BA w p B ws bs) (hn : bs.length < 16777215) :
    Calls Tryz.prog 95 #[.pointer (some ⟨p, 0, none⟩), .bool true] w (Grew w p B ws.length (bs ++ [true]) (.tuple #[])) := by
  have c1 := h.c1
  have H := Lib.hid h
  clear h
  go_enter Tryz.func95, Tryz.ntmps95
  go_wp2_with fail
  refine (ensure_c w p B ws bs H.out _ (by omega) (by omega)).mono ?_
  rintro e w1 ⟨rfl, B', ws', h1, hroom, hlen, hB, hm⟩
  have Hlen := Lib.hid hlen; clear hlen
  have hroom : bs.length < 32 * ws'.length := by omega
  have H1 := Lib.hid h1; have Hm := Lib.hid hm; have HB := Lib.hid hB
  have c0' := h1.c0
  have c1' := h1.c1
  have cw := h1.cw (bs.length / 32) (by omega)
  have hfr := h1.words.frozen (bs.length / 32)
  have hfr1 := h1.head.frozen 1
  have hl := h1.wlt (bs.length / 32)
  have hor := orb_run hl (show bs.length % 32 < 32 by omega)
  have hd := h1.x.dark hroom
  have c1s := hd.c1
  have f1s := hd.head.frozen 1
  have Hd := Lib.hid hd
  clear h1 hm c1 hd hB
  go_wp2_with fail
  go_region
  go_wp2_with fail
  go_end0
  have hs := Hd.out.sized
  rw [len_push] at hs
  refine ⟨rfl, B', _, hs.mod (QZ.Mod.refl (fun _ => False) _).drew (fun f => f) (fun f => f), fun hc => by rw [setBit_length]; exact Hlen.out (by rw [List.length_append] at hc; simp at hc; omega), HB.out, (Hm.out.then ((QZ.Mod.refl (fun k => k = p ∨ k = B') w1).setCell (p := ⟨B', bs.length / 32, none⟩) (.inr (.inr rfl)) _ |>.setCell (p := ⟨p, 1, none⟩) (.inr (.inl rfl)) _) (fun k hk hs => ?_)).drew⟩
  rcases hs with hs | hs
  · exact .inl hs
  · rcases HB.out with e | e
    · exact .inr (hs.trans e)
    · omega

set_option maxHeartbeats 400000 in
theorem appendBit_f (w : World) (p B : Nat) (ws : List Nat) (bs : List Bool) (h : BA w p B ws bs) (hn : bs.length < 16777215) :
    Calls Tryz.prog 95 #[.pointer (some ⟨p, 0, none⟩), .bool false] w (Grew w p B ws.length (bs ++ [false]) (.tuple #[])) := by
  have c1 := h.c1
  have H := Lib.hid h
  clear h
  go_enter Tryz.func95, Tryz.ntmps95
  go_wp2_with fail
  refine (ensure_c w p B ws bs H.out _ (by omega) (by omega)).mono ?_
  rintro e w1 ⟨rfl, B', ws', h1, hroom, hlen, hB, hm⟩
  have Hlen := Lib.hid hlen; clear hlen
  have hroom : bs.length < 32 * ws'.length := by omega
  have Hm := Lib.hid hm; have HB := Lib.hid hB
  have c1' := h1.c1
  have hfr1 := h1.head.frozen 1
  have Hd := Lib.hid (h1.x.pale hroom)
  clear h1 hm c1 hB
  go_wp2_with fail
  go_end0
  have hs := Hd.out.sized
  rw [len_push] at hs
  refine ⟨rfl, B', _, hs, fun hc => Hlen.out (by rw [List.length_append] at hc; simp at hc; omega), HB.out, (Hm.out.setCell (p := ⟨p, 1, none⟩) (.inr (.inl rfl)) _)⟩

theorem appendBit_c (w : World) (p B : Nat) (ws : List Nat) (bs : List Bool) (h : BA w p B ws bs) (hn : bs.length < 16777215) (b : Bool) :
    Calls Tryz.prog 95 #[.pointer (some ⟨p, 0, none⟩), .bool b] w (Grew w p B ws.length (bs ++ [b]) (.tuple #[])) := by
  cases b
  · exact appendBit_f w p B ws bs h hn
  · exact appendBit_t w p B ws bs h hn
end Go.Proofs.YtnpkihobbcglcaaGreatDoor
open Go Go.RowKit
namespace Go.Proofs.YtnpkihobbcglcaaGreatDoor
open Go.QZ

/-- So many bits of a number, the highest one first. -/
def beBits (v k : Nat) : List Bool := (List.range k).map fun i => v.testBit (k - 1 - i)
theorem beBits_length (v k : Nat) : (beBits v k).length = k := by simp [beBits]

theorem beBits_take (v k m : Nat) (h : m < k) : (beBits v k).take (m + 1) = (beBits v k).take m ++ [v.testBit (k - 1 - m)] := by
  rw [List.take_succ_eq_append_getElem (by rw [beBits_length]; exact h)]
  simp [beBits]

theorem tb64 (v j : Nat) (hv : v < 4294967296) (hj : j < 32) : (bits .and .i64 (v : Int) (wrap64 (2 ^ j)) != 0) = v.testBit j := by
  have hp := pow_lt32 j hj
  have e : wrap64 ((2 : Int) ^ j) = ((2 ^ j : Nat) : Int) := by rw [pow_cast]; generalize 2 ^ j = q at *; unfold wrap64; omega
  have h2 := (bits_nat .i64 63 (by decide) (fun n h0 h1 => by rw [IntKind.wrap_i64]; omega) v (2 ^ j) (by omega) (by omega)).1
  rw [e, h2, and_two_pow]
  have : (2 ^ j : Nat) ≠ 0 := Nat.ne_of_gt (Nat.two_pow_pos j)
  generalize 2 ^ j = q at *
  cases h : v.testBit j
  · rfl
  · simp only [if_true, bne_iff_ne]; omega

theorem and31 (i : Nat) (h : i < 4294967296) : bits .and .i64 (i : Int) 31 = ((i % 32 : Nat) : Int) := by
  have := bits_mask .i64 63 (by decide) (fun n h0 h1 => by rw [IntKind.wrap_i64]; omega) 5 (by decide) (i : Int) (by omega) (by omega)
  simpa using this

set_option maxHeartbeats 800000 in
theorem appendBits_c (w : World) (p B : Nat) (ws : List Nat) (bs : List Bool) (h : BA w p B ws bs) (hn : bs.length < 16777000) (v k : Nat) (hv : v < 4294967296) (hk : k ≤ 32) :
    Calls Tryz.prog 83 #[.pointer (some ⟨p, 0, none⟩), .int .i64 v, .int .i64 k] w (Grew w p B ws.length (bs ++ beBits v k) .nilIface) := by
  have c1 := h.c1
  have H := Lib.hid h
  have t0 : decide ((k : Int) < 0) = false := by simp
  have t1 : decide (32 < (k : Int)) = false := by simp; omega
  clear h
  go_enter Tryz.func83, Tryz.ntmps83
  go_wp2_with fail
  refine (ensure_c w p B ws bs H.out _ (by omega) (by omega)).mono ?_
  rintro e w1 ⟨rfl, B', ws', h1, hroom, hlen, hB, hm⟩
  have Hlen := Lib.hid hlen; clear hlen
  have hroom : bs.length + k ≤ 32 * ws'.length := by omega
  have hfew := h1.few
  have H1 := Lib.hid h1.x; have Hm := Lib.hid hm; have HB := Lib.hid hB
  clear h1 hm c1 hB
  go_wp2_with fail
  go_loopw [7, 8] (fun a b wr => ∃ (m N : Nat) (us : List Nat), m ≤ k ∧ N = bs.length + m ∧ a = .int .i64 N ∧ b = .int .i64 ((k : Int) - 1 - m) ∧ us.length = ws'.length ∧ BAx wr p B' us bs.length (bs ++ (beBits v k).take m) ∧ QZ.Mod (fun k => k = p ∨ k = B) w wr) (fun _ b _ => (intOf b + 1).toNat)
  case atStart => exact ⟨0, _, ws', by omega, rfl, rfl, by simp, rfl, by simpa using H1.out, Hm.out⟩
  case round =>
    obtain ⟨m, N, us, hmk, hN, rfl, rfl, hul, hx, hm⟩ := hrel
    have hlenp : (bs ++ (beBits v k).take m).length = N := by
      rw [List.length_append, List.length_take, beBits_length, hN]; omega
    by_cases hlt : m < k
    · obtain ⟨j, hj⟩ : ∃ j, k - 1 - m = j := ⟨_, rfl⟩
      have hjj : (k : Int) - 1 - (m : Int) = (j : Int) := by omega
      have hNl : N < 32 * us.length := by omega
      have ht := tb64 v j hv (by omega)
      have Htk := Lib.hid (beBits_take v k m hlt)
      have Hx := Lib.hid hx; have Hmm := Lib.hid hm; have Hul := Lib.hid hul; have HN := Lib.hid hN; have Hlp := Lib.hid hlenp; have Hj := Lib.hid hj; have Hjj := Lib.hid hjj
      have hb32 : j < 32 := by omega
      have hNb : N ≤ 16777100 := by omega
      have h31 := and31 N (by omega)
      have h31b : ((N % 32 : Nat) : Int) < 32 := by omega
      have c0' := hx.c0
      have cw := hx.cw (N / 32) (by omega)
      have hfr := hx.words.frozen (N / 32)
      have hl := hx.wlt (N / 32)
      have hor := orb_run hl (show N % 32 < 32 by omega)
      have hfew2 : us.length ≤ 1048576 := by omega
      cases hb : v.testBit j
      · rw [hb] at ht
        have Hpale := Lib.hid (hx.pale (by omega))
        have HB2 := Lib.hid hb
        clear hx hm hul hN hlenp hj hb c0' cw hfr hl hor h31
        go_wp2_with fail
        go_roundw
        case rel => exact ⟨m + 1, N + 1, us, by omega, by have := HN.out; omega, by go_num, by rw [show ((m + 1 : Nat) : Int) = (m : Int) + 1 by omega, ← Hjj.out]; congr 1; omega, Hul.out, by rw [Htk.out, Hj.out, HB2.out, ← List.append_assoc]; exact Hpale.out, Hmm.out⟩
        case measure => have := Hjj.out; simp [intOf]; omega
      · rw [hb] at ht
        have hdark := hx.dark (by omega)
        rw [hlenp] at hdark
        have Hdark := Lib.hid hdark
        have HB2 := Lib.hid hb
        clear hx hm hul hN hlenp hj hb hdark
        go_wp2_with fail
        go_region
        go_wp2_with fail
        go_roundw
        case rel =>
          refine ⟨m + 1, N + 1, setBit us N, by omega, by have := HN.out; omega, by go_num, by rw [show ((m + 1 : Nat) : Int) = (m : Int) + 1 by omega, ← Hjj.out]; congr 1; omega, by rw [setBit_length]; exact Hul.out, ?_, (Hmm.out.then ((QZ.Mod.refl (fun k => k = B') wr).setCell (p := ⟨B', N / 32, none⟩) (.inr rfl) _) (fun k hk hs => ?_)).drew⟩
          · rw [Htk.out, Hj.out, HB2.out, ← List.append_assoc]
            exact Hdark.out.mod (QZ.Mod.refl (fun _ => False) _).drew (fun f => f) (fun f => f)
          · rcases HB.out with e | e
            · exact .inr (hs.trans e)
            · have := hs; omega
        case measure => have := Hjj.out; simp [intOf]; omega
    · obtain rfl : m = k := by omega
      have hjj : (m : Int) - 1 - (m : Int) = -1 := by omega
      have c1' := hx.c1
      have hfr1 := hx.head.frozen 1
      have Hx := Lib.hid hx; have Hmm := Lib.hid hm; have Hlp := Lib.hid hlenp; have Hul := Lib.hid hul
      clear hx hm hul hN hlenp
      go_wp2_with fail
      go_ret
      have hs := Hx.out.sized
      rw [Hlp.out, List.take_of_length_le (by rw [beBits_length]; exact Nat.le_refl _)] at hs
      exact ⟨rfl, B', us, hs, fun hc => (Hul.out).trans (Hlen.out (by rw [List.length_append, beBits_length] at hc; omega)), HB.out, Hmm.out.setCell (p := ⟨p, 1, none⟩) (.inr (.inl rfl)) _⟩
end Go.Proofs.YtnpkihobbcglcaaGreatDoor
open Go Go.RowKit
namespace Go.Proofs.YtnpkihobbcglcaaGreatDoor
open Go.QZ

set_option maxHeartbeats 400000 in
theorem appendArr_c (w : World) (p B : Nat) (ws : List Nat) (bs : List Bool) (h : BA w p B ws bs) (q C : Nat) (vs : List Nat) (cs : List Bool) (h2 : BA w q C vs cs) (hpq : p ≠ q) (hBq : B ≠ q) (hpC : p ≠ C) (hBC : B ≠ C) (hn : bs.length + cs.length ≤ 16777000) :
    Calls Tryz.prog 44 #[.pointer (some ⟨p, 0, none⟩), .pointer (some ⟨q, 0, none⟩)] w (Grew w p B ws.length (bs ++ cs) (.tuple #[])) := by
  have c1 := h.c1
  have d1 := h2.c1
  have hqC := h2.ne
  have H := Lib.hid h; have H2 := Lib.hid h2
  clear h h2
  go_enter Tryz.func44, Tryz.ntmps44
  go_wp2_with fail
  refine (ensure_c w p B ws bs H.out _ (by omega) (by omega)).mono ?_
  rintro e w1 ⟨rfl, B', ws', h1, hroom, hlen, hB, hm⟩
  have H1 := Lib.hid h1; have Hm := Lib.hid hm; have HB := Lib.hid hB; have Hlen := Lib.hid hlen
  have Hroom : Hid (((bs.length : Int) + (cs.length : Int)).toNat ≤ 32 * ws'.length) := hroom
  clear h1 hm c1 hB hlen d1 hroom
  go_wp2_with fail
  go_loopw [5] (fun a wr => ∃ (k : Nat) (B2 : Nat) (us : List Nat), k ≤ cs.length ∧ a = .int .i64 k ∧ BA wr p B2 us (bs ++ cs.take k) ∧ us.length = ws'.length ∧ (B2 = B ∨ w.heap.size ≤ B2) ∧ QZ.Mod (fun k => k = p ∨ k = B) w wr) (fun a _ => cs.length - (intOf a).toNat)
  case atStart => exact ⟨0, B', ws', by omega, rfl, by simpa using H1.out, rfl, HB.out, Hm.out⟩
  case round =>
    obtain ⟨k, B2, us, hk, rfl, hx, hul, hB2, hm⟩ := hrel
    by_cases hlt : k < cs.length
    · have hq := H2.out.mod hm (by omega) (by omega)
      have Hx := Lib.hid hx; have Hmm := Lib.hid hm; have HB2 := Lib.hid hB2; have Hul := Lib.hid hul
      clear hx hm hB2 hul
      go_wp2_with fail
      refine (getBA_c _ q C vs cs hq k (by omega) (by omega)).mono ?_
      rintro e w2 ⟨rfl, rfl⟩
      rw [Int.toNat_natCast]
      go_wp2_with fail
      refine (appendBit_c _ p B2 us _ Hx.out (by rw [List.length_append, List.length_take]; omega) _).mono ?_
      rintro e w2 ⟨rfl, B3, us3, h3, hlen3, hB3, hm3⟩
      have H3 := Lib.hid h3; have Hm3 := Lib.hid hm3; have HB3 := Lib.hid hB3; have Hlen3 := Lib.hid hlen3
      clear h3 hm3 hB3 hlen3
      go_wp2_with fail
      go_roundw
      case rel =>
        have e : bs ++ cs.take (k + 1) = bs ++ cs.take k ++ [bth cs k] := by
          rw [List.take_succ_eq_append_getElem hlt, List.append_assoc]
          simp [bth, List.getD_eq_getElem?_getD, hlt]
        refine ⟨k + 1, B3, us3, by omega, by go_num, by rw [e]; exact H3.out, ?_, ?_, Hmm.out.then Hm3.out (fun k hk hs => ?_)⟩
        · have r1 := Hroom.out
          have r2 := Hul.out
          rw [← r2]; exact Hlen3.out (by rw [List.length_append, List.length_append, List.length_take]; simp; omega)
        · rcases HB3.out with e | e
          · rw [e]; exact HB2.out
          · have := Hmm.out.size; right; omega
        · rcases hs with hs | hs
          · exact .inl hs
          · rcases HB2.out with e | e
            · exact .inr (hs.trans e)
            · omega
      case measure => simp [intOf]; omega
    · obtain rfl : k = cs.length := by omega
      have Hx := Lib.hid hx; have Hmm := Lib.hid hm; have HB2 := Lib.hid hB2; have Hul := Lib.hid hul
      clear hx hm hB2 hul
      go_wp2_with fail
      go_end0
      have hs := Hx.out
      rw [List.take_length] at hs
      exact ⟨rfl, B2, us, hs, fun hc => Hul.out.trans (Hlen.out (by rw [List.length_append] at hc; omega)), HB2.out, Hmm.out⟩
end Go.Proofs.YtnpkihobbcglcaaGreatDoor
open Go Go.RowKit
namespace Go.Proofs.YtnpkihobbcglcaaGreatDoor
open Go.QZ

def xw (a b : Nat) : Nat := a ^^^ b
theorem xw_lt {a b : Nat} (ha : a < 4294967296) (hb : b < 4294967296) : xw a b < 4294967296 := Nat.xor_lt_two_pow (n := 32) ha hb
theorem xw_run {a b : Nat} (ha : a < 4294967296) (hb : b < 4294967296) : bits .xor .u32 (a : Int) (b : Int) = (xw a b : Int) := by
  have h1 : (BitVec.ofInt 32 (a : Int)).toNat = a := by
    rw [BitVec.ofInt_natCast, BitVec.toNat_ofNat]; exact Nat.mod_eq_of_lt (by omega)
  have h2 : (BitVec.ofInt 32 (b : Int)).toNat = b := by
    rw [BitVec.ofInt_natCast, BitVec.toNat_ofNat]; exact Nat.mod_eq_of_lt (by omega)
  show IntKind.u32.wrap ((BitVec.ofInt 32 (a : Int) ^^^ BitVec.ofInt 32 (b : Int)).toNat : Int) = _
  rw [BitVec.toNat_xor, h1, h2, IntKind.wrap_u32]
  have := xw_lt ha hb
  unfold xw at *
  omega

/-- Bits by exclusive or. -/
def xorBits (bs cs : List Bool) : List Bool := (List.range bs.length).map fun i => bth bs i ^^ bth cs i
theorem xorBits_length (bs cs : List Bool) : (xorBits bs cs).length = bs.length := by simp [xorBits]
theorem xorBits_bth (bs cs : List Bool) (h : cs.length = bs.length) (i : Nat) : bth (xorBits bs cs) i = (bth bs i ^^ bth cs i) := by
  by_cases hi : i < bs.length
  · unfold xorBits bth
    simp [List.getD_eq_getElem?_getD, hi]
  · rw [bth_out (by rw [xorBits_length]; omega), bth_out (by omega), bth_out (by omega)]; rfl

/-- Words of which the first k are already done. -/
def xorTo (ws vs : List Nat) (k : Nat) : List Nat := (List.range ws.length).map fun j => if j < k then xw (nth ws j) (nth vs j) else nth ws j
theorem xorTo_length (ws vs : List Nat) (k : Nat) : (xorTo ws vs k).length = ws.length := by simp [xorTo]
theorem xorTo_nth (ws vs : List Nat) (k j : Nat) (h : j < ws.length) : nth (xorTo ws vs k) j = if j < k then xw (nth ws j) (nth vs j) else nth ws j := by
  unfold xorTo nth
  simp [List.getD_eq_getElem?_getD, h]
theorem list_ext_nth {a b : List Nat} (hl : a.length = b.length) (h : ∀ j, j < a.length → nth a j = nth b j) : a = b := by
  apply List.ext_getElem hl
  intro j h1 h2
  have := h j h1
  simpa [nth, List.getD_eq_getElem?_getD, h1, h2] using this
theorem xorTo_zero (ws vs : List Nat) : xorTo ws vs 0 = ws := list_ext_nth (xorTo_length _ _ _) (fun j h => by rw [xorTo_length] at h; rw [xorTo_nth _ _ _ _ h]; simp)
theorem xorTo_succ (ws vs : List Nat) (k : Nat) (h : k < ws.length) : (xorTo ws vs k).set k (xw (nth (xorTo ws vs k) k) (nth vs k)) = xorTo ws vs (k + 1) := by
  apply list_ext_nth (by rw [List.length_set, xorTo_length, xorTo_length])
  intro j hj
  rw [List.length_set, xorTo_length] at hj
  rw [nth_set _ _ _ _ (by rw [xorTo_length]; exact h), xorTo_nth _ _ _ _ hj, xorTo_nth _ _ _ _ hj, xorTo_nth _ _ _ _ h]
  by_cases e : j = k
  · subst e; simp
  · rw [if_neg e]
    by_cases e2 : j < k
    · rw [if_pos e2, if_pos (by omega)]
    · rw [if_neg e2, if_neg (by omega)]
theorem xorTo_lt {ws vs : List Nat} (hw : ∀ x ∈ ws, x < 4294967296) (hv : ∀ x ∈ vs, x < 4294967296) (k : Nat) : ∀ x ∈ xorTo ws vs k, x < 4294967296 := by
  intro x hx
  unfold xorTo at hx
  obtain ⟨j, _, rfl⟩ := List.mem_map.1 hx
  split
  · exact xw_lt (nth_lt (by decide) hw j) (nth_lt (by decide) hv j)
  · exact nth_lt (by decide) hw j

set_option maxHeartbeats 800000 in
theorem xor_c (w : World) (p B : Nat) (ws : List Nat) (bs : List Bool) (h : BA w p B ws bs) (q C : Nat) (vs : List Nat) (cs : List Bool) (h2 : BA w q C vs cs) (hBq : B ≠ q) (hBC : B ≠ C) (hlen : cs.length = bs.length) (hwl : vs.length = ws.length) :
    Calls Tryz.prog 181 #[.pointer (some ⟨p, 0, none⟩), .pointer (some ⟨q, 0, none⟩)] w fun e w' => e = .returned .nilIface ∧ (∃ us, BA w' p B us (xorBits bs cs)) ∧ QZ.Mod (fun k => k = B) w w' := by
  have c1 := h.c1
  have d1 := h2.c1
  rw [hlen] at d1
  have hfew := h.few
  have hpB := h.ne
  have H := Lib.hid h; have H2 := Lib.hid h2; have Hlen := Lib.hid hlen
  clear h h2 hlen
  go_enter Tryz.func181, Tryz.ntmps181
  go_wp2_with fail
  go_quiet (fail)
  go_wp2_with fail
  go_loopw [5] (fun a wr => ∃ k : Nat, k ≤ ws.length ∧ a = .int .i64 k ∧ Blk wr B (cellsN .u32 (xorTo ws vs k)) ∧ QZ.Mod (fun k => k = B) w wr) (fun a _ => ws.length - (intOf a).toNat)
  case atStart => exact ⟨0, by omega, rfl, by rw [xorTo_zero]; exact blk_drewN H.out.words _, mod_drewN _ _ _⟩
  case round =>
    obtain ⟨k, hk, rfl, hb, hm⟩ := hrel
    have hp := hm.blk hpB H.out.head
    have c0' := hp.cell 0
    by_cases hlt : k < ws.length
    · have hq := H2.out.mod hm (Ne.symm hBq) (Ne.symm hBC)
      have d0' := hq.c0
      have dw := hq.cw k (by omega)
      have dl := hq.wlt k
      have cw := hb.cell k
      rw [cellsN_get _ _ _ (by rw [xorTo_length]; exact hlt)] at cw
      have hfr := hb.frozen k
      have hl := nth_lt (by decide) (xorTo_lt H.out.lt H2.out.lt k) k
      have hxr := xw_run hl dl
      have hb2 := hb.set k (.int .u32 (xw (nth (xorTo ws vs k) k) (nth vs k) : Nat))
      rw [cellsN_set, xorTo_succ _ _ _ hlt] at hb2
      have Hb2 := Lib.hid hb2
      have Hm2 := Lib.hid (hm.setCell (p := ⟨B, k, none⟩) (.inr rfl) (.int .u32 (xw (nth (xorTo ws vs k) k) (nth vs k) : Nat)))
      clear hb2 hb hm hp hq c1 d1
      go_wp2_with fail
      go_region
      go_wp2_with fail
      go_roundw
      case rel => exact ⟨k + 1, by omega, by go_num, Hb2.out, Hm2.out.drew⟩
      case measure => simp [intOf]; omega
    · obtain rfl : k = ws.length := by omega
      have Hb := Lib.hid hb; have Hm := Lib.hid hm; have Hp := Lib.hid hp
      clear hb hm hp c1 d1
      go_wp2_with fail
      go_ret
      refine ⟨rfl, ⟨_, ?_, Hb.out, hpB, ?_, ?_, xorTo_lt H.out.lt H2.out.lt _, fun i => ?_⟩, Hm.out⟩
      · rw [xorTo_length, xorBits_length]; exact Hp.out
      · rw [xorTo_length, xorBits_length]; exact H.out.fits
      · rw [xorTo_length]; exact hfew
      · rw [xorBits_bth _ _ Hlen.out, ← H.out.bits, ← H2.out.bits]
        unfold bit
        by_cases hi : i / 32 < ws.length
        · rw [xorTo_nth _ _ _ _ hi, if_pos hi]; unfold xw; rw [Nat.testBit_xor]
        · have e1 : nth (xorTo ws vs ws.length) (i / 32) = 0 := by unfold nth; rw [List.getD_eq_getElem?_getD, List.getElem?_eq_none (by rw [xorTo_length]; omega)]; rfl
          have e2 : nth ws (i / 32) = 0 := by unfold nth; rw [List.getD_eq_getElem?_getD, List.getElem?_eq_none (by omega)]; rfl
          have e3 : nth vs (i / 32) = 0 := by unfold nth; rw [List.getD_eq_getElem?_getD, List.getElem?_eq_none (by omega)]; rfl
          rw [e1, e2, e3]; simp

/-- The number of the first j of eight bits from a place on. -/
def pb (bs : List Bool) (o : Nat) : Nat → Nat
  | 0 => 0
  | j + 1 => if bth bs (o + j) then pb bs o j ||| 2 ^ (7 - j) else pb bs o j
def byteAt (bs : List Bool) (o : Nat) : Nat := pb bs o 8
theorem pb_lt (bs : List Bool) (o j : Nat) : pb bs o j < 256 := by
  induction j with
  | zero => unfold pb; decide
  | succ j ih =>
    unfold pb
    split
    · exact Nat.or_lt_two_pow (n := 8) ih (Nat.pow_lt_pow_right (by decide) (by omega))
    · exact ih
theorem byteAt_lt (bs : List Bool) (o : Nat) : byteAt bs o < 256 := pb_lt bs o 8

theorem or_u8_run {a k : Nat} (ha : a < 256) (hk : k < 8) : bits .or .u8 (a : Int) (2 ^ k % 256) = ((a ||| 2 ^ k : Nat) : Int) := by
  have hp : (2 : Nat) ^ k < 256 := Nat.lt_of_lt_of_le (Nat.pow_lt_pow_right (by decide) hk) (by decide)
  have e : ((2 : Int) ^ k % 256) = ((2 ^ k : Nat) : Int) := by rw [pow_cast]; generalize 2 ^ k = q at *; omega
  rw [e]
  exact (bits_nat .u8 8 (by decide) (fun n h0 h1 => by rw [IntKind.wrap_u8]; omega) a (2 ^ k) (by simpa using ha) (by simpa using hp)).2

/-- Bytes from a place on. -/
def bytesFrom (bs : List Bool) (o n : Nat) : List Nat := (List.range n).map fun i => byteAt bs (o + 8 * i)
theorem bytesFrom_length (bs : List Bool) (o n : Nat) : (bytesFrom bs o n).length = n := by simp [bytesFrom]
theorem bytesFrom_take (bs : List Bool) (o n i : Nat) (h : i < n) : (bytesFrom bs o n).take (i + 1) = (bytesFrom bs o n).take i ++ [byteAt bs (o + 8 * i)] := by
  rw [List.take_succ_eq_append_getElem (by rw [bytesFrom_length]; exact h)]
  simp [bytesFrom]
theorem set_front (xs ys : List Nat) (i y : Nat) (hl : ys.length = xs.length) (hi : i < xs.length) (h : ys.take i = xs.take i) (hy : xs.take (i + 1) = xs.take i ++ [y]) : (ys.set i y).take (i + 1) = xs.take (i + 1) := by
  rw [List.take_succ_eq_append_getElem (by rw [List.length_set]; omega), List.take_set_of_le (Nat.le_refl _), h, hy]
  simp

set_option maxHeartbeats 800000 in
theorem toBytes_c (w : World) (p B : Nat) (ws : List Nat) (bs : List Bool) (h : BA w p B ws bs) (A n : Nat) (xs : List Nat) (hx : Blk w A (cellsN .u8 xs)) (hxn : xs.length = n) (hAp : A ≠ p) (hAB : A ≠ B) (o : Nat) (hb : o + 8 * n ≤ bs.length) (hs : bs.length ≤ 16777000) :
    Calls Tryz.prog 98 #[.pointer (some ⟨p, 0, none⟩), .int .i64 o, .slice (some ⟨A, 0, none⟩) n n, .int .i64 0, .int .i64 n] w fun e w' => e = .returned (.tuple #[]) ∧ Blk w' A (cellsN .u8 (bytesFrom bs o n)) ∧ QZ.Mod (fun k => k = A) w w' := by
  have H := Lib.hid h; have Hx := Lib.hid hx; have Hxn := Lib.hid hxn
  clear h hx hxn
  go_enter Tryz.func98, Tryz.ntmps98
  go_wp2_with fail
  go_loopw [10, 11, 12, 1] (fun a _ _ c wr => ∃ (i q : Nat) (ys : List Nat), i ≤ n ∧ a = .int .i64 i ∧ c = .int .i64 q ∧ q = o + 8 * i ∧ ys.length = n ∧ ys.take i = (bytesFrom bs o n).take i ∧ Blk wr A (cellsN .u8 ys) ∧ QZ.Mod (fun k => k = A) w wr) (fun a _ _ _ _ => n - (intOf a).toNat)
  case atStart => exact ⟨0, o, xs, by omega, rfl, rfl, by omega, Hxn.out, by simp, Hx.out, QZ.Mod.refl _ _⟩
  case round =>
    obtain ⟨i, q, ys, hi, rfl, rfl, hq, hyl, hyt, hyb, hm⟩ := hrel
    have Hq := Lib.hid hq; have Hyl := Lib.hid hyl; have Hyt := Lib.hid hyt; have Hyb := Lib.hid hyb; have Hm := Lib.hid hm
    by_cases hlt : i < n
    · have hqb : q + 8 ≤ bs.length := by omega
      have hba := H.out.mod hm (Ne.symm hAp) (Ne.symm hAB)
      have Hba := Lib.hid hba
      have hcell := hyb.cell i
      rw [cellsN_get _ _ _ (by omega)] at hcell
      have hfr := hyb.frozen i
      clear hq hyl hyt hyb hm hba
      go_wp2_with fail
      obtain ⟨wo, hwo⟩ : ∃ wo : World, wo = wr := ⟨_, rfl⟩
      subst hwo
      go_loop [12, 11, 1] (fun b y c => ∃ j : Nat, j ≤ 8 ∧ b = .int .i64 j ∧ y = .int .u8 (pb bs q j : Nat) ∧ c = .int .i64 (q + j : Nat)) (fun b _ _ => 8 - (intOf b).toNat)
      case atStart => exact ⟨0, by omega, rfl, rfl, rfl⟩
      case round =>
        obtain ⟨j, hj, rfl, rfl, rfl⟩ := hrel
        by_cases hj8 : j < 8
        · have hpl := pb_lt bs q j
          have hcast : ((q + j : Nat) : Int) = (q : Int) + (j : Int) := by omega
          obtain ⟨k, hk⟩ : ∃ k, 7 - j = k := ⟨_, rfl⟩
          have hkk : (7 : Int) - (j : Int) = (k : Int) := by omega
          have hk8 : k < 8 := by omega
          have hor := or_u8_run hpl hk8
          have Hcast := Lib.hid hcast; have Hk := Lib.hid hk
          cases hb : bth bs (q + j)
          · have HB := Lib.hid hb
            clear hb hcast hk hcell hfr
            go_wp2_with fail
            refine (getBA_c _ p B ws bs Hba.out _ (by omega) (by omega)).mono ?_
            rintro e w2 ⟨rfl, rfl⟩
            rw [show ((q : Int) + (j : Int)).toNat = q + j by omega, HB.out]
            go_wp2_with fail
            go_round
            case rel => exact ⟨j + 1, by omega, by go_num, by conv => rhs; unfold pb
                                                              rw [HB.out]; rfl, by go_num⟩
            case measure => simp [intOf]; omega
          · have HB := Lib.hid hb
            clear hb hcast hk hcell hfr
            go_wp2_with fail
            refine (getBA_c _ p B ws bs Hba.out _ (by omega) (by omega)).mono ?_
            rintro e w2 ⟨rfl, rfl⟩
            rw [show ((q : Int) + (j : Int)).toNat = q + j by omega, HB.out]
            go_wp2_with fail
            go_round
            case rel => exact ⟨j + 1, by omega, by go_num, by conv => rhs; unfold pb
                                                              rw [HB.out, Hk.out]; rfl, by go_num⟩
            case measure => simp [intOf]; omega
        · obtain rfl : j = 8 := by omega
          have hb2 := Hyb.out.set i (.int .u8 (pb bs q 8 : Nat))
          rw [cellsN_set] at hb2
          have Hb2 := Lib.hid hb2
          have Hm2 := Lib.hid (Hm.out.setCell (p := ⟨A, i, none⟩) (.inr rfl) (.int .u8 (pb bs q 8 : Nat)))
          clear hb2
          go_wp2_with fail
          go_roundw
          case rel =>
            refine ⟨i + 1, q + 8, _, by omega, by go_num, rfl, by have := Hq.out; omega, by rw [List.length_set]; exact Hyl.out, ?_, Hb2.out, Hm2.out⟩
            refine set_front _ _ _ _ (by rw [bytesFrom_length]; exact Hyl.out) (by rw [bytesFrom_length]; exact hlt) Hyt.out ?_
            rw [bytesFrom_take _ _ _ _ hlt, ← Hq.out]; rfl
          case measure => simp [intOf]; omega
    · obtain rfl : i = n := by omega
      clear hq hyl hyt hyb hm
      go_wp2_with fail
      go_end0
      refine ⟨rfl, ?_, Hm.out⟩
      have e : ys = bytesFrom bs o i := by
        have h1 := Hyt.out
        rw [List.take_of_length_le (by rw [Hyl.out]; exact Nat.le_refl _), List.take_of_length_le (by rw [bytesFrom_length]; exact Nat.le_refl _)] at h1
        exact h1
      rw [← e]; exact Hyb.out
end Go.Proofs.YtnpkihobbcglcaaGreatDoor
