/- Part 1 of the proof of FnPXQuick (a QR code that is written for a text says this text in a picture): parts of the road. No condition. -/
import Derived.WalkKit
import Derived.Lib.Hide
import Derived.WalkLawsBesides
import Derived.WalkSpells
import Derived.Deep.QuietTactic
import Derived.BigQuiet
/- Memory in small: blocks of cells known whole, what of the world stays, BitArrays. -/
namespace Go
open Go.RowKit
namespace QZ

/-- Block b is a row of cells, unfrozen, known whole. -/
def Blk (w : World) (b : Nat) (cs : List Value) : Prop := ∃ t, w.heap[b]? = some (.cells cs.toArray t (0, 0))

theorem Blk.lt {w : World} {b : Nat} {cs : List Value} (h : Blk w b cs) : b < w.heap.size := by
  obtain ⟨t, h⟩ := h
  exact (Array.getElem?_eq_some_iff.1 h).1

theorem Blk.cell {w : World} {b : Nat} {cs : List Value} (h : Blk w b cs) (i : Nat) : w.cell? ⟨b, i, none⟩ = cs[i]? := by
  obtain ⟨t, h⟩ := h
  simp [World.cell?, h]

theorem Blk.frozen {w : World} {b : Nat} {cs : List Value} (h : Blk w b cs) (i : Nat) : w.frozen? ⟨b, i, none⟩ = false := by
  obtain ⟨t, h⟩ := h
  simp [World.frozen?, h]

theorem Blk.set {w : World} {b : Nat} {cs : List Value} (h : Blk w b cs) (i : Nat) (v : Value) : Blk (w.setCell ⟨b, i, none⟩ v) b (cs.set i v) := by
  obtain ⟨t, h⟩ := h
  refine ⟨t, ?_⟩
  simp [World.setCell, Array.getElem?_modify, h]

theorem Blk.set_other {w : World} {b : Nat} {cs : List Value} (h : Blk w b cs) {a : Addr} (ha : b ≠ a.block) (v : Value) : Blk (w.setCell a v) b cs := by
  obtain ⟨t, h⟩ := h
  exact ⟨t, by rw [Below.heap_setCell w a v b ha]; exact h⟩

theorem Blk.alloc {w : World} {b : Nat} {cs : List Value} (h : Blk w b cs) (o : Obj) : Blk (w.alloc o) b cs := by
  have hl := h.lt
  obtain ⟨t, h⟩ := h
  exact ⟨t, by rw [Below.heap_alloc w o b hl]; exact h⟩

theorem Blk.drew {w : World} {b : Nat} {cs : List Value} (h : Blk w b cs) : Blk w.drew b cs := h

theorem Blk.new (w : World) (cs : List Value) (t : TypeId) : Blk (w.alloc (.cells cs.toArray t (0, 0))) w.heap.size cs := ⟨t, (Go.MapKept.heap_alloc w _).1⟩

/-- w' is w, but for what lies in the blocks of S, and new blocks. -/
structure Mod (S : Nat → Prop) (w w' : World) : Prop where
  os : w'.os = w.os
  tape : w'.tape = w.tape
  output : w'.output = w.output
  size : w.heap.size ≤ w'.heap.size
  block : ∀ k, k < w.heap.size → ¬ S k → w'.heap[k]? = w.heap[k]?

theorem Mod.refl (S : Nat → Prop) (w : World) : Mod S w w := ⟨rfl, rfl, rfl, Nat.le_refl _, fun _ _ _ => rfl⟩

theorem Mod.trans {S : Nat → Prop} {a b c : World} (h : Mod S a b) (k : Mod S b c) : Mod S a c :=
  ⟨k.os.trans h.os, k.tape.trans h.tape, k.output.trans h.output, Nat.le_trans h.size k.size, fun i hi hs => (k.block i (Nat.lt_of_lt_of_le hi h.size) hs).trans (h.block i hi hs)⟩

theorem Mod.mono {S T : Nat → Prop} {a b : World} (h : Mod S a b) (hs : ∀ k, k < a.heap.size → S k → T k) : Mod T a b :=
  ⟨h.os, h.tape, h.output, h.size, fun i hi ht => h.block i hi (fun s => ht (hs i hi s))⟩

theorem Mod.alloc {S : Nat → Prop} {a b : World} (h : Mod S a b) (o : Obj) : Mod S a (b.alloc o) :=
  ⟨h.os, h.tape, h.output, by have := h.size; simp; omega, fun i hi hs => by
    rw [Below.heap_alloc b o i (Nat.lt_of_lt_of_le hi h.size)]; exact h.block i hi hs⟩

theorem Mod.setCell {S : Nat → Prop} {a b : World} (h : Mod S a b) {p : Addr} (hp : a.heap.size ≤ p.block ∨ S p.block) (v : Value) : Mod S a (b.setCell p v) :=
  ⟨h.os, h.tape, h.output, by simp [World.setCell]; exact h.size, fun i hi hs => by
    rw [Below.heap_setCell b p v i (by rcases hp with hp | hp; omega; intro e; subst e; exact hs hp)]; exact h.block i hi hs⟩

theorem Mod.drew {S : Nat → Prop} {a b : World} (h : Mod S a b) : Mod S a b.drew := ⟨h.os, h.tape, h.output, h.size, h.block⟩

theorem Mod.blk {S : Nat → Prop} {w w' : World} (h : Mod S w w') {b : Nat} {cs : List Value} (hs : ¬ S b) (hb : Blk w b cs) : Blk w' b cs := by
  have hl := hb.lt
  obtain ⟨t, hb⟩ := hb
  exact ⟨t, by rw [h.block b hl hs]; exact hb⟩

theorem Mod.below {w w' : World} (h : Mod (fun _ => False) w w') : Below w.heap.size w w' :=
  ⟨h.os, h.tape, h.output, h.size, fun k hk => h.block k hk (fun f => f)⟩

theorem Below.mod {w w' : World} (h : Below w.heap.size w w') (S : Nat → Prop) : Mod S w w' :=
  ⟨h.os, h.tape, h.output, h.size, fun k hk _ => h.block k hk⟩

/-- The j-th of a list of numbers, 0 beyond its end; and of integers. -/
def nth (ws : List Nat) (j : Nat) : Nat := ws.getD j 0
def ith (zs : List Int) (j : Nat) : Int := zs.getD j 0

/-- Cells of numbers of a kind. -/
def cellsI (k : IntKind) (zs : List Int) : List Value := zs.map fun x : Int => Value.int k x
def cellsN (k : IntKind) (xs : List Nat) : List Value := xs.map fun x : Nat => Value.int k (x : Int)

theorem cellsI_get (k : IntKind) (zs : List Int) (j : Nat) (h : j < zs.length) : (cellsI k zs)[j]? = some (.int k (ith zs j)) := by
  simp [cellsI, ith, List.getD_eq_getElem?_getD, h]
theorem cellsN_get (k : IntKind) (zs : List Nat) (j : Nat) (h : j < zs.length) : (cellsN k zs)[j]? = some (.int k (nth zs j : Nat)) := by
  simp [cellsN, nth, List.getD_eq_getElem?_getD, h]
theorem cellsI_set (k : IntKind) (zs : List Int) (j : Nat) (x : Int) : (cellsI k zs).set j (.int k x) = cellsI k (zs.set j x) := by
  simp [cellsI, List.map_set]
theorem cellsN_set (k : IntKind) (zs : List Nat) (j : Nat) (x : Nat) : (cellsN k zs).set j (.int k (x : Int)) = cellsN k (zs.set j x) := by
  simp [cellsN, List.map_set]
theorem cellsI_length (k : IntKind) (zs : List Int) : (cellsI k zs).length = zs.length := by simp [cellsI]
theorem cellsN_length (k : IntKind) (zs : List Nat) : (cellsN k zs).length = zs.length := by simp [cellsN]
theorem cellsN_rep (k : IntKind) (n x : Nat) : List.replicate n (Value.int k (x : Int)) = cellsN k (List.replicate n x) := by simp [cellsN]
theorem cellsI_rep (k : IntKind) (n : Nat) (x : Int) : List.replicate n (Value.int k x) = cellsI k (List.replicate n x) := by simp [cellsI]

theorem ith_set (cs : List Int) (k m : Nat) (x : Int) (h : k < cs.length) : ith (cs.set k x) m = if m = k then x else ith cs m := by
  unfold ith
  rw [List.getD_eq_getElem?_getD, List.getD_eq_getElem?_getD, List.getElem?_set]
  by_cases e : k = m
  · subst e; simp [h]
  · rw [if_neg e, if_neg (Ne.symm e)]
theorem nth_set (ws : List Nat) (k m x : Nat) (h : k < ws.length) : nth (ws.set k x) m = if m = k then x else nth ws m := by
  unfold nth
  rw [List.getD_eq_getElem?_getD, List.getD_eq_getElem?_getD, List.getElem?_set]
  by_cases e : k = m
  · subst e; simp [h]
  · rw [if_neg e, if_neg (Ne.symm e)]
theorem nth_lt {ws : List Nat} {b : Nat} (hb : 0 < b) (h : ∀ x ∈ ws, x < b) (j : Nat) : nth ws j < b := by
  unfold nth
  by_cases hj : j < ws.length
  · rw [List.getD_eq_getElem?_getD, List.getElem?_eq_getElem hj]; exact h _ (List.getElem_mem hj)
  · rw [List.getD_eq_getElem?_getD, List.getElem?_eq_none (by omega)]; simpa using hb

theorem cell_mod {S : Nat → Prop} {w w' : World} (h : Mod S w w') {R j : Nat} (hs : ¬ S R) {v : Value} (hc : w.cell? ⟨R, j, none⟩ = some v) : w'.cell? ⟨R, j, none⟩ = some v := by
  have hR : R < w.heap.size := by
    rcases Nat.lt_or_ge R w.heap.size with h1 | h1
    · exact h1
    · unfold World.cell? at hc
      rw [Array.getElem?_eq_none (by exact h1)] at hc; cases hc
  unfold World.cell? at *
  rw [h.block R hR hs]; exact hc
theorem cell_lt {w : World} {R j : Nat} {v : Value} (hc : w.cell? ⟨R, j, none⟩ = some v) : R < w.heap.size := by
  rcases Nat.lt_or_ge R w.heap.size with h1 | h1
  · exact h1
  · unfold World.cell? at hc
    rw [Array.getElem?_eq_none (by exact h1)] at hc; cases hc
theorem Blk.at {w : World} {b : Nat} {cs : List Value} (h : Blk w b cs) (i : Nat) {v : Value} (hv : cs[i]? = some v) : w.cell? ⟨b, i, none⟩ = some v := by rw [h.cell]; exact hv

/-- What was new stays new, whatever is done to new blocks. -/
theorem Mod.new {S : Nat → Prop} {w w1 w2 : World} (h1 : Mod (fun _ => False) w w1) (h2 : Mod S w1 w2) (hS : ∀ k, S k → w.heap.size ≤ k) : Mod (fun _ => False) w w2 :=
  ⟨h2.os.trans h1.os, h2.tape.trans h1.tape, h2.output.trans h1.output, Nat.le_trans h1.size h2.size, fun k hk _ => (h2.block k (Nat.lt_of_lt_of_le hk h1.size) (fun s => by have := hS k s; omega)).trans (h1.block k hk (fun f => f))⟩
/-- One change and then another, or new blocks. -/
theorem Mod.then {S T : Nat → Prop} {w w1 w2 : World} (h1 : Mod S w w1) (h2 : Mod T w1 w2) (hT : ∀ k, k < w.heap.size → T k → S k) : Mod S w w2 :=
  ⟨h2.os.trans h1.os, h2.tape.trans h1.tape, h2.output.trans h1.output, Nat.le_trans h1.size h2.size, fun k hk hs => (h2.block k (Nat.lt_of_lt_of_le hk h1.size) (fun t => hs (hT k hk t))).trans (h1.block k hk hs)⟩
theorem Mod.none {w w' : World} {S : Nat → Prop} (h : Mod (fun _ => False) w w') : Mod S w w' := h.mono (fun _ _ f => f.elim)
theorem mod_drewN (S : Nat → Prop) (w : World) (n : Nat) : Mod S w (w.drewN n) := ⟨rfl, rfl, rfl, Nat.le_refl _, fun _ _ _ => rfl⟩
theorem blk_drewN {w : World} {b : Nat} {cs : List Value} (h : Blk w b cs) (n : Nat) : Blk (w.drewN n) b cs := h

theorem and_u32_nat (a b : Nat) (ha : a < 4294967296) (hb : b < 4294967296) : bits .and .u32 (a : Int) (b : Int) = ((a &&& b : Nat) : Int) :=
  (bits_nat .u32 32 (by decide) (fun n h0 h1 => by rw [IntKind.wrap_u32]; omega) a b (by simpa using ha) (by simpa using hb)).1
theorem or_u32_nat (a b : Nat) (ha : a < 4294967296) (hb : b < 4294967296) : bits .or .u32 (a : Int) (b : Int) = ((a ||| b : Nat) : Int) :=
  (bits_nat .u32 32 (by decide) (fun n h0 h1 => by rw [IntKind.wrap_u32]; omega) a b (by simpa using ha) (by simpa using hb)).2

theorem pow_lt32 (i : Nat) (hi : i < 32) : (2 ^ i : Nat) < 4294967296 :=
  Nat.lt_of_lt_of_le (Nat.pow_lt_pow_right (by decide) hi) (by decide)

theorem and_two_pow (x i : Nat) : x &&& 2 ^ i = if x.testBit i then 2 ^ i else 0 := by
  apply Nat.eq_of_testBit_eq
  intro j
  rw [Nat.testBit_and, Nat.testBit_two_pow]
  by_cases e : i = j
  · subst e; cases h : x.testBit i <;> simp
  · cases h : x.testBit i <;> simp [e]

theorem pow_cast (i : Nat) : ((2 : Int) ^ i) = ((2 ^ i : Nat) : Int) := by simp

theorem and_bit (x i : Nat) (hx : x < 4294967296) (hi : i < 32) : (bits .and .u32 (x : Int) (2 ^ i % 4294967296) != 0) = x.testBit i := by
  have hp := pow_lt32 i hi
  have e : ((2 : Int) ^ i % 4294967296) = ((2 ^ i : Nat) : Int) := by
    rw [pow_cast]; generalize 2 ^ i = q at *; omega
  rw [e, and_u32_nat _ _ hx hp, and_two_pow]
  have : (2 ^ i : Nat) ≠ 0 := Nat.ne_of_gt (Nat.two_pow_pos i)
  generalize 2 ^ i = q at *
  cases h : x.testBit i
  · rfl
  · simp only [if_true, bne_iff_ne]; omega

/-- A new row of n times one value. -/
def zrow (E : TypeId) (z : Value) (n : Nat) : Obj := .cells (List.replicate n z).toArray E (0, 0)

theorem Blk.made (w : World) (E : TypeId) (z : Value) (n : Nat) : Blk (w.alloc (zrow E z n)) w.heap.size (List.replicate n z) := Blk.new w _ E

/-- 'make' of one-celled elements. -/
theorem make_run {P : Program} {T E : TypeId} {z : Value} {bytes : Nat} (ht : P.underlying T = some (.slice E)) (hi : (P.info? E).map (fun i => (i.zero, i.size, i.bytes)) = some (some z, 1, bytes)) (hz : z.cells = #[z])
    (l c : Int) (n m : Nat) (hl : l = n) (hc : c = m) (hnm : n ≤ m) (hb : bytes * m ≤ 281474976710656) (hm : m ≤ 281474976710656) (w : World) :
    (Instr.makeSlice T (.int .i64 l) (.int .i64 c)).run P w = .ok (.slice (some ⟨w.heap.size, 0, none⟩) n m) (w.alloc (zrow E z m)) := by
  obtain ⟨i, h1, h2, h3, h4⟩ := info_parts hi
  subst hl; subst hc
  have hb' : (bytes : Int) * (m : Int) ≤ 281474976710656 := by
    have h : ((bytes * m : Nat) : Int) ≤ 281474976710656 := by omega
    rwa [Int.natCast_mul] at h
  have := run_make (P := P) w T E i z ht h1 h2 .i64 .i64 n m (by omega) (by omega) (by rw [h4]; exact hb') (by omega)
  rw [this, h3, hz]
  simp only [Int.toNat_natCast, Nat.mul_one]
  unfold zrow
  congr 3
  rw [← toList_madeCells_one]

end QZ
end Go
