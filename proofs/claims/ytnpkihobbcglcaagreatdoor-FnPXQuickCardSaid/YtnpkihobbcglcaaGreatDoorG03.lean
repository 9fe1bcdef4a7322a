/- Part 3 of the proof of FnPXQuick (a QR code that is written for a text says this text in a picture): parts of the road. No condition. -/
import Derived.Test.YtnpkihobbcglcaaGreatDoorG02
/- Tables that are built of literal rows: laws for many rows at once. -/
open Go Go.RowKit
namespace Go.QZ
variable {P : Program}

/-- The parts of a literal, from place k on. -/
def vparts : Nat → List Value → List (Nat × Value)
  | _, [] => []
  | k, v :: vs => (k, v) :: vparts (k + 1) vs
def oparts : Nat → List Value → List (Nat × Operand)
  | _, [] => []
  | k, v :: vs => (k, .const v) :: oparts (k + 1) vs

theorem fill_one : ∀ (vs pre post : List Value), (∀ v ∈ vs, v.cells = #[v]) → post.length = vs.length →
    Instr.fill (fun i => some (i * 1, 1)) (pre ++ post).toArray (vparts pre.length vs) = some (pre ++ vs).toArray
  | [], pre, post, _, hl => by
    obtain rfl : post = [] := List.eq_nil_of_length_eq_zero (by simpa using hl)
    simp [vparts, Instr.fill]
  | v :: vs, pre, [], _, hl => by simp at hl
  | v :: vs, pre, p :: post, h, hl => by
    have hv : v.cells = #[v] := h v (by simp)
    have ih := fill_one vs (pre ++ [v]) post (fun x hx => h x (by simp [hx])) (by simpa using hl)
    simp only [vparts, Instr.fill, hv]
    have e : (((#[v] : Array Value).zipIdx).foldl (fun cs (x : Value × Nat) => cs.setIfInBounds (pre.length * 1 + x.2) x.1) (pre ++ p :: post).toArray) = (pre ++ [v] ++ post).toArray := by
      simp
    rw [List.length_append, List.length_singleton] at ih
    rw [if_neg (by simp)]
    rw [show (pre ++ v :: vs) = (pre ++ [v]) ++ vs by simp, ← ih]
    exact congrArg (fun c => Instr.fill (fun i => some (i * 1, 1)) c (vparts (pre.length + 1) vs)) e

theorem run_rowSlice (w : World) {T E : TypeId} {z : Value} {bytes : Nat} (ht : P.underlying T = some (.slice E)) (hi : (P.info? E).map (fun i => (i.zero, i.size, i.bytes)) = some (some z, 1, bytes)) (hz : z.cells = #[z])
    (vs : List Value) (h1 : ∀ v ∈ vs, v.cells = #[v]) (hn : vs.length ≤ 100000) :
    (Instr.buildSlice T vs.length (vparts 0 vs).toArray).run P w = .ok (.slice (some ⟨w.heap.size, 0, none⟩) vs.length vs.length) (w.alloc (.cells vs.toArray E (0, 0))) := by
  obtain ⟨i, e1, e2, e3, e4⟩ := info_parts hi
  have hfill := fill_one vs [] (List.replicate vs.length z) h1 (by simp)
  have n1 : ¬ (16777216 < vs.length) := by omega
  have hz2 : ((Array.range (vs.length * 1)).map fun x => z.cells[x % z.cells.size]!) = (List.replicate vs.length z).toArray := by
    rw [← toList_madeCells_one, Array.toArray_toList, Nat.mul_one, hz]; rfl
  by_cases h0 : vs.length = 0
  · obtain rfl := List.eq_nil_of_length_eq_zero h0
    simp [Instr.buildSlice, run_underlying ht, typeInfo, e1, sizeOf, vparts, Instr.fill, newRow, Array.range_zero']
  · have h00 : ¬ (vs = []) := fun h => h0 (by rw [h]; rfl)
    simp only [List.length_nil, List.nil_append] at hfill
    simp [Instr.buildSlice, run_underlying ht, typeInfo, e1, sizeOf, e3, zeroValue, e2, n1, h0, newRow]
    simp only [Nat.mul_one] at hz2
    rw [hz2]
    simp only [Nat.mul_one] at hfill
    rw [hfill]
    simp

/-- New blocks behind those of a world: rows one behind the other. -/
structure RowsAt (w0 w : World) (done : List (List Value)) : Prop where
  size : w.heap.size = w0.heap.size + done.length
  mod : Mod (fun _ => False) w0 w
  rows : ∀ i, i < done.length → Blk w (w0.heap.size + i) (done.getD i [])

theorem RowsAt.start (w : World) : RowsAt w w [] := ⟨rfl, Mod.refl _ _, fun i h => by simp at h⟩
theorem RowsAt.more {w0 w : World} {done : List (List Value)} (h : RowsAt w0 w done) (vs : List Value) (E : TypeId) : RowsAt w0 (w.alloc (.cells vs.toArray E (0, 0))) (done ++ [vs]) := by
  refine ⟨by rw [World.size_alloc, h.size]; simp; omega, h.mod.alloc _, fun i hi => ?_⟩
  by_cases e : i = done.length
  · subst e
    have := Blk.new w vs E
    rw [h.size] at this
    simpa using this
  · have hi' : i < done.length := by simp at hi; omega
    have := (h.rows i hi').alloc (.cells vs.toArray E (0, 0))
    rwa [show (done ++ [vs]).getD i [] = done.getD i [] by rw [List.getD_eq_getElem?_getD, List.getD_eq_getElem?_getD, List.getElem?_append_left hi']]

/-- What is known of the element type of a table's rows. -/
structure RowType (P : Program) (T E : TypeId) : Prop where
  under : P.underlying T = some (.slice E)
  info : ∃ z bytes, (P.info? E).map (fun i => (i.zero, i.size, i.bytes)) = some (some z, 1, bytes) ∧ z.cells = #[z]

/-- The frame behind the rows. -/
def putRows (a : Act) (d : Nat) (b : Nat) : List (List Value) → Act
  | [] => a
  | vs :: r => putRows (a.put (some d) (.slice (some ⟨b, 0, none⟩) vs.length vs.length)) (d + 1) (b + 1) r

/-- The operations that build the rows. -/
def rowOps (T : TypeId) : Nat → List (List Value) → List (Option (Nat × Bool) × Option Tmp × Op)
  | _, [] => []
  | d, vs :: r => (none, some d, .buildSlice T vs.length (oparts 0 vs).toArray) :: rowOps T (d + 1) r

theorem eval_oparts (a : Act) : ∀ (k : Nat) (vs : List Value), (oparts k vs).map (fun x => (x.1, a.eval x.2)) = vparts k vs
  | _, [] => rfl
  | k, v :: vs => by simp only [oparts, vparts, List.map_cons, eval_oparts a (k + 1) vs]; rfl

theorem wpList_rows {ops : Array Oper} {Q : Exit → Act → World → Prop} {rest : List Oper} {T E : TypeId} (ht : RowType P T E) (w0 : World) :
    ∀ (rows : List (List Value)) (seg : List Oper) (d : Nat) (a : Act) (w : World) (done : List (List Value)),
      seg.map (fun o => (o.guard, o.dst, o.op)) = rowOps T d rows →
      (∀ vs ∈ rows, vs.length ≤ 100000 ∧ ∀ v ∈ vs, v.cells = #[v]) →
      RowsAt w0 w done →
      (∀ w', RowsAt w0 w' (done ++ rows) → wpList P ops Q rest (putRows a d (w0.heap.size + done.length) rows) w') →
      wpList P ops Q (seg ++ rest) a w
  | [], seg, d, a, w, done, hseg, _, hR, hK => by
    obtain rfl : seg = [] := by cases seg with | nil => rfl | cons o l => simp [rowOps] at hseg
    have := hK w (by simpa using hR)
    simpa [putRows] using this
  | vs :: rows, seg, d, a, w, done, hseg, hv, hR, hK => by
    cases seg with
    | nil => simp [rowOps] at hseg
    | cons o l =>
      simp only [List.map_cons, rowOps, List.cons.injEq, Prod.mk.injEq] at hseg
      obtain ⟨⟨hg, hd, hop⟩, hl⟩ := hseg
      obtain ⟨hlen, hone⟩ := hv vs (by simp)
      obtain ⟨z, bytes, hi, hz⟩ := ht.info
      have hrun := run_rowSlice w ht.under hi hz vs hone hlen
      rw [List.cons_append]
      refine wpList_plain hg fun K hK' => ?_
      unfold Oper.wp
      have hparts : ((oparts 0 vs).toArray.map fun x => (x.1, a.eval x.2)) = (vparts 0 vs).toArray := by
        rw [List.map_toArray, eval_oparts]
      have hexec : (execOp a.eval o).run P w = .ok (.value (.slice (some ⟨w.heap.size, 0, none⟩) vs.length vs.length)) (w.alloc (.cells vs.toArray E (0, 0))) := by
        simp only [execOp, hop]
        rw [hparts]
        simp [hrun, Result.andThen]
      rw [hexec, Oper.upon_value]
      refine hK' _ _ ?_
      have ih := wpList_rows (ops := ops) (Q := Q) (rest := rest) ht w0 rows l (d + 1) (a.put o.dst (.slice (some ⟨w.heap.size, 0, none⟩) vs.length vs.length)) _ (done ++ [vs]) hl (fun x hx => hv x (by simp [hx])) (hR.more vs E)
      refine ih fun w' hw' => ?_
      have := hK w' (by simpa using hw')
      unfold putRows at this
      rw [hd, hR.size]
      rw [List.length_append]
      exact this
end Go.QZ
/- A table of literal rows: the rows, then the slice of their slices. -/
open Go Go.RowKit
namespace Go.QZ
variable {P : Program}

theorem putRows_size (rows : List (List Value)) : ∀ (a : Act) (d b : Nat), (putRows a d b rows).tmps.size = a.tmps.size := by
  induction rows with
  | nil => intro a d b; rfl
  | cons r l ih => intro a d b; unfold putRows; rw [ih]; simp [Act.put]
theorem putRows_defers (rows : List (List Value)) : ∀ (a : Act) (d b : Nat), (putRows a d b rows).defers = a.defers := by
  induction rows with
  | nil => intro a d b; rfl
  | cons r l ih => intro a d b; unfold putRows; rw [ih]; rfl
theorem put_getD (a : Act) (d : Nat) (v : Value) (j : Nat) : (a.put (some d) v).tmps.getD j undef = if j = d ∧ d < a.tmps.size then v else a.tmps.getD j undef := by
  unfold Act.put
  simp only [Array.getD_eq_getD_getElem?, Array.getElem?_setIfInBounds]
  by_cases h : d = j
  · subst h
    by_cases h2 : d < a.tmps.size
    · simp [h2]
    · simp [h2]
  · rw [if_neg h, if_neg (fun e => h e.1.symm)]
theorem putRows_low (rows : List (List Value)) : ∀ (a : Act) (d b j : Nat), j < d → (putRows a d b rows).tmps.getD j undef = a.tmps.getD j undef := by
  induction rows with
  | nil => intro a d b j _; rfl
  | cons r l ih => intro a d b j h; unfold putRows; rw [ih _ _ _ _ (by omega), put_getD, if_neg (by omega)]
theorem putRows_at (rows : List (List Value)) : ∀ (a : Act) (d b i : Nat), i < rows.length → d + rows.length ≤ a.tmps.size →
    (putRows a d b rows).tmps.getD (d + i) undef = .slice (some ⟨b + i, 0, none⟩) (rows.getD i []).length (rows.getD i []).length := by
  induction rows with
  | nil => intro a d b i h _; simp at h
  | cons r l ih =>
    intro a d b i h hs
    unfold putRows
    simp only [List.length_cons] at h hs
    cases i with
    | zero => rw [putRows_low _ _ _ _ _ (by omega), put_getD, if_pos (by omega)]; simp
    | succ i =>
      rw [show d + (i + 1) = d + 1 + i by omega, ih _ _ _ _ (by omega) (by simp [Act.put]; omega), show b + 1 + i = b + (i + 1) by omega]
      simp

/-- The slices of rows that lie one behind the other. -/
def rowRefs : Nat → List (List Value) → List Value
  | _, [] => []
  | b, vs :: r => .slice (some ⟨b, 0, none⟩) vs.length vs.length :: rowRefs (b + 1) r
def touts : Nat → Nat → Nat → List (Nat × Operand)
  | _, _, 0 => []
  | k, d, n + 1 => (k, .tmp d) :: touts (k + 1) (d + 1) n
theorem rowRefs_length (rows : List (List Value)) : ∀ b, (rowRefs b rows).length = rows.length := by
  induction rows with
  | nil => intro b; rfl
  | cons r l ih => intro b; simp [rowRefs, ih]
theorem rowRefs_get (rows : List (List Value)) : ∀ b i, i < rows.length → (rowRefs b rows)[i]? = some (.slice (some ⟨b + i, 0, none⟩) (rows.getD i []).length (rows.getD i []).length) := by
  induction rows with
  | nil => intro b i h; simp at h
  | cons r l ih =>
    intro b i h
    cases i with
    | zero => simp [rowRefs]
    | succ i => simp only [List.length_cons] at h; simp only [rowRefs, List.getElem?_cons_succ]; rw [ih _ _ (by omega), show b + 1 + i = b + (i + 1) by omega]; simp
theorem rowRefs_one (rows : List (List Value)) : ∀ b, ∀ v ∈ rowRefs b rows, v.cells = #[v] := by
  induction rows with
  | nil => intro b v h; simp [rowRefs] at h
  | cons r l ih =>
    intro b v h
    simp only [rowRefs, List.mem_cons] at h
    rcases h with rfl | h
    · rfl
    · exact ih _ v h
theorem eval_touts (a : Act) (rows : List (List Value)) : ∀ (k d b : Nat), (∀ i, i < rows.length → a.tmps.getD (d + i) undef = .slice (some ⟨b + i, 0, none⟩) (rows.getD i []).length (rows.getD i []).length) →
    (touts k d rows.length).map (fun x => (x.1, a.eval x.2)) = vparts k (rowRefs b rows) := by
  induction rows with
  | nil => intro k d b _; rfl
  | cons r l ih =>
    intro k d b h
    simp only [List.length_cons, touts, List.map_cons, rowRefs, vparts]
    have h0 := h 0 (by simp)
    simp only [Nat.add_zero] at h0
    rw [ih (k + 1) (d + 1) (b + 1) (fun i hi => by
      have := h (i + 1) (by simp; omega)
      rw [show d + 1 + i = d + (i + 1) by omega, show b + 1 + i = b + (i + 1) by omega, this]; simp)]
    have e : a.eval (.tmp d) = .slice (some ⟨b, 0, none⟩) r.length r.length := by
      show a.tmps.getD d undef = _
      rw [h0]; simp
    rw [e]

/-- A table at block T: its rows behind a world's blocks, then the slice of them. -/
structure Table (w0 w : World) (rows : List (List Value)) : Prop where
  mod : Mod (fun _ => False) w0 w
  each : ∀ i, i < rows.length → Blk w (w0.heap.size + i) (rows.getD i [])
  all : Blk w (w0.heap.size + rows.length) (rowRefs w0.heap.size rows)
  size : w.heap.size = w0.heap.size + rows.length + 1

theorem Table.ref {w0 w : World} {rows : List (List Value)} (h : Table w0 w rows) (i : Nat) (hi : i < rows.length) :
    w.cell? ⟨w0.heap.size + rows.length, i, none⟩ = some (.slice (some ⟨w0.heap.size + i, 0, none⟩) (rows.getD i []).length (rows.getD i []).length) := by
  rw [h.all.cell, rowRefs_get _ _ _ hi]
theorem Table.cell {w0 w : World} {rows : List (List Value)} (h : Table w0 w rows) (i : Nat) (hi : i < rows.length) (j : Nat) :
    w.cell? ⟨w0.heap.size + i, j, none⟩ = (rows.getD i [])[j]? := by rw [(h.each i hi).cell]

theorem wpList_outer {ops : Array Oper} {Q : Exit → Act → World → Prop} {T E : TypeId} (ht : RowType P T E) (o : Oper) (rest : List Oper) (t n : Nat) (parts : List (Nat × Operand)) (a : Act) (w : World) (vs : List Value)
    (ho : (o.guard, o.dst, o.op) = (none, some t, .buildSlice T n parts.toArray)) (hv : parts.map (fun x => (x.1, a.eval x.2)) = vparts 0 vs) (hn : vs.length = n) (h1 : ∀ v ∈ vs, v.cells = #[v]) (hl : n ≤ 100000)
    (hK : wpList P ops Q rest (a.put (some t) (.slice (some ⟨w.heap.size, 0, none⟩) n n)) (w.alloc (.cells vs.toArray E (0, 0)))) : wpList P ops Q (o :: rest) a w := by
  simp only [Prod.mk.injEq] at ho
  obtain ⟨hg, hd, hop⟩ := ho
  subst hn
  obtain ⟨z, bytes, hi, hz⟩ := ht.info
  have hrun := run_rowSlice w ht.under hi hz vs h1 hl
  refine wpList_plain hg fun K hK' => ?_
  unfold Oper.wp
  have hparts : (parts.toArray.map fun x => (x.1, a.eval x.2)) = (vparts 0 vs).toArray := by
    rw [List.map_toArray, hv]
  have hexec : (execOp a.eval o).run P w = .ok (.value (.slice (some ⟨w.heap.size, 0, none⟩) vs.length vs.length)) (w.alloc (.cells vs.toArray E (0, 0))) := by
    simp only [execOp, hop]
    rw [hparts]
    simp [hrun, Result.andThen]
  rw [hexec, Oper.upon_value]
  refine hK' _ _ ?_
  rw [hd]; exact hK

theorem wpList_assign {ops : Array Oper} {Q : Exit → Act → World → Prop} (o : Oper) (rest : List Oper) (t r : Nat) (a : Act) (w : World)
    (ho : (o.guard, o.dst, o.op) = (none, some r, .assign (.tmp t))) (hK : wpList P ops Q rest (a.put (some r) (a.tmps.getD t undef)) w) : wpList P ops Q (o :: rest) a w := by
  simp only [Prod.mk.injEq] at ho
  obtain ⟨hg, hd, hop⟩ := ho
  refine wpList_plain hg fun K hK' => ?_
  unfold Oper.wp
  have hexec : (execOp a.eval o).run P w = .ok (.value (a.tmps.getD t undef)) w := by
    simp [execOp, hop, Act.eval]
  rw [hexec, Oper.upon_value]
  refine hK' _ _ ?_
  rw [hd]; exact hK

theorem two_of_length {α : Type} {l : List α} (h : l.length = 2) : ∃ a b, l = [a, b] := by
  cases l with
  | nil => simp at h
  | cons a l => cases l with
    | nil => simp at h
    | cons b l => cases l with
      | nil => exact ⟨a, b, rfl⟩
      | cons c l => simp at h

theorem wpList_table {ops : Array Oper} {Q : Exit → Act → World → Prop} {T E T2 E2 : TypeId} (ht : RowType P T E) (ht2 : RowType P T2 E2) (rows : List (List Value)) (d t r : Nat) (l : List Oper) (a : Act) (w : World)
    (hl : l.map (fun o => (o.guard, o.dst, o.op)) = rowOps T d rows ++ [(none, some t, .buildSlice T2 rows.length (touts 0 d rows.length).toArray), (none, some r, .assign (.tmp t))])
    (hv : ∀ vs ∈ rows, vs.length ≤ 100000 ∧ ∀ v ∈ vs, v.cells = #[v]) (hsz : d + rows.length ≤ a.tmps.size) (hts : t < a.tmps.size) (hrs : r < a.tmps.size) (hn : rows.length ≤ 100000)
    (hK : ∀ a' w', a'.defers = a.defers → a'.tmps.getD r undef = .slice (some ⟨w.heap.size + rows.length, 0, none⟩) rows.length rows.length → Table w w' rows → Q .normal a' w') :
    wpList P ops Q l a w := by
  have hlen : l.length = rows.length + 2 := by
    have := congrArg List.length hl
    rw [List.length_map, List.length_append] at this
    have h2 : ∀ (rows : List (List Value)) d, (rowOps T d rows).length = rows.length := by
      intro rows; induction rows with
      | nil => intro d; rfl
      | cons r l ih => intro d; simp [rowOps, ih]
    rw [h2] at this
    simpa using this
  have hsplit : l = l.take rows.length ++ l.drop rows.length := (List.take_append_drop _ _).symm
  have ht1 : (l.take rows.length).map (fun o => (o.guard, o.dst, o.op)) = rowOps T d rows := by
    have := congrArg (List.take rows.length) hl
    rw [← List.map_take] at this
    rw [this]
    have h2 : ∀ (rows : List (List Value)) d, (rowOps T d rows).length = rows.length := by
      intro rows; induction rows with
      | nil => intro d; rfl
      | cons r l ih => intro d; simp [rowOps, ih]
    rw [List.take_left' (h2 rows d)]
  have hd1 : (l.drop rows.length).map (fun o => (o.guard, o.dst, o.op)) = [(none, some t, .buildSlice T2 rows.length (touts 0 d rows.length).toArray), (none, some r, .assign (.tmp t))] := by
    have := congrArg (List.drop rows.length) hl
    rw [← List.map_drop] at this
    rw [this]
    have h2 : ∀ (rows : List (List Value)) d, (rowOps T d rows).length = rows.length := by
      intro rows; induction rows with
      | nil => intro d; rfl
      | cons r l ih => intro d; simp [rowOps, ih]
    rw [List.drop_left' (h2 rows d)]
  rw [hsplit]
  refine wpList_rows ht w rows _ d a w [] ht1 hv (RowsAt.start w) fun w' hw' => ?_
  rw [List.nil_append] at hw'
  simp only [List.length_nil, Nat.add_zero]
  generalize l.drop rows.length = tail at hd1
  obtain ⟨o1, o2, rfl⟩ : ∃ o1 o2, tail = [o1, o2] := by
    have := congrArg List.length hd1
    rw [List.length_map] at this
    exact two_of_length this
  · simp only [List.map_cons, List.map_nil, List.cons.injEq, and_true] at hd1
    refine wpList_outer ht2 o1 [o2] t rows.length _ _ w' (rowRefs w.heap.size rows) hd1.1 ?_ (rowRefs_length _ _) (rowRefs_one _ _) hn ?_
    · exact eval_touts _ rows 0 d w.heap.size (fun i hi => putRows_at rows a d _ i hi hsz)
    · refine wpList_assign o2 [] t r _ _ hd1.2 ?_
      refine hK _ _ (by simp only [Act.put]; exact putRows_defers rows a d _) ?_ ?_
      · rw [put_getD, if_pos ⟨rfl, by simp [Act.put, putRows_size]; exact hrs⟩, put_getD, if_pos ⟨rfl, by rw [putRows_size]; exact hts⟩, hw'.size]
      · refine ⟨hw'.mod.alloc _, fun i hi => (hw'.rows i hi).alloc _, ?_, by rw [World.size_alloc, hw'.size]⟩
        have := Blk.new w' (rowRefs w.heap.size rows) E2
        rwa [hw'.size] at this
end Go.QZ
open Go Go.RowKit
namespace Go.Proofs.YtnpkihobbcglcaaGreatDoor
open Go.QZ

theorem rt124 : RowType Tryz.prog 124 57 := ⟨Tryz.underlying124, .int .i8 0, 1, by kernel_rfl, rfl⟩
theorem rt121 : RowType Tryz.prog 121 124 := ⟨Tryz.underlying121, .slice none 0 0, 24, by kernel_rfl, rfl⟩
theorem rt117 : RowType Tryz.prog 117 3 := ⟨Tryz.underlying117, .int .i64 0, 8, by kernel_rfl, rfl⟩
theorem rt220 : RowType Tryz.prog 220 117 := ⟨Tryz.underlying220, .slice none 0 0, 24, by kernel_rfl, rfl⟩

theorem rt364 : RowType Tryz.prog 364 165 := ⟨Tryz.underlying364, .int .u64 0, 8, by kernel_rfl, rfl⟩
theorem rt362 : RowType Tryz.prog 362 364 := ⟨Tryz.underlying362, .slice none 0 0, 24, by kernel_rfl, rfl⟩

theorem cellsI_ok (k : IntKind) (tab : List (List Int)) (h : tab.all (fun r => decide (r.length ≤ 100000)) = true) : ∀ vs ∈ tab.map (cellsI k), vs.length ≤ 100000 ∧ ∀ v ∈ vs, v.cells = #[v] := by
  intro vs hvs
  obtain ⟨r, hr, rfl⟩ := List.mem_map.1 hvs
  refine ⟨by rw [cellsI_length]; simpa using List.all_eq_true.1 h r hr, fun v hv => ?_⟩
  simp only [cellsI, List.mem_map] at hv
  obtain ⟨x, _, rfl⟩ := hv
  rfl



def pdpT : List (List Int) := [[1,1,1,1,1,1,1],[1,0,0,0,0,0,1],[1,0,1,1,1,0,1],[1,0,1,1,1,0,1],[1,0,1,1,1,0,1],[1,0,0,0,0,0,1],[1,1,1,1,1,1,1]]
theorem pdp_c (w : World) : Calls Tryz.prog 173 #[] w fun e w' => e = .returned (.slice (some ⟨w.heap.size + 7, 0, none⟩) 7 7) ∧ Table w w' (pdpT.map (cellsI .i8)) := by
  go_enter Tryz.func173, Tryz.ntmps173
  iterate 11 go_step
  refine wpList_table rt124 rt121 (pdpT.map (cellsI .i8)) 1 8 0 _ _ _ ?hops ?hok ?hsz ?hts ?hrs ?hlen ?_
  case hops => kernel_rfl
  case hsz => decide
  case hts => decide
  case hrs => decide
  case hlen => decide
  case hok => exact cellsI_ok _ _ (by decide)
  intro a' w' hd hr ht
  iterate 3 go_step
  refine bodyPost_ret (results_tmp rfl _ _ _) hd ?_
  exact ⟨congrArg _ hr, ht⟩

def papT : List (List Int) := [[1,1,1,1,1],[1,0,0,0,1],[1,0,1,0,1],[1,0,0,0,1],[1,1,1,1,1]]
theorem pap_c (w : World) : Calls Tryz.prog 211 #[] w fun e w' => e = .returned (.slice (some ⟨w.heap.size + 5, 0, none⟩) 5 5) ∧ Table w w' (papT.map (cellsI .i8)) := by
  go_enter Tryz.func211, Tryz.ntmps211
  iterate 11 go_step
  refine wpList_table rt124 rt121 (papT.map (cellsI .i8)) 1 6 0 _ _ _ ?hops ?hok ?hsz ?hts ?hrs ?hlen ?_
  case hops => kernel_rfl
  case hsz => decide
  case hts => decide
  case hrs => decide
  case hlen => decide
  case hok => exact cellsI_ok _ _ (by decide)
  intro a' w' hd hr ht
  iterate 3 go_step
  refine bodyPost_ret (results_tmp rfl _ _ _) hd ?_
  exact ⟨congrArg _ hr, ht⟩

def coordT : List (List Int) := [[-1,-1,-1,-1,-1,-1,-1],[6,18,-1,-1,-1,-1,-1],[6,22,-1,-1,-1,-1,-1],[6,26,-1,-1,-1,-1,-1],[6,30,-1,-1,-1,-1,-1],[6,34,-1,-1,-1,-1,-1],[6,22,38,-1,-1,-1,-1],[6,24,42,-1,-1,-1,-1],[6,26,46,-1,-1,-1,-1],[6,28,50,-1,-1,-1,-1],[6,30,54,-1,-1,-1,-1],[6,32,58,-1,-1,-1,-1],[6,34,62,-1,-1,-1,-1],[6,26,46,66,-1,-1,-1],[6,26,48,70,-1,-1,-1],[6,26,50,74,-1,-1,-1],[6,30,54,78,-1,-1,-1],[6,30,56,82,-1,-1,-1],[6,30,58,86,-1,-1,-1],[6,34,62,90,-1,-1,-1],[6,28,50,72,94,-1,-1],[6,26,50,74,98,-1,-1],[6,30,54,78,102,-1,-1],[6,28,54,80,106,-1,-1],[6,32,58,84,110,-1,-1],[6,30,58,86,114,-1,-1],[6,34,62,90,118,-1,-1],[6,26,50,74,98,122,-1],[6,30,54,78,102,126,-1],[6,26,52,78,104,130,-1],[6,30,56,82,108,134,-1],[6,34,60,86,112,138,-1],[6,30,58,86,114,142,-1],[6,34,62,90,118,146,-1],[6,30,54,78,102,126,150],[6,24,50,76,102,128,154],[6,28,54,80,106,132,158],[6,32,58,84,110,136,162],[6,26,54,82,110,138,166],[6,30,58,86,114,142,170]]
theorem coord_c (w : World) : Calls Tryz.prog 178 #[] w fun e w' => e = .returned (.slice (some ⟨w.heap.size + 40, 0, none⟩) 40 40) ∧ Table w w' (coordT.map (cellsI .i64)) := by
  go_enter Tryz.func178, Tryz.ntmps178
  iterate 11 go_step
  refine wpList_table rt117 rt220 (coordT.map (cellsI .i64)) 1 41 0 _ _ _ ?hops ?hok ?hsz ?hts ?hrs ?hlen ?_
  case hops => kernel_rfl
  case hsz => decide
  case hts => decide
  case hrs => decide
  case hlen => decide
  case hok => exact cellsI_ok _ _ (by decide)
  intro a' w' hd hr ht
  iterate 3 go_step
  refine bodyPost_ret (results_tmp rfl _ _ _) hd ?_
  exact ⟨congrArg _ hr, ht⟩

def ticT : List (List Int) := [[8,0],[8,1],[8,2],[8,3],[8,4],[8,5],[8,7],[8,8],[7,8],[5,8],[4,8],[3,8],[2,8],[1,8],[0,8]]
theorem tic_c (w : World) : Calls Tryz.prog 140 #[] w fun e w' => e = .returned (.slice (some ⟨w.heap.size + 15, 0, none⟩) 15 15) ∧ Table w w' (ticT.map (cellsI .i64)) := by
  go_enter Tryz.func140, Tryz.ntmps140
  iterate 11 go_step
  refine wpList_table rt117 rt220 (ticT.map (cellsI .i64)) 1 16 0 _ _ _ ?hops ?hok ?hsz ?hts ?hrs ?hlen ?_
  case hops => kernel_rfl
  case hsz => decide
  case hts => decide
  case hrs => decide
  case hlen => decide
  case hok => exact cellsI_ok _ _ (by decide)
  intro a' w' hd hr ht
  iterate 3 go_step
  refine bodyPost_ret (results_tmp rfl _ _ _) hd ?_
  exact ⟨congrArg _ hr, ht⟩

def lookT : List (List Int) := [[21522,0],[20773,1],[24188,2],[23371,3],[17913,4],[16590,5],[20375,6],[19104,7],[30660,8],[29427,9],[32170,10],[30877,11],[26159,12],[25368,13],[27713,14],[26998,15],[5769,16],[5054,17],[7399,18],[6608,19],[1890,20],[597,21],[3340,22],[2107,23],[13663,24],[12392,25],[16177,26],[14854,27],[9396,28],[8579,29],[11994,30],[11245,31]]
theorem look_c (w : World) : Calls Tryz.prog 255 #[] w fun e w' => e = .returned (.slice (some ⟨w.heap.size + 32, 0, none⟩) 32 32) ∧ Table w w' (lookT.map (cellsI .u64)) := by
  go_enter Tryz.func255, Tryz.ntmps255
  iterate 11 go_step
  refine wpList_table rt364 rt362 (lookT.map (cellsI .u64)) 1 33 0 _ _ _ ?hops ?hok ?hsz ?hts ?hrs ?hlen ?_
  case hops => kernel_rfl
  case hsz => decide
  case hts => decide
  case hrs => decide
  case hlen => decide
  case hok => exact cellsI_ok _ _ (by decide)
  intro a' w' hd hr ht
  iterate 3 go_step
  refine bodyPost_ret (results_tmp rfl _ _ _) hd ?_
  exact ⟨congrArg _ hr, ht⟩
end Go.Proofs.YtnpkihobbcglcaaGreatDoor
