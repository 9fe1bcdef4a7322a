/- Part 34 of the proof of FnPXQuick (a QR code that is written for a text says this text in a picture): parts of the road. No condition. -/
import Derived.Test.YtnpkihobbcglcaaGreatDoorG10
import Derived.Test.YtnpkihobbcglcaaGreatDoorG15
import Derived.Test.YtnpkihobbcglcaaGreatDoorG18
import Derived.Test.YtnpkihobbcglcaaGreatDoorG19
import Derived.Test.YtnpkihobbcglcaaGreatDoorG22
import Derived.Test.YtnpkihobbcglcaaGreatDoorG27
import Derived.Test.YtnpkihobbcglcaaGreatDoorG32
/- The words of the blocks, taken out of the turns: numbers and lists alone. -/
open Go Go.RowKit
namespace Go.Proofs.YtnpkihobbcglcaaGreatDoor
open Go.QZ

theorem get_nth (xs : List Nat) (k : Nat) (h : k < xs.length) : xs[k] = nth xs k := by simp [nth, List.getD_eq_getElem?_getD, h]
theorem rho_lt {n s ls j k e : Nat} (hj : j < n) (hl : ls ≤ n) (hk : k < (if ls ≤ j then s + 1 else s) + e) : rho n s ls j k < n * (s + e) + (n - ls) := by
  have hm : n * (s + e) = s * n + e * n := by rw [Nat.mul_add, Nat.mul_comm n s, Nat.mul_comm n e]
  rw [hm]
  unfold rho
  by_cases a : k < s
  · rw [if_pos a]; have := row_lt (H := s) a hj; omega
  · rw [if_neg a]
    by_cases b : ls ≤ j
    · rw [if_pos b] at hk ⊢
      by_cases c : k = s
      · rw [if_pos c]; generalize s * n = q; generalize e * n = q2; omega
      · rw [if_neg c]
        have := row_lt (H := e) (y := k - s - 1) (by omega) hj
        omega
    · rw [if_neg b] at hk ⊢
      have := row_lt (H := e) (y := k - s) (by omega) hj
      omega

/-- When all words are placed, each block is whole. -/
theorem fill_all (bs : List Bool) (nb r d n : Nat) (es : List (List Nat)) (hr : r < nb) (hes : es.length = nb) (hel : ∀ e ∈ es, e.length = n) (j : Nat) (hj : j < nb) :
    fillJ (inter (dRows bs nb r d) (mxTo nb r d nb) ++ inter es n) nb d (nb - r) (nb * (d + n) + r) (dLen nb r d j + n) j = dRow bs nb r d j ++ es.getD j [] := by
  have happ := List.take_append_drop (nb - r) (dRows bs nb r d)
  have hlen := dRows_len bs nb r d
  have htl : ((dRows bs nb r d).take (nb - r)).length = nb - r := by rw [List.length_take, hlen]; omega
  have hdl : ((dRows bs nb r d).drop (nb - r)).length = r := by rw [List.length_drop, hlen]; omega
  have hej : (es.getD j []).length = n := by
    rw [List.getD_eq_getElem?_getD, List.getElem?_eq_getElem (by omega)]
    exact hel _ (List.getElem_mem _)
  apply List.ext_getElem (by rw [fillJ_len, List.length_append, dRow_len, hej])
  intro k h1 h2
  rw [fillJ_len] at h1
  have hrl : rho nb d (nb - r) j k < nb * (d + n) + r := by
    have := rho_lt (n := nb) (s := d) (ls := nb - r) (j := j) (k := k) (e := n) hj (by omega) (by
      unfold dLen at h1
      by_cases c : j < nb - r
      · rw [if_pos c] at h1; rw [if_neg (by omega)]; exact h1
      · rw [if_neg c] at h1; rw [if_pos (by omega)]; exact h1)
    omega
  have e1 : (fillJ (inter (dRows bs nb r d) (mxTo nb r d nb) ++ inter es n) nb d (nb - r) (nb * (d + n) + r) (dLen nb r d j + n) j)[k]'(by rw [fillJ_len]; exact h1) = nth (inter (dRows bs nb r d) (mxTo nb r d nb) ++ inter es n) (rho nb d (nb - r) j k) := by
    simp only [fillJ, List.getElem_map, List.getElem_range]
    rw [if_pos hrl]
  have e2 : (dRow bs nb r d j ++ es.getD j [])[k] = nth (dRow bs nb r d j ++ es.getD j []) k := get_nth _ _ h2
  rw [e1, e2]
  have ht := turns_at ((dRows bs nb r d).take (nb - r)) ((dRows bs nb r d).drop (nb - r)) es d n (dRows_short bs nb r d) (dRows_long bs nb r d) hel (by rw [hes, htl, hdl]; omega) (mxTo nb r d nb) (by rw [mxTo_all _ _ _ hr, hdl]) j k (by rw [hes]; exact hj) (by rw [happ, dRows_get _ _ _ _ _ hj, dRow_len]; exact h1)
  rw [happ, hes, htl, dRows_get _ _ _ _ _ hj] at ht
  exact ht

/-- The groups of blocks. -/
theorem grp_len {bl : List (Nat × Nat)} {nb r d : Nat} (h : bl = if r = 0 then [(nb, d)] else [(nb - r, d), (r, d + 1)]) (hr : r < nb) (t i : Nat) (ht : t < bl.length) (hi : i < (bl.getD t (0, 0)).1) : dLen nb r d (cntTo bl t + i) = (bl.getD t (0, 0)).2 := by
  subst h
  unfold dLen cntTo
  by_cases e : r = 0
  · rw [if_pos e] at ht hi ⊢
    simp only [List.length_cons, List.length_nil] at ht
    obtain rfl : t = 0 := by omega
    simp at hi ⊢
    omega
  · rw [if_neg e] at ht hi ⊢
    simp only [List.length_cons, List.length_nil] at ht
    obtain rfl | rfl : t = 0 ∨ t = 1 := by omega
    · simp at hi ⊢
      omega
    · simp at hi ⊢
theorem grp_cnt {bl : List (Nat × Nat)} {nb r d : Nat} (h : bl = if r = 0 then [(nb, d)] else [(nb - r, d), (r, d + 1)]) (hr : r < nb) : cntTo bl bl.length = nb := by
  subst h
  unfold cntTo
  by_cases e : r = 0
  · rw [if_pos e]; simp
  · rw [if_neg e]; simp; omega
theorem grp_few {bl : List (Nat × Nat)} {nb r d : Nat} (h : bl = if r = 0 then [(nb, d)] else [(nb - r, d), (r, d + 1)]) (hr : r < nb) (t : Nat) (ht : t < bl.length) : cntTo bl (t + 1) = cntTo bl t + (bl.getD t (0, 0)).1 ∧ cntTo bl (t + 1) ≤ nb := by
  subst h
  unfold cntTo
  by_cases e : r = 0
  · rw [if_pos e] at ht ⊢
    simp only [List.length_cons, List.length_nil] at ht
    obtain rfl : t = 0 := by omega
    simp
  · rw [if_neg e] at ht ⊢
    simp only [List.length_cons, List.length_nil] at ht
    obtain rfl | rfl : t = 0 ∨ t = 1 := by omega
    · simp
    · simp; omega
theorem dLen_two (nb r d j : Nat) : dLen nb r d j = d ∨ dLen nb r d j = d + 1 := by unfold dLen; split <;> simp
end Go.Proofs.YtnpkihobbcglcaaGreatDoor
/- A new decoder, a new parser, a new data block. -/
open Go Go.RowKit
namespace Go.Proofs.YtnpkihobbcglcaaGreatDoor
open Go.QZ

theorem qrField_c (w : World) : Calls Tryz.prog 76 #[] w (NewField w) := by
  go_enter Tryz.func76, Tryz.ntmps76
  go_wp2_with fail
  refine (newGF_c w).mono ?_
  rintro e w1 ⟨F, rfl, h1, h2, h3⟩
  have H1 := Lib.hid h1
  have H2 := Lib.hid h2
  have H3 := Lib.hid h3
  clear h1 h2 h3
  go_wp2_with fail
  go_ret
  exact ⟨F, rfl, H1.out, H2.out, H3.out⟩

theorem newRsDec_c (w : World) (F : Nat) : Calls Tryz.prog 75 #[.pointer (some ⟨F, 0, none⟩)] w fun e w' => e = .returned (.pointer (some ⟨w.heap.size, 0, none⟩)) ∧ Blk w' w.heap.size [.pointer (some ⟨F, 0, none⟩)] ∧ QZ.Mod (fun _ => False) w w' := by
  have hnew := Lib.hid (fun t => Blk.new w [.pointer (some ⟨F, 0, none⟩)] t)
  go_enter Tryz.func75, Tryz.ntmps75
  go_wp2
  go_ret
  exact ⟨rfl, hnew.out _, (QZ.Mod.refl _ _).alloc _⟩

/-- A decoder at block d: its Reed-Solomon decoder at block r, with the field F. -/
def NewDec (w : World) (e : Ending) (w' : World) : Prop := ∃ d r F, e = .returned (.pointer (some ⟨d, 0, none⟩)) ∧ Blk w' d [.pointer (some ⟨r, 0, none⟩)] ∧ Blk w' r [.pointer (some ⟨F, 0, none⟩)] ∧ Fld (fun k => k < w.heap.size) w' F ∧ w.heap.size ≤ d ∧ w.heap.size ≤ r ∧ QZ.Mod (fun _ => False) w w'
theorem newDecoder_c (w : World) : Calls Tryz.prog 29 #[] w (NewDec w) := by
  go_enter Tryz.func29, Tryz.ntmps29
  go_wp2_with fail
  refine (qrField_c w).mono ?_
  rintro e w1 ⟨F, rfl, h1, h2, h3⟩
  have H1 := Lib.hid h1
  have H2 := Lib.hid h2
  have H3 := Lib.hid h3
  clear h1 h2 h3
  go_wp2_with fail
  refine (newRsDec_c w1 F).mono ?_
  rintro e w2 ⟨rfl, hb, hm⟩
  have hF := H2.out.new hm
  have hs := H3.out.size
  have hmm := H3.out.trans hm
  have hs2 := hmm.size
  have hnew := Lib.hid (fun t => Blk.new w2 [.pointer (some ⟨w1.heap.size, 0, none⟩)] t)
  have hb2 := Lib.hid (fun o => hb.alloc o)
  have HF := Lib.hid hF
  have Hmm := Lib.hid hmm
  clear hF hmm
  clear hm hb
  go_wp2_with fail
  go_ret
  exact ⟨_, _, F, rfl, hnew.out _, hb2.out _, HF.out.new ((QZ.Mod.refl _ _).alloc _), hs2, hs, Hmm.out.alloc _⟩

theorem newParser_c (w : World) (p B d rs : Nat) (ws : List Nat) (f : Nat → Nat → Bool) (h : BM w p B d d rs ws f) (v : Nat) (hv1 : 1 ≤ v) (hv : v < 8) (hd : d = 17 + 4 * v) :
    Calls Tryz.prog 149 #[.pointer (some ⟨p, 0, none⟩)] w fun e w' => e = .returned (.tuple #[.pointer (some ⟨w.heap.size, 0, none⟩), .nilIface]) ∧ Pars w' w.heap.size p (.pointer none) (.pointer none) ∧ QZ.Mod (fun _ => False) w w' := by
  have hc : w.cell? ⟨p, 0 + 1, none⟩ = some (.int .i64 d) := h.head.at 1 rfl
  have hnew := Lib.hid (fun t => Blk.new w [.pointer (some ⟨p, 0, none⟩), .pointer none, .pointer none, .bool false] t)
  clear h
  have Hc := Lib.hid hc
  clear hc
  obtain rfl | rfl | rfl | rfl | rfl | rfl | rfl : v = 1 ∨ v = 2 ∨ v = 3 ∨ v = 4 ∨ v = 5 ∨ v = 6 ∨ v = 7 := by omega
  all_goals
    subst hd
    go_enter Tryz.func149, Tryz.ntmps149
    go_wp2_with fail
    refine (BitMatrix_GetHeight_c w p 0 _ Hc.out).mono ?_
    rintro e w1 ⟨rfl, rfl⟩
    go_wp2
    go_ret2
    exact ⟨rfl, ⟨hnew.out _⟩, (QZ.Mod.refl _ _).alloc _⟩

theorem newBlock_c (w : World) (n : Int) (A : Option Addr) (a a' : Nat) : Calls Tryz.prog 214 #[.int .i64 n, .slice A a a'] w fun e w' => e = .returned (.pointer (some ⟨w.heap.size, 0, none⟩)) ∧ Blk w' w.heap.size [.int .i64 n, .slice A a a'] ∧ QZ.Mod (fun _ => False) w w' := by
  have hnew := Lib.hid (fun t => Blk.new w [.int .i64 n, .slice A a a'] t)
  go_enter Tryz.func214, Tryz.ntmps214
  go_wp2
  go_ret
  exact ⟨rfl, hnew.out _, (QZ.Mod.refl _ _).alloc _⟩
end Go.Proofs.YtnpkihobbcglcaaGreatDoor
/- Blocks of data, each with its words, in memory. -/
open Go Go.RowKit
namespace Go.Proofs.YtnpkihobbcglcaaGreatDoor
open Go.QZ

/-- The first i blocks: pointers to them in block R; block j at P j, its dl j words of data and further ones, c j in all, at D j. -/
structure Bks (w : World) (base R i : Nat) (dl : Nat → Nat) (c : Nat → List Nat) (P D : Nat → Nat) : Prop where
  ptr : ∀ j, j < i → w.cell? ⟨R, j, none⟩ = some (.pointer (some ⟨P j, 0, none⟩))
  head : ∀ j, j < i → Blk w (P j) [.int .i64 (dl j : Nat), .slice (some ⟨D j, 0, none⟩) (c j).length (c j).length]
  words : ∀ j, j < i → Blk w (D j) (cellsN .u8 (c j))
  ord : ∀ j, j < i → base ≤ D j ∧ D j < P j ∧ ∀ k, k < j → P k < D j
  row : R < base

section
variable {w w' : World} {base R i : Nat} {dl : Nat → Nat} {c : Nat → List Nat} {P D : Nat → Nat}
theorem Bks.mod {S : Nat → Prop} (h : Bks w base R i dl c P D) (hm : QZ.Mod S w w') (hS : ∀ k, S k → k < R) : Bks w' base R i dl c P D := by
  have hr := h.row
  refine ⟨fun j hj => cell_mod hm (fun s => by have := hS _ s; omega) (h.ptr j hj), fun j hj => hm.blk (fun s => ?_) (h.head j hj), fun j hj => hm.blk (fun s => ?_) (h.words j hj), h.ord, hr⟩
  · have := hS _ s; have := (h.ord j hj).1; have := (h.ord j hj).2.1; omega
  · have := hS _ s; have := (h.ord j hj).1; omega
theorem Bks.new (h : Bks w base R i dl c P D) (hm : QZ.Mod (fun _ => False) w w') : Bks w' base R i dl c P D := h.mod hm (fun _ f => f.elim)
theorem Bks.apart (h : Bks w base R i dl c P D) {j k : Nat} (hj : j < i) (hk : k < i) : D j ≠ P k ∧ (j ≠ k → D j ≠ D k) := by
  have oj := h.ord j hj
  have ok := h.ord k hk
  rcases Nat.lt_trichotomy j k with e | e | e
  · have := ok.2.2 j e; exact ⟨by omega, fun _ => by omega⟩
  · subst e; exact ⟨by omega, fun f => absurd rfl f⟩
  · have := oj.2.2 k e; exact ⟨by omega, fun _ => by omega⟩
/-- One word of a block set. -/
theorem Bks.set (h : Bks w base R i dl c P D) {j : Nat} (hj : j < i) (k x : Nat) : Bks (w.setCell ⟨D j, k, none⟩ (.int .u8 (x : Nat))) base R i dl (fun t => if t = j then (c j).set k x else c t) P D := by
  have hr := h.row
  have oj := h.ord j hj
  have hm : QZ.Mod (· = D j) w (w.setCell ⟨D j, k, none⟩ (.int .u8 (x : Nat))) := (QZ.Mod.refl (· = D j) w).setCell (p := ⟨D j, k, none⟩) (.inr rfl) _
  have hl : ∀ t, (if t = j then (c j).set k x else c t).length = (c t).length := fun t => by
    by_cases e : t = j
    · rw [if_pos e, List.length_set, e]
    · rw [if_neg e]
  refine ⟨fun t ht => cell_mod hm (by omega) (h.ptr t ht), fun t ht => ?_, fun t ht => ?_, h.ord, hr⟩
  · rw [hl]; exact hm.blk (fun e => (h.apart hj ht).1 e.symm) (h.head t ht)
  · by_cases e : t = j
    · subst e
      rw [if_pos rfl]
      have := (h.words t ht).set k (.int .u8 (x : Nat))
      rwa [cellsN_set] at this
    · rw [if_neg e]
      exact hm.blk (fun e2 => (h.apart ht hj).2 e e2) (h.words t ht)
theorem Bks.congr {c' : Nat → List Nat} (h : Bks w base R i dl c P D) (e : ∀ j, j < i → c' j = c j) : Bks w base R i dl c' P D :=
  ⟨h.ptr, fun j hj => by rw [e j hj]; exact h.head j hj, fun j hj => by rw [e j hj]; exact h.words j hj, h.ord, h.row⟩
/-- A block turned into itself. -/
theorem Bks.same (h : Bks w base R i dl c P D) {j : Nat} (hj : j < i) (hm : QZ.Mod (· = D j) w w') (hb : Blk w' (D j) (cellsN .u8 (c j))) : Bks w' base R i dl c P D := by
  have hr := h.row
  have oj := h.ord j hj
  refine ⟨fun t ht => cell_mod hm (by omega) (h.ptr t ht), fun t ht => hm.blk (fun e => (h.apart hj ht).1 e.symm) (h.head t ht), fun t ht => ?_, h.ord, hr⟩
  by_cases e : t = j
  · subst e; exact hb
  · exact hm.blk (fun e2 => (h.apart ht hj).2 e e2) (h.words t ht)
/-- Something that lies behind all of it turned. -/
theorem Bks.far {S : Nat → Prop} (h : Bks w base R i dl c P D) (hm : QZ.Mod S w w') {O : Nat} (hS : ∀ k, S k → O ≤ k) (hO : ∀ j, j < i → P j < O) (hR : R < O) : Bks w' base R i dl c P D := by
  have hr := h.row
  refine ⟨fun t ht => cell_mod hm (fun s => by have := hS _ s; omega) (h.ptr t ht), fun t ht => hm.blk (fun s => by have := hS _ s; have := hO t ht; omega) (h.head t ht), fun t ht => hm.blk (fun s => by have := hS _ s; have := hO t ht; have := (h.ord t ht).2.1; omega) (h.words t ht), h.ord, hr⟩
/-- One block more. -/
theorem Bks.more (h : Bks w base R i dl c P D) (hm : QZ.Mod (fun k => k = R) w w') {p q n : Nat} {ys : List Nat} (hp : w'.cell? ⟨R, i, none⟩ = some (.pointer (some ⟨p, 0, none⟩))) (hk : ∀ j, j < i → w'.cell? ⟨R, j, none⟩ = w.cell? ⟨R, j, none⟩) (hh : Blk w' p [.int .i64 (n : Nat), .slice (some ⟨q, 0, none⟩) ys.length ys.length]) (hw : Blk w' q (cellsN .u8 ys)) (h1 : base ≤ q) (h2 : q < p) (h3 : ∀ k, k < i → P k < q) :
    Bks w' base R (i + 1) (fun j => if j = i then n else dl j) (fun j => if j = i then ys else c j) (fun j => if j = i then p else P j) (fun j => if j = i then q else D j) := by
  have hr := h.row
  refine ⟨fun t ht => ?_, fun t ht => ?_, fun t ht => ?_, fun t ht => ?_, hr⟩
  · by_cases e : t = i
    · subst e; rw [if_pos rfl]; exact hp
    · rw [if_neg e, hk t (by omega)]; exact h.ptr t (by omega)
  · by_cases e : t = i
    · subst e; simp only [if_pos]; exact hh
    · simp only [if_neg e]
      have := h.ord t (by omega)
      exact hm.blk (by omega) (h.head t (by omega))
  · by_cases e : t = i
    · subst e; simp only [if_pos]; exact hw
    · simp only [if_neg e]
      have := h.ord t (by omega)
      exact hm.blk (by omega) (h.words t (by omega))
  · by_cases e : t = i
    · subst e
      simp only [if_pos]
      refine ⟨h1, h2, fun k hk => ?_⟩
      rw [if_neg (by omega)]; exact h3 k hk
    · simp only [if_neg e]
      obtain ⟨o1, o2, o3⟩ := h.ord t (by omega)
      refine ⟨o1, o2, fun k hk => ?_⟩
      rw [if_neg (by omega)]; exact o3 k hk
end
/-- The words from the first o places are in the blocks. -/
def Filled2 (raw : List Nat) (nb s ls n : Nat) (dl : Nat → Nat) (o : Nat) : Nat → List Nat := fun j => fillJ raw nb s ls o (dl j + n) j
theorem Bks.fill {w : World} {base R nb s ls n o j k : Nat} {raw : List Nat} {dl P D : Nat → Nat} (h : Bks w base R nb dl (Filled2 raw nb s ls n dl o) P D) (hj : j < nb) (hl : ls ≤ nb) (hr : rho nb s ls j k = o) :
    Bks (w.setCell ⟨D j, k, none⟩ (.int .u8 (nth raw o : Nat))) base R nb dl (Filled2 raw nb s ls n dl (o + 1)) P D := by
  refine (h.set hj k (nth raw o)).congr (fun t ht => ?_)
  unfold Filled2
  by_cases e : t = j
  · subst e
    rw [if_pos rfl, fillJ_set _ _ _ _ _ _ _ _ hj hl hr]
  · rw [if_neg e]
    exact fillJ_other _ _ _ _ _ _ _ _ k hj ht hl hr e
end Go.Proofs.YtnpkihobbcglcaaGreatDoor
/- What is read of a symbol: numbers and lists alone. -/
open Go Go.RowKit
namespace Go.Proofs.YtnpkihobbcglcaaGreatDoor
open Go.QZ

theorem inter_small (bl : List (List Nat)) (h : ∀ b ∈ bl, Small b) : ∀ i, Small (inter bl i) := by
  intro i
  induction i with
  | zero => intro x hx; simp [inter] at hx
  | succ i ih =>
    intro x hx
    unfold inter at hx
    rcases List.mem_append.1 hx with hx | hx
    · exact ih x hx
    · unfold rowOf at hx
      obtain ⟨b, hb, he⟩ := List.mem_filterMap.1 hx
      exact h b hb x (List.mem_of_getElem? he)
theorem Sym.small {cs : List Nat} {l v k : Nat} {hb : List Bool} {es : List (List Nat)} (h : Sym cs l v k hb es) : Small (symW l v hb es) := by
  unfold symW
  refine Small.app (inter_small _ (fun b hb => ?_) _) (inter_small _ (fun e he => ?_) _)
  · unfold dRows at hb
    obtain ⟨j, _, rfl⟩ := List.mem_map.1 hb
    exact small_bytes _ _ _
  · obtain ⟨i, hi, rfl⟩ := List.mem_iff_getElem.1 he
    have := (h.ec i (by rw [← h.ecs]; exact hi)).2.1
    rwa [List.getD_eq_getElem?_getD, List.getElem?_eq_getElem hi] at this
/-- The words that are read are the words that were written. -/
theorem Sym.read {cs : List Nat} {l v k : Nat} {hb : List Bool} {es : List (List Nat)} (h : Sym cs l v k hb es) (hl : l < 4) (g : Nat → Nat → Bool) (hg : ∀ x y, x < 17 + 4 * v → y < 17 + 4 * v → g x y = decide (qrF v l k (encB (symW l v hb es)) x y = 1)) :
    bytesFrom (readTo g (fnF v l k) k (17 + 4 * v) (zzN v)) 0 (totV v) = symW l v hb es := by
  have hw := h.words hl
  have hr := qr_read v l k (encB (symW l v hb es)) h.v1 h.v8 g hg
  rw [← hw]
  exact raw_words _ h.small _ (fun i hi => hr i (by omega))
/-- Each block, taken out of the turns. -/
theorem Sym.block {cs : List Nat} {l v k : Nat} {hb : List Bool} {es : List (List Nat)} (h : Sym cs l v k hb es) (hl : l < 4) (j : Nat) (hj : j < nbV v l) :
    fillJ (symW l v hb es) (nbV v l) (dtV v l) (nbV v l - lgV v l) (totV v) (dLen (nbV v l) (lgV v l) (dtV v l) j + ecV v l) j = dRow hb (nbV v l) (lgV v l) (dtV v l) j ++ es.getD j [] := by
  obtain ⟨h1, h2, h3, h4, h5, h6, h7, h8, h9, h10, h11⟩ := shape_all v h.v8 h.v1 l hl
  rw [h2]
  exact fill_all hb (nbV v l) (lgV v l) (dtV v l) (ecV v l) es h9 h.ecs (fun e he => by
    obtain ⟨i, hi, rfl⟩ := List.mem_iff_getElem.1 he
    have := (h.ec i (by rw [← h.ecs]; exact hi)).1
    rwa [List.getD_eq_getElem?_getD, List.getElem?_eq_getElem hi] at this) j hj
/-- The bits of its data. -/
theorem Sym.left {cs : List Nat} {l v k : Nat} {hb : List Bool} {es : List (List Nat)} (h : Sym cs l v k hb es) : ∃ T, Left (bytesFrom hb 0 (roomD v l)) (roomD v l) 0 (beBits (modeOf cs) 4 ++ (beBits cs.length (ccB (modeOf cs)) ++ (encM (modeOf cs) cs ++ T))) ∧ ∀ j, j < 4 → j < T.length → T[j]? = some false := by
  obtain ⟨T, hT, h0⟩ := h.bits
  refine ⟨T, ?_, h0⟩
  have := Left.start (bytesFrom hb 0 (roomD v l)) hb (roomD v l) h.len (bitAt_all hb (roomD v l) h.len)
  have e : hb = beBits (modeOf cs) 4 ++ (beBits cs.length (ccB (modeOf cs)) ++ (encM (modeOf cs) cs ++ T)) := by rw [hT]; simp only [List.append_assoc]
  rw [← e]; exact this
end Go.Proofs.YtnpkihobbcglcaaGreatDoor
