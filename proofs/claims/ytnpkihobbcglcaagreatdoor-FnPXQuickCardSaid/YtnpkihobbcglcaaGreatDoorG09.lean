/- Part 9 of the proof of FnPXQuick (a QR code that is written for a text says this text in a picture): parts of the road. No condition. -/
import Derived.Laws.CopyOwn
import Derived.Laws.AppendOwn
import Derived.Deep.RegionWith
import Derived.Test.YtnpkihobbcglcaaGreatDoorG01
import Derived.Test.YtnpkihobbcglcaaGreatDoorG08
/- The built-in copy and append, for blocks known whole. -/
open Go Go.RowKit
namespace Go.QZ
variable {P : Program}

theorem mod_setRow (w : World) (g : Nat) (cur : Array Value) : Mod (· = g) w (w.setRow g cur) :=
  ⟨rfl, rfl, rfl, by simp, fun k _ hk => setRow_other w g k _ (fun e => hk e)⟩

theorem wpList_cp {w : World} {ops : Array Oper} {rest : List Oper} {o : Oper} {a : Act} {Q : Exit → Act → World → Prop} (hgd : o.guard = none) (d s : Operand) (dT sT : TypeId)
    (ho : o.op = .call { callee := .builtin .copy, args := #[d, s], argTypes := #[dT, sT] }) (elem : TypeId) (hu : P.underlying dT = some (.slice elem)) (hsz : (P.info? elem).map (·.size) = some 1)
    (dp sp : Option Addr) (dLen dCap sLen sCap : Nat) (hd : a.eval d = .slice dp dLen dCap) (hs : a.eval s = .slice sp sLen sCap)
    (g off : Nat) (cur : List Value) (hg : Blk w g cur) (cs : List Value) (hn : cs.length = Nat.min sLen dLen)
    (hpos : 0 < cs.length → dp = some ⟨g, off, none⟩ ∧ ∃ ad, sp = some ad ∧ ∀ j v, cs[j]? = some v → w.cell? (ad.add j) = some v)
    (hfit : off + cs.length ≤ cur.length) (h1 : ∀ v ∈ cs, v.oneCell' = true)
    (h : ∀ w', Hid (Blk w' g (splice cur off cs)) → Hid (Mod (· = g) w w') → wpList P ops Q rest (a.put o.dst (goInt cs.length)) w') :
    wpList P ops Q (o :: rest) a w := by
  obtain ⟨t, hg⟩ := hg
  by_cases h0 : cs.length = 0
  · obtain rfl : cs = [] := List.eq_nil_of_length_eq_zero h0
    refine wpList_copy_nothing hgd d s dT sT ho elem hu hsz dp sp dLen dCap sLen sCap hd hs (by simpa using hn.symm) ?_
    exact h w (show Blk _ _ _ from ⟨t, by simpa [splice] using hg⟩) (show Mod _ _ _ from Mod.refl _ _)
  · obtain ⟨rfl, ad, rfl, hsrc⟩ := hpos (by omega)
    refine wpList_copy_own hgd d s dT sT ho elem hu hsz g off dLen dCap ad sLen sCap hd hs cur.toArray t hg cs hn hsrc (by simpa using hfit) h1 ?_
    exact h _ (show Blk _ _ _ from ⟨t, by simpa [splice] using setRow_heap w g _ _ t _ hg⟩) (show Mod _ _ _ from mod_setRow _ _ _)

/-- A slice value of the call's own: it holds these cells, one cell each; its block is not below base. -/
def Own (w : World) (base : Nat) (E : TypeId) (v : Value) (xs : List Value) : Prop := w.ownsRow base E 1 v xs.length xs
theorem Own.start (w : World) (base : Nat) (E : TypeId) : Own w base E (.slice none 0 0) [] := World.ownsRow_nil w base E 1
theorem Own.full {w : World} {base : Nat} {E : TypeId} {v : Value} {xs : List Value} (h : Own w base E v xs) (hx : 0 < xs.length) : ∃ g cap, v = .slice (some ⟨g, 0, none⟩) xs.length cap ∧ base ≤ g ∧ g < w.heap.size ∧ xs.length ≤ cap ∧ ∀ j u, xs[j]? = some u → w.cell? ⟨g, j, none⟩ = some u := by
  have hc := fun g => World.ownsRow.cells (g := g) h
  rcases h.2 with ⟨_, h0⟩ | ⟨g, cap, cur, hv, hb, hg, hn, _⟩
  · omega
  · refine ⟨g, cap, hv, hb, (Array.getElem?_eq_some_iff.1 hg).1, hn, fun j u hu => ?_⟩
    have := hc g (by rw [hv]; rfl) j u hu
    rwa [Addr.add_lit, Nat.zero_add] at this
/-- Whatever the length. -/
theorem Own.either {w : World} {base : Nat} {E : TypeId} {v : Value} {xs : List Value} (h : Own w base E v xs) : (v = .slice none 0 0 ∧ xs = []) ∨ ∃ g cap, v = .slice (some ⟨g, 0, none⟩) xs.length cap ∧ base ≤ g ∧ g < w.heap.size ∧ xs.length ≤ cap ∧ cap ≤ maxLen := by
  rcases h.2 with ⟨hv, h0⟩ | ⟨g, cap, cur, hv, hb, hg, hn, hm, _⟩
  · exact .inl ⟨hv, List.eq_nil_of_length_eq_zero h0⟩
  · exact .inr ⟨g, cap, hv, hb, (Array.getElem?_eq_some_iff.1 hg).1, hn, hm⟩
theorem Own.of_blk (w : World) (base : Nat) (E : TypeId) (cap : Nat) (cur : List Value) (hb : base ≤ w.heap.size) (hm : cap ≤ maxLen) (hc : cur.length = cap) : Own (w.alloc (.cells cur.toArray E (0, 0))) base E (.slice (some ⟨w.heap.size, 0, none⟩) 0 cap) [] :=
  World.ownsRow_made w cur.toArray cap hb hm (by simpa using hc)
theorem Own.made (w : World) (base : Nat) (E : TypeId) (xs : List Value) (hb : base ≤ w.heap.size) (hm : xs.length ≤ maxLen) : Own (w.alloc (.cells xs.toArray E (0, 0))) base E (.slice (some ⟨w.heap.size, 0, none⟩) xs.length xs.length) xs :=
  ⟨by omega, .inr ⟨w.heap.size, xs.length, xs.toArray, rfl, hb, heap_alloc_new w _, Nat.le_refl _, hm, by simp, by simp⟩⟩
/-- It stays as it was while other blocks are written. -/
theorem Own.mod {S : Nat → Prop} {w w' : World} {base : Nat} {E : TypeId} {v : Value} {xs : List Value} (h : Own w base E v xs) (hm : Mod S w w') (hS : ∀ k, v.ownBlock = some k → ¬ S k) : Own w' base E v xs := by
  refine ⟨h.1, ?_⟩
  rcases h.2 with hn | ⟨g, cap, cur, hv, hb, hg, rest⟩
  · exact .inl hn
  · refine .inr ⟨g, cap, cur, hv, hb, ?_, rest⟩
    rw [hm.block g (Array.getElem?_eq_some_iff.1 hg).1 (hS g (by rw [hv]; rfl))]; exact hg
theorem grown_mod {w w' : World} {v : Value} (h : w.grownBy w' v.ownBlock) : Mod (fun k => v.ownBlock = some k) w w' :=
  ⟨h.os, h.tape, h.output, h.size, fun k hk hs => h.block k hk (fun e => hs e.symm)⟩
theorem Own.block {w : World} {base : Nat} {E : TypeId} {v : Value} {xs : List Value} (h : Own w base E v xs) : ∀ k, v.ownBlock = some k → base ≤ k ∧ k < w.heap.size := World.ownsRow.lt h

/-- append of what lies at an address. -/
theorem wpList_app {w : World} {ops : Array Oper} {rest : List Oper} {o : Oper} {a : Act} {Q : Exit → Act → World → Prop} (hgd : o.guard = none) (s x : Operand) (t : TypeId)
    (ho : o.op = .call { callee := .builtin .append, args := #[s, x], argTypes := #[t, t] })
    (base : Nat) (e : TypeId) (z : Value) (bytes : Nat) (ht : P.underlying t = some (.slice e)) (hi : (P.info? e).map (fun i => (i.zero, i.size, i.bytes)) = some (some z, 1, bytes)) (hz : z.cells.size = 1)
    (v : Value) (xs : List Value) (hs : a.eval s = v) (hown : Own w base e v xs)
    (ad : Addr) (c : Nat) (m : Nat) (news : List Value) (hx : a.eval x = .slice (some ad) m c) (hl : news.length = m) (hnews : ∀ j u, news[j]? = some u → w.cell? (ad.add j) = some u) (h1 : ∀ u ∈ news, u.oneCell' = true)
    (hfew : xs.length + m ≤ 1000000) (hby : bytes ≤ 100) (hbase : base ≤ w.heap.size)
    (h : ∀ v' w', Hid (Own w' base e v' (xs ++ news)) → Hid (Mod (fun k => v.ownBlock = some k) w w') → Hid (v' = .slice none 0 0 ↔ v = .slice none 0 0 ∧ m = 0) → wpList P ops Q rest (a.put o.dst v') w') : wpList P ops Q (o :: rest) a w := by
  obtain ⟨i, h2, h3, h4, h5⟩ := info_parts hi
  refine wpList_append_own w hgd s x t ho base e i z 1 bytes ht h2 h3 h4 h5 hz (by decide) v xs.length xs hs hown ad m c news hx (by omega) hnews h1 (by unfold maxLen; omega) ?_ hbase ?_
  · exact Nat.le_trans (Nat.mul_le_mul hfew hby) (by decide)
  · intro v' w' ho' hg' hv'
    refine h v' w' ?_ (show Mod _ _ _ from grown_mod hg') hv'
    show w'.ownsRow base e 1 v' (xs ++ news).length (xs ++ news)
    rw [List.length_append, hl]; exact ho'
end Go.QZ
/- BitMatrix: regions, rows in and out. -/
open Go Go.RowKit
namespace Go.Proofs.YtnpkihobbcglcaaGreatDoor
open Go.QZ

/-- A region of which the first rows, and so many of the next one, are dark. -/
def regTo (f : Nat → Nat → Bool) (l t w k j : Nat) : Nat → Nat → Bool := fun a c => if l ≤ a ∧ t ≤ c ∧ ((c < t + k ∧ a < l + w) ∨ (c = t + k ∧ a < l + j)) then true else f a c
theorem regTo_zero (f : Nat → Nat → Bool) (l t w : Nat) : regTo f l t w 0 0 = f := by funext a c; unfold regTo; rw [if_neg (by omega)]
theorem regTo_step (f : Nat → Nat → Bool) (l t w k j : Nat) (_hj : j < w) : updB (regTo f l t w k j) (l + j) (t + k) true = regTo f l t w k (j + 1) := by
  funext a c
  unfold updB regTo
  by_cases e : a = l + j ∧ c = t + k
  · rw [if_pos e, if_pos (by omega)]
  · rw [if_neg e]
    by_cases e2 : l ≤ a ∧ t ≤ c ∧ ((c < t + k ∧ a < l + w) ∨ (c = t + k ∧ a < l + j))
    · rw [if_pos e2, if_pos (by omega)]
    · rw [if_neg e2, if_neg (by omega)]
theorem regTo_row (f : Nat → Nat → Bool) (l t w k : Nat) : regTo f l t w k w = regTo f l t w (k + 1) 0 := by
  funext a c
  unfold regTo
  by_cases e2 : l ≤ a ∧ t ≤ c ∧ ((c < t + k ∧ a < l + w) ∨ (c = t + k ∧ a < l + w))
  · rw [if_pos e2, if_pos (by omega)]
  · rw [if_neg e2, if_neg (by omega)]
def regF (f : Nat → Nat → Bool) (l t w h : Nat) : Nat → Nat → Bool := regTo f l t w h 0

set_option maxRecDepth 20000 in
set_option maxHeartbeats 1600000 in
theorem setRegion_c (w : World) (p B W H rs : Nat) (ws : List Nat) (f : Nat → Nat → Bool) (h : BM w p B W H rs ws f) (l t wd ht : Nat) (hw : 1 ≤ wd) (hh : 1 ≤ ht) (h1 : l + wd ≤ W) (h2 : t + ht ≤ H) :
    Calls Tryz.prog 245 #[.pointer (some ⟨p, 0, none⟩), .int .i64 l, .int .i64 t, .int .i64 wd, .int .i64 ht] w (Turned w p B W H rs (regF f l t wd ht) .nilIface) := by
  have hW := h.sW; have hH := h.sH
  have c0 := h.c0; have c1 := h.c1; have c2 := h.c2
  have hrsE := h.rsE
  have t0 : decide ((t : Int) < 0) = false := by simp
  have t1 : decide ((l : Int) < 0) = false := by simp
  have t2 : decide ((ht : Int) < 1) = false := by simp; omega
  have t3 : decide ((wd : Int) < 1) = false := by simp; omega
  have t4 : decide ((H : Int) < (t : Int) + (ht : Int)) = false := by simp; omega
  have t5 : decide ((W : Int) < (l : Int) + (wd : Int)) = false := by simp; omega
  have H0 := Lib.hid h
  have HrsE := Lib.hid hrsE
  clear h hrsE
  go_enter Tryz.func245, Tryz.ntmps245
  go_wp2_with fail
  clear c0 c1
  go_loopw [13, 14, 15] (fun a _ _ wr => ∃ k : Nat, k ≤ ht ∧ a = .int .i64 ((t + k : Nat) : Int) ∧ (∃ ws, BM wr p B W H rs ws (regTo f l t wd k 0)) ∧ QZ.Mod (· = B) w wr) (fun a _ _ _ => t + ht - (intOf a).toNat)
  case atStart => exact ⟨0, by omega, by go_num, ⟨ws, by rw [regTo_zero]; exact H0.out⟩, QZ.Mod.refl _ _⟩
  case round =>
    obtain ⟨k, hk, rfl, ⟨us, hb⟩, hm⟩ := hrel
    clear c2
    have c2 := hb.c2
    by_cases hlt : k < ht
    · obtain ⟨y, hy⟩ : ∃ y, t + k = y := ⟨_, rfl⟩
      have hyH : y < H := by omega
      have hrw := (row_wrap hyH hH HrsE.out hW).1
      have hql := (row_wrap hyH hH HrsE.out hW).2
      have hyl : y < t + ht := by omega
      rw [hy]
      obtain ⟨q, hq⟩ : ∃ q, y * rs = q := ⟨_, rfl⟩
      rw [hq] at hrw hql
      have Hy := Lib.hid hy
      have Hb := Lib.hid hb
      have Hm := Lib.hid hm
      have Hq := Lib.hid hq
      clear hb hm hq
      clear hy
      go_wp2_with fail
      rw [hrw]
      clear c2 hrw
      generalize decide ((y : Int) < (t : Int) + (ht : Int)) = bb
      go_loopw [15] (fun a w2 => ∃ j : Nat, j ≤ wd ∧ a = .int .i64 ((l + j : Nat) : Int) ∧ (∃ ws, BM w2 p B W H rs ws (regTo f l t wd k j)) ∧ QZ.Mod (· = B) w w2) (fun a _ => l + wd - (intOf a).toNat)
      case atStart => exact ⟨0, by omega, by go_num, ⟨us, Hb.out⟩, Hm.out⟩
      case round =>
        obtain ⟨j, hj, rfl, ⟨us2, hb⟩, hm⟩ := hrel
        by_cases hjl : j < wd
        · obtain ⟨x, hx⟩ : ∃ x, l + j = x := ⟨_, rfl⟩
          have hxW : x < W := by omega
          have hxl : x < l + wd := by omega
          have c3 := hb.c3
          have ho := hb.off hxW hyH
          have hfw := hb.few.1
          have cw := hb.cw _ ho
          have hfr := hb.words.frozen (y * rs + x / 32)
          have hor := orb_run (hb.wlt (y * rs + x / 32)) (show x % 32 < 32 by omega)
          have hset := hb.set hxW hyH
          rw [← hx, ← Hy.out, regTo_step f l t wd k j hjl, hx, Hy.out] at hset
          have hm2 := hm.setCell (p := ⟨B, y * rs + x / 32, none⟩) (.inr rfl) (.int .u32 (orb (nth us2 (y * rs + x / 32)) (x % 32) : Nat))
          rw [hx]
          generalize nth us2 (y * rs + x / 32) = v at *
          rw [Hq.out] at cw hfr ho hset hm2
          have Hx := Lib.hid hx
          have Hset := Lib.hid hset
          have Hm2 := Lib.hid hm2
          clear hset hm2
          clear hb hm hx
          go_wp2_with fail
          go_roundw
          case rel => exact ⟨j + 1, by omega, by rw [← Nat.add_assoc, Hx.out]; go_num, ⟨_, Hset.out⟩, Hm2.out⟩
          case measure => simp [intOf]; omega
        · obtain rfl : j = wd := by omega
          have Hb_2 := Lib.hid hb
          have Hm_2 := Lib.hid hm
          clear hb hm
          rw [regTo_row] at Hb_2
          go_wp2_with fail
          go_roundw
          case rel => exact ⟨k + 1, by omega, by rw [← Nat.add_assoc, Hy.out]; go_num, ⟨_, Hb_2.out⟩, Hm_2.out⟩
          case measure => simp [intOf]; omega
    · obtain rfl : k = ht := by omega
      have Hb := Lib.hid hb
      have Hm := Lib.hid hm
      clear hb hm
      go_wp2_with fail
      go_ret
      exact ⟨rfl, ⟨_, Hb.out⟩, Hm.out⟩
end Go.Proofs.YtnpkihobbcglcaaGreatDoor
/- Rows of bools into a BitMatrix, and out of it. -/
open Go Go.RowKit
namespace Go.Proofs.YtnpkihobbcglcaaGreatDoor
open Go.QZ

/-- Rows of bools that can be read, in block R. -/
def Rows2 (w : World) (R W H : Nat) (f : Nat → Nat → Bool) : Prop := ∀ y, y < H → ∃ B cap, w.cell? ⟨R, y, none⟩ = some (.slice (some ⟨B, 0, none⟩) W cap) ∧ ∀ x, x < W → w.cell? ⟨B, x, none⟩ = some (.bool (f x y))
theorem Rows2.new {w w' : World} {R W H : Nat} {f : Nat → Nat → Bool} (h : Rows2 w R W H f) (hm : QZ.Mod (fun _ => False) w w') : Rows2 w' R W H f := fun y hy => by
  obtain ⟨B, cap, h1, h2⟩ := h y hy
  exact ⟨B, cap, cell_mod hm (fun f => f) h1, fun x hx => cell_mod hm (fun f => f) (h2 x hx)⟩
theorem Rows2.congr {w : World} {R W H : Nat} {f g : Nat → Nat → Bool} (h : Rows2 w R W H f) (e : ∀ x y, x < W → y < H → f x y = g x y) : Rows2 w R W H g := fun y hy => by
  obtain ⟨B, cap, h1, h2⟩ := h y hy
  exact ⟨B, cap, h1, fun x hx => by rw [← e x y hx hy]; exact h2 x hx⟩

def parTo (f : Nat → Nat → Bool) (k j : Nat) : Nat → Nat → Bool := fun a c => if c < k ∨ (c = k ∧ a < j) then f a c else false
theorem parTo_zero (f : Nat → Nat → Bool) : parTo f 0 0 = fun _ _ => false := by funext a c; unfold parTo; rw [if_neg (by omega)]
theorem parTo_dark (f : Nat → Nat → Bool) (k j : Nat) (h : f j k = true) : updB (parTo f k j) j k true = parTo f k (j + 1) := by
  funext a c
  unfold updB parTo
  by_cases e : a = j ∧ c = k
  · rw [if_pos e, if_pos (by omega), e.1, e.2, h]
  · rw [if_neg e]
    by_cases e2 : c < k ∨ (c = k ∧ a < j)
    · rw [if_pos e2, if_pos (by omega)]
    · rw [if_neg e2, if_neg (by omega)]
theorem parTo_light (f : Nat → Nat → Bool) (k j : Nat) (h : f j k = false) : parTo f k j = parTo f k (j + 1) := by
  funext a c
  unfold parTo
  by_cases e : a = j ∧ c = k
  · rw [if_neg (by omega), if_pos (by omega), e.1, e.2, h]
  · by_cases e2 : c < k ∨ (c = k ∧ a < j)
    · rw [if_pos e2, if_pos (by omega)]
    · rw [if_neg e2, if_neg (by omega)]
theorem parTo_row (f : Nat → Nat → Bool) (W k a c : Nat) (ha : a < W) : parTo f k W a c = parTo f (k + 1) 0 a c := by
  unfold parTo
  by_cases e2 : c < k ∨ (c = k ∧ a < W)
  · rw [if_pos e2, if_pos (by omega)]
  · rw [if_neg e2, if_neg (by omega)]

/-- A new matrix of modules. -/
def Parsed (w : World) (W H : Nat) (f : Nat → Nat → Bool) (e : Ending) (w' : World) : Prop :=
  ∃ p B rs ws, e = .returned (.tuple #[.pointer (some ⟨p, 0, none⟩), .nilIface]) ∧ BM w' p B W H rs ws f ∧ w.heap.size ≤ p ∧ w.heap.size ≤ B ∧ QZ.Mod (fun _ => False) w w'

set_option maxHeartbeats 1600000 in
theorem parse_c (w : World) (R W H cap : Nat) (f : Nat → Nat → Bool) (h : Rows2 w R W H f) (hW : 1 ≤ W) (hH : 1 ≤ H) (hW2 : W ≤ 1000) (hH2 : H ≤ 1000) :
    Calls Tryz.prog 118 #[.slice (some ⟨R, 0, none⟩) H cap] w (Parsed w W H f) := by
  obtain ⟨B0, cap0, r0, _⟩ := h 0 (by omega)
  have H0 := Lib.hid h
  clear h
  go_enter Tryz.func118, Tryz.ntmps118
  go_wp2_with fail
  refine ((newBM_c w W H hW hH hW2 hH2)).mono ?_
  rintro e w1 ⟨p, B, rs, ws, rfl, hb, hp, hB, hm⟩
  have Hb := Lib.hid hb
  have Hm := Lib.hid hm
  have Hp := Lib.hid hp
  have HB := Lib.hid hB
  clear hb hm hp hB
  go_wp2_with fail
  clear r0
  go_loopw [8, 9, 10] (fun a _ _ wr => ∃ k : Nat, k ≤ H ∧ a = .int .i64 k ∧ (∃ ws, BM wr p B W H rs ws (parTo f k 0)) ∧ QZ.Mod (· = B) w1 wr) (fun a _ _ _ => H - (intOf a).toNat)
  case atStart => exact ⟨0, by omega, rfl, ⟨ws, by rw [parTo_zero]; exact Hb.out⟩, QZ.Mod.refl _ _⟩
  case round =>
    obtain ⟨k, hk, rfl, ⟨us, hb⟩, hm⟩ := hrel
    by_cases hlt : k < H
    · obtain ⟨Bk, capk, r1, r2⟩ := ((H0.out.new Hm.out)) k hlt
      have hRl := cell_lt ((H0.out k hlt).choose_spec.choose_spec.1)
      have hRB : ¬ R = B := by have := HB.out; omega
      have hBkl : Bk < w.heap.size := by
        obtain ⟨B2, c2, s1, s2⟩ := H0.out k hlt
        have e := (cell_mod Hm.out (fun f => f) s1).symm.trans r1
        have : B2 = Bk := by simp at e; exact e.1
        rw [← this]; exact cell_lt (s2 0 (by omega))
      have hBkB : ¬ Bk = B := by have := HB.out; omega
      have r1' := cell_mod hm hRB r1
      have Hr2 := Lib.hid r2
      have Hb1 := Lib.hid hb; have Hm1 := Lib.hid hm
      clear hb hm r1 r2
      go_wp2_with fail
      clear r1'
      generalize decide ((k : Int) < (H : Int)) = bb
      go_loopw [10] (fun a w2 => ∃ j : Nat, j ≤ W ∧ a = .int .i64 j ∧ (∃ ws, BM w2 p B W H rs ws (parTo f k j)) ∧ QZ.Mod (· = B) w1 w2) (fun a _ => W - (intOf a).toNat)
      case atStart => exact ⟨0, by omega, rfl, ⟨us, Hb1.out⟩, Hm1.out⟩
      case round =>
        obtain ⟨j, hj, rfl, ⟨us2, hb⟩, hm⟩ := hrel
        have Hb2 := Lib.hid hb; have Hm2 := Lib.hid hm
        by_cases hjl : j < W
        · have cx := cell_mod hm hBkB (Hr2.out j hjl)
          clear hb hm
          cases hf : f j k
          · rw [hf] at cx
            have Hf := Lib.hid hf
            clear hf
            go_wp2_with fail
            go_roundw
            case rel => exact ⟨j + 1, by omega, by go_num, ⟨us2, by rw [← parTo_light f k j Hf.out]; exact Hb2.out⟩, Hm2.out⟩
            case measure => simp [intOf]; omega
          · rw [hf] at cx
            have Hf := Lib.hid hf
            clear hf
            go_wp2_with fail
            refine ((bmSet_c wr p B W H rs us2 _ Hb2.out j k hjl hlt)).mono ?_
            rintro e w3 ⟨rfl, ⟨us3, hb3⟩, hm3⟩
            rw [parTo_dark f k j Hf.out] at hb3
            have Hb3 := Lib.hid hb3
            have Hm3 := Lib.hid hm3
            clear hb3 hm3
            clear cx
            go_wp2_with fail
            go_roundw
            case rel => exact ⟨j + 1, by omega, by go_num, ⟨us3, Hb3.out⟩, Hm2.out.trans Hm3.out⟩
            case measure => simp [intOf]; omega
        · obtain rfl : j = W := by omega
          clear hb hm
          go_wp2_with fail
          go_roundw
          case rel => exact ⟨k + 1, by omega, by go_num, ⟨us2, Hb2.out.congr (fun x y hx _ => parTo_row f j k x y hx)⟩, Hm2.out⟩
          case measure => simp [intOf]; omega
    · obtain rfl : k = H := by omega
      have Hb1 := Lib.hid hb; have Hm1 := Lib.hid hm
      clear hb hm
      go_wp2_with fail
      go_ret2
      exact ⟨p, B, rs, us, rfl, Hb1.out.congr (fun x y _ hy => by unfold parTo; rw [if_pos (.inl hy)]), Hp.out, HB.out, Hm.out.new Hm1.out (fun k e => by rw [e]; exact HB.out)⟩

theorem i56 : (Tryz.prog.info? 56).map (fun i => (i.zero, i.size, i.bytes)) = some (some (.slice none 0 0), 1, 24) := by kernel_rfl
theorem i4 : (Tryz.prog.info? 4).map (fun i => (i.zero, i.size, i.bytes)) = some (some (.bool false), 1, 1) := by kernel_rfl

/-- The slices of rows, of which the first k are there; a row of which the first j are there. -/
def rowsTo (N W H k : Nat) : List Value := (List.range H).map fun y => if y < k then .slice (some ⟨N + 1 + y, 0, none⟩) W W else .slice none 0 0
theorem rowsTo_get (N W H k y : Nat) (h : y < H) : (rowsTo N W H k)[y]? = some (if y < k then .slice (some ⟨N + 1 + y, 0, none⟩) W W else .slice none 0 0) := by simp [rowsTo, h]
theorem rowsTo_set (N W H k : Nat) : (rowsTo N W H k).set k (.slice (some ⟨N + 1 + k, 0, none⟩) W W) = rowsTo N W H (k + 1) := by
  apply List.ext_getElem (by simp [rowsTo])
  intro i h1 h2
  simp only [rowsTo, List.getElem_set, List.getElem_map, List.getElem_range]
  by_cases e : k = i
  · subst e; rw [if_pos rfl, if_pos (by omega)]
  · rw [if_neg e]
    by_cases e2 : i < k
    · rw [if_pos e2, if_pos (by omega)]
    · rw [if_neg e2, if_neg (by omega)]
theorem rowsTo_zero (N W H : Nat) : rowsTo N W H 0 = List.replicate H (.slice none 0 0) := by
  apply List.ext_getElem (by simp [rowsTo])
  intro i h1 h2; simp [rowsTo]
def cellsB (g : Nat → Bool) (W j : Nat) : List Value := (List.range W).map fun x => .bool (if x < j then g x else false)
theorem cellsB_zero (g : Nat → Bool) (W : Nat) : cellsB g W 0 = List.replicate W (.bool false) := by
  apply List.ext_getElem (by simp [cellsB])
  intro i h1 h2; simp [cellsB]
theorem cellsB_get (g : Nat → Bool) (W j x : Nat) (h : x < W) : (cellsB g W j)[x]? = some (.bool (if x < j then g x else false)) := by simp [cellsB, h]
theorem cellsB_set (g : Nat → Bool) (W j : Nat) : (cellsB g W j).set j (.bool (g j)) = cellsB g W (j + 1) := by
  apply List.ext_getElem (by simp [cellsB])
  intro i h1 h2
  simp only [cellsB, List.getElem_set, List.getElem_map, List.getElem_range]
  by_cases e : j = i
  · subst e; rw [if_pos rfl, if_pos (by omega)]
  · rw [if_neg e]
    by_cases e2 : i < j
    · rw [if_pos e2, if_pos (by omega)]
    · rw [if_neg e2, if_neg (by omega)]

theorem Mod.drewN' {S : Nat → Prop} {a b : World} (h : QZ.Mod S a b) (n : Nat) : QZ.Mod S a (b.drewN n) := ⟨h.os, h.tape, h.output, h.size, h.block⟩
theorem size_set (w : World) (a : Addr) (v : Value) {n : Nat} (h : w.heap.size = n) : (w.setCell a v).heap.size = n := by simp [World.setCell]; exact h
/-- New rows of bools. -/
def NewRows (w : World) (W H : Nat) (f : Nat → Nat → Bool) (e : Ending) (w' : World) : Prop :=
  ∃ R, e = .returned (.slice (some ⟨R, 0, none⟩) H H) ∧ Rows2 w' R W H f ∧ w.heap.size ≤ R ∧ QZ.Mod (fun _ => False) w w'

set_option maxHeartbeats 1600000 in
theorem rowsOf_c (w : World) (p B W H rs : Nat) (ws : List Nat) (f : Nat → Nat → Bool) (h : BM w p B W H rs ws f) :
    Calls Tryz.prog 66 #[.pointer (some ⟨p, 0, none⟩)] w (NewRows w W H f) := by
  have hW := h.sW; have hH := h.sH
  have hmk := make_run (P := Tryz.prog) Tryz.underlying24 i56 rfl (H : Int) (H : Int) H H rfl rfl (Nat.le_refl _) (by omega) (by omega)
  have hmk2 := make_run (P := Tryz.prog) Tryz.underlying56 i4 rfl (W : Int) (W : Int) W W rfl rfl (Nat.le_refl _) (by omega) (by omega)
  have H0 := Lib.hid h
  clear h
  go_enter Tryz.func66, Tryz.ntmps66
  go_wp2_with fail
  refine ((BitMatrix_GetHeight_c w p 0 _ H0.out.c1)).mono ?_
  rintro e w1 ⟨rfl, rfl⟩
  go_wp2_with fail
  clear hmk
  have Hb0 : Hid (Blk (w.alloc (zrow 56 (.slice none 0 0) H)) w.heap.size (rowsTo w.heap.size W H 0)) := by
    show Blk _ _ _
    rw [rowsTo_zero]; exact Blk.made w 56 _ H
  go_loopw [11, 4, 5] (fun a _ _ wr => ∃ k : Nat, k ≤ H ∧ a = .int .i64 k ∧ wr.heap.size = w.heap.size + 1 + k ∧ Blk wr w.heap.size (rowsTo w.heap.size W H k) ∧ (∀ y, y < k → Blk wr (w.heap.size + 1 + y) (cellsB (fun x => f x y) W W)) ∧ QZ.Mod (fun _ => False) w wr) (fun a _ _ _ => H - (intOf a).toNat)
  case atStart => exact ⟨0, by omega, rfl, by simp, Hb0.out, fun y hy => by omega, (QZ.Mod.refl _ _).alloc _⟩
  case round =>
    obtain ⟨k, hk, rfl, hsz, hb, hrows, hm⟩ := hrel
    by_cases hlt : k < H
    · have hcell := (hb.alloc (zrow 4 (.bool false) W)).cell k
      rw [rowsTo_get _ _ _ _ _ hlt, if_neg (by omega)] at hcell
      have hfr := (hb.alloc (zrow 4 (.bool false) W)).frozen k
      have hb2 := (hb.alloc (zrow 4 (.bool false) W)).set k (.slice (some ⟨wr.heap.size, 0, none⟩) W W)
      have hrow := (Blk.made wr 4 (.bool false) W).set_other (a := ⟨w.heap.size, k, none⟩) (by simp only; omega) (.slice (some ⟨wr.heap.size, 0, none⟩) W W)
      have hrow2 : ∀ y, y < k → Blk ((wr.alloc (zrow 4 (.bool false) W)).setCell ⟨w.heap.size, k, none⟩ (.slice (some ⟨wr.heap.size, 0, none⟩) W W)) (w.heap.size + 1 + y) (cellsB (fun x => f x y) W W) := fun y hy => ((hrows y hy).alloc _).set_other (by simp only; omega) _
      have hm2 := (hm.alloc (zrow 4 (.bool false) W)).setCell (p := ⟨w.heap.size, k, none⟩) (.inl (Nat.le_refl _)) (.slice (some ⟨wr.heap.size, 0, none⟩) W W)
      have hsz2 : ((wr.alloc (zrow 4 (.bool false) W)).setCell ⟨w.heap.size, k, none⟩ (.slice (some ⟨wr.heap.size, 0, none⟩) W W)).heap.size = w.heap.size + 1 + (k + 1) := by simp [World.setCell]; omega
      rw [← cellsB_zero (fun x => f x k)] at hrow
      have hw0 := cell_mod hm (fun f => f) H0.out.c0
      have Hb2 := Lib.hid hb2
      have Hrow := Lib.hid hrow
      have Hrow2 := Lib.hid hrow2
      have Hm2 := Lib.hid hm2
      have Hsz2 := Lib.hid hsz2
      have Hsz := Lib.hid hsz
      clear hb2 hrow hrow2 hm2 hsz2 hsz
      clear hb hrows hm
      go_wp2_with fail
      refine (BitMatrix_GetWidth_c wr p 0 _ hw0).mono ?_
      rintro e w2 ⟨rfl, rfl⟩
      clear hw0
      go_wp2_with fail
      generalize (wr.alloc (zrow 4 (.bool false) W)).setCell ⟨w.heap.size, k, none⟩ (.slice (some ⟨wr.heap.size, 0, none⟩) W W) = w3 at *
      clear hcell hfr
      generalize decide ((k : Int) < (H : Int)) = bb
      have hNne : ∀ y, y ≤ k → w.heap.size + 1 + y ≠ w.heap.size := fun y _ => by omega
      obtain ⟨R1, hR1⟩ : ∃ R1, wr.heap.size = R1 := ⟨_, rfl⟩
      rw [hR1] at Hb2 Hrow ⊢
      rw [hR1] at Hsz
      have HR1 := Lib.hid hR1; clear hR1
      go_loopw [25, 5] (fun a _ w4 => ∃ j : Nat, j ≤ W ∧ a = .int .i64 j ∧ Blk w4 R1 (cellsB (fun x => f x k) W j) ∧ QZ.Mod (· = R1) w3 w4 ∧ w4.heap.size = w.heap.size + 1 + (k + 1)) (fun a _ _ => W - (intOf a).toNat)
      case atStart => exact ⟨0, by omega, rfl, Hrow.out, QZ.Mod.refl _ _, Hsz2.out⟩
      case round =>
        obtain ⟨j, hj, rfl, hb, hm, hs4⟩ := hrel
        have hN := hm.blk (show ¬ w.heap.size = R1 by have := Hsz.out; omega) Hb2.out
        by_cases hjl : j < W
        · have hbm := H0.out.mod (Hm2.out.new hm (fun q e => by rw [e, Hsz.out]; omega)) (fun f => f) (fun f => f)
          have c6 := hN.cell k
          rw [List.getElem?_set_self (by simp [rowsTo]; exact hlt)] at c6
          have hcell := hb.cell j
          rw [cellsB_get _ _ _ _ hjl] at hcell
          have hfr := hb.frozen j
          have hb5 := fun n => (blk_drewN hb n).set j (.bool (f j k))
          rw [cellsB_set (fun x => f x k)] at hb5
          have hm5 := fun n => (Mod.drewN' hm n).setCell (p := ⟨R1, j, none⟩) (.inr rfl) (.bool (f j k))
          have Hbm := Lib.hid (hbm.mod (mod_drewN (fun _ => False) _ 1) (fun f => f) (fun f => f))
          generalize (if j < j then f j k else false) = old at *
          have hs5 := fun n => size_set (wr.drewN n) ⟨R1, j, none⟩ (.bool (f j k)) hs4
          have Hb5 := Lib.hid hb5
          have Hm5 := Lib.hid hm5
          have HN := Lib.hid hN
          have Hs5 := Lib.hid hs5
          clear hb5 hm5 hN hs5
          clear hb hm hbm hs4
          go_wp2_with fail
          go_region_with (go_at_call 116; refine (bmGet_c _ p B W H rs ws f ?_ j k hjl hlt).mono ?_; exact Hbm.out; rintro e w9 ⟨rfl, rfl⟩)
          all_goals (
            go_wp2_with fail
            go_roundw
            case rel => exact ⟨j + 1, by omega, by go_num, Hb5.out _, Hm5.out _, Hs5.out _⟩
            case measure => simp [intOf]; omega)
        · obtain rfl : j = W := by omega
          have hrows3 : ∀ y, y < k + 1 → Blk wr (w.heap.size + 1 + y) (cellsB (fun x => f x y) j j) := fun y hy => by
            by_cases e : y = k
            · subst e; rw [← Hsz.out]; exact hb
            · exact hm.blk (show ¬ w.heap.size + 1 + y = R1 by have := Hsz.out; omega) (Hrow2.out y (by omega))
          rw [show (Value.slice (some ⟨R1, 0, none⟩) j j) = .slice (some ⟨w.heap.size + 1 + k, 0, none⟩) j j by rw [← Hsz.out], rowsTo_set] at hN
          have hm9 := Hm2.out.new hm (fun q e => by rw [e, Hsz.out]; omega)
          have Hrows3 := Lib.hid hrows3
          have HN := Lib.hid hN
          have Hm9 := Lib.hid hm9
          have Hs4 := Lib.hid hs4
          clear hrows3 hN hm9 hs4
          clear hb hm
          go_wp2_with fail
          go_roundw
          case rel => exact ⟨k + 1, by omega, by go_num, Hs4.out, HN.out, Hrows3.out, Hm9.out⟩
          case measure => simp [intOf]; omega
    · obtain rfl : k = H := by omega
      have Hb := Lib.hid hb
      have Hrows := Lib.hid hrows
      have Hm := Lib.hid hm
      have Hsz := Lib.hid hsz
      clear hb hrows hm hsz
      clear hmk2
      go_wp2_with fail
      go_ret
      refine ⟨w.heap.size, rfl, fun y hy => ⟨w.heap.size + 1 + y, W, ?_, fun x hx => ?_⟩, Nat.le_refl _, Hm.out⟩
      · rw [Hb.out.cell, rowsTo_get _ _ _ _ _ hy, if_pos hy]
      · rw [(Hrows.out y hy).cell, cellsB_get _ _ _ _ hx, if_pos hx]
end Go.Proofs.YtnpkihobbcglcaaGreatDoor
