/- Part 28 of the proof of FnPXQuick (a QR code that is written for a text says this text in a picture): parts of the road. No condition. -/
import Derived.Deep.RegionHeld3
import Derived.Test.YtnpkihobbcglcaaGreatDoorG27
open Go Go.RowKit
namespace Go.Proofs.YtnpkihobbcglcaaGreatDoor
open Go.QZ

/-- A generator is handed back; nothing below N is written. -/
def GotGen (w : World) (N G F n : Nat) (e : Ending) (w' : World) : Prop := ∃ r, e = .returned (.pointer (some ⟨r, 0, none⟩)) ∧ Poly (fun k => k < N) w' F r (gen n) ∧ w'.cell? ⟨G, 0, none⟩ = some (.pointer (some ⟨F, 0, none⟩)) ∧ QZ.Mod (fun k => N ≤ k) w w'

theorem i240 : (Tryz.prog.info? 240).map (fun i => (i.zero, i.size, i.bytes)) = some (some (.pointer none), 1, 8) := by kernel_rfl

def ptrs (l : List Nat) : List Value := l.map fun p => .pointer (some ⟨p, 0, none⟩)

theorem _root_.Go.QZ.Own.alloc {w : World} {base : Nat} {E : TypeId} {v : Value} {xs : List Value} (h : Own w base E v xs) (o : Obj) : Own (w.alloc o) base E v xs := World.ownsRow.alloc h o
theorem own_shape {w : World} {base : Nat} {E : TypeId} {v : Value} {xs : List Value} {x : Value} (h : Hid (Own w base E v (xs ++ [x]))) : ∃ g cap, v = .slice (some ⟨g, 0, none⟩) (xs.length + 1) cap := by
  obtain ⟨g, cap, hv, _⟩ := h.out.full (by simp)
  exact ⟨g, cap, by rw [hv]; simp⟩
theorem _root_.Go.QZ.Blk.mod' {w w' : World} {b : Nat} {cs : List Value} (h : Blk w b cs) (hm : QZ.Mod (fun _ => False) w w') : Blk w' b cs := hm.blk (fun f => f) h
theorem _root_.Go.QZ.Blk.keep {w w' : World} {b : Nat} {cs : List Value} {v : Value} (h : Blk w b cs) (hm : QZ.Mod (fun k => v.ownBlock = some k) w w') (hv : v.ownBlock ≠ some b) : Blk w' b cs := hm.blk hv h

set_option maxRecDepth 20000 in
set_option maxHeartbeats 1600000 in
theorem buildGen_c (w : World) (N G F n : Nat) (h : Enc0 w N G F) (hn : 1 ≤ n) (hn2 : n ≤ 30) :
    Calls Tryz.prog 165 #[.pointer (some ⟨G, 0, none⟩), .int .i64 n] w (GotGen w N G F n) := by
  obtain ⟨hold, ⟨v, p0, hb, ho, hvG, hp⟩, hF⟩ := h
  have hF0 := Lib.hid hF
  obtain ⟨g, cap, hv, hg1, hg2, hc, hcells⟩ := ho.full (by simp)
  subst hv
  have c0 := hb.cell 0
  have c1 := hb.cell 1
  have cp := hcells 0 _ rfl
  have tt : decide ((1 : Int) ≤ (n : Int)) = true := by simp; omega
  have Hb := Lib.hid hb; have Ho := Lib.hid ho; have HvG := Lib.hid hvG; have Hp := Lib.hid hp
  clear hb ho hvG hp hF hcells
  go_enter Tryz.func165, Tryz.ntmps165
  go_wp2_with fail
  clear c1 cp
  go_loopw [7, 6, 8, 9, 10, 11] (fun i l _ _ _ _ wr => ∃ (k q : Nat) (vv : Value) (ls : List Nat), 1 ≤ k ∧ k ≤ n + 1 ∧ i = .int .i64 k ∧ l = .pointer (some ⟨q, 0, none⟩) ∧ ls.length = k ∧ ls.getD (k - 1) 0 = q ∧ Poly (fun k => k < N) wr F q (gen (k - 1)) ∧ Blk wr G [.pointer (some ⟨F, 0, none⟩), vv] ∧ Own wr N 240 vv (ptrs ls) ∧ vv.ownBlock ≠ some G ∧ QZ.Mod (fun k => N ≤ k) w wr) (fun i _ _ _ _ _ _ => n + 1 - (intOf i).toNat)
  case atStart => exact ⟨1, p0, _, [p0], by omega, by omega, rfl, rfl, rfl, rfl, Hp.out, Hb.out, Ho.out, HvG.out, QZ.Mod.refl _ _⟩
  case round =>
    obtain ⟨k, q, vv, ls, hk1, hk, rfl, rfl, hll, hlq, hq, hb, ho, hvG, hm⟩ := hrel
    obtain ⟨g2, cap2, hv, hg3, hg4, hc2, hcells⟩ := ho.full (by simp [ptrs]; omega)
    subst hv
    have hpl : (ptrs ls).length = k := by simp [ptrs, hll]
    rw [hpl] at hb ho hvG
    clear c0
    have hc0 := hb.cell 0
    have hc1 := hb.cell 1
    have hff := hF0.out.mod hm (fun _ h => h)
    obtain ⟨E, L, Z, O, hG, _⟩ := hff.weak (Y := fun _ => False) (fun _ f => f.elim)
    have hFw := hff.weak (Y := fun _ => False) (fun _ f => f.elim)
    by_cases hlt : k ≤ n
    · obtain ⟨j, hj⟩ : ∃ j, k - 1 = j := ⟨_, rfl⟩
      have hjk : (k : Int) - 1 = (j : Int) := by omega
      have hwj : IntKind.i64.wrap (j : Int) = (j : Int) := IntWalk.i64_in _ (by omega)
      have hw0 : IntKind.i64.wrap ((j : Int) + 0) = (j : Int) := by rw [Int.add_zero]; exact hwj
      have hj30 : j < 30 := by omega
      rw [hj] at hq hlq
      have hc6 := hG.head.cell 6
      have Hexl := Lib.hid (exp_lt256 j)
      obtain ⟨x, hx⟩ : ∃ x, nth expL j = x := ⟨_, rfl⟩
      have Hsm : Hid (Small [1, nth expL j]) := by
        intro y hy
        simp only [List.mem_cons, List.not_mem_nil, or_false] at hy
        rcases hy with h | h
        · rw [h]; decide
        · rw [h]; exact Hexl.out
      have HR : Hid (RdN ((wr.alloc (.cells #[.int .i64 1, .int .i64 (nth expL j : Nat)] 3)).drew) wr.heap.size 0 [1, nth expL j]) := RdN.of_blk (cs := [1, nth expL j]) (Blk.new wr [.int .i64 1, .int .i64 (nth expL j : Nat)] 3)
      have Hgl : Hid ((gen j).length ≤ 1000) := by show _ ≤ _; rw [gen_len j (by omega)]; omega
      have Hgh : Hid (nth (gen j) 0 ≠ 0) := by show _ ≠ _; rw [gen_head j (by omega)]; decide
      have Hgs : Hid (strip (mulS (gen j) [1, nth expL j] (2 * (gen j).length)) = gen (j + 1)) := by
        show _ = _
        rw [gen_len j (by omega), ← gen_step j hj30]
      have Hq := Lib.hid hq
      have Hb := Lib.hid hb
      have Ho := Lib.hid ho
      have HvG := Lib.hid hvG
      have HG := Lib.hid hG
      have Hff := Lib.hid hff
      have HFw := Lib.hid hFw
      have Hm := Lib.hid hm
      have Hcells := Lib.hid hcells
      have Hj := Lib.hid hj
      have Hx := Lib.hid hx
      have Hll := Lib.hid hll
      have Hlq := Lib.hid hlq
      have Hpl := Lib.hid hpl
      clear hq hb ho hvG hG hff hFw hm hcells hj hx hll hlq hpl
      clear tt
      go_wp2_with fail
      have hc0a : ∀ o, (wr.alloc o).cell? ⟨G, 0, none⟩ = some (.pointer (some ⟨F, 0, none⟩)) := fun o => cell_mod ((QZ.Mod.refl (fun _ => False) wr).alloc o) (fun f => f) hc0
      go_region_held3 (fun w' => w'.cell? ⟨G, 0, none⟩ = some (.pointer (some ⟨F, 0, none⟩))) (first | exact hc0 | exact hc0a _ | exact hc5) (first | (go_at_call 201; refine (GenericGF_GetGeneratorBase_c _ F 0 (.int .i64 0) ?_).mono ?_; exact hc6; rintro e w5 ⟨rfl, rfl⟩) | (go_at_call 200; refine (gfExp_c _ F E L Z O ?_ j (by omega)).mono ?_; exact HG.out.drew; rintro e w5 ⟨rfl, rfl⟩) | (go_at_call 146; refine (newPoly_n (fun _ => False) _ F wr.heap.size 0 2 2 [1, nth expL j] rfl (fun _ f => f.elim) ?_ (by decide) (by decide) ?_ (fun f => f) (Nat.le_refl _)).mono ?_; exact HR.out; exact Hsm.out; rintro e w5 ⟨q1, rfl, hq1, hm1⟩; have hc5 := cell_mod (((QZ.Mod.refl (fun _ => False) wr).alloc (.cells #[.int .i64 1, .int .i64 (nth expL j : Nat)] 3)).drew.trans hm1) (fun f => f) hc0))
      rw [show strip [1, nth expL j] = [1, nth expL j] from rfl] at hq1
      have hm1' := ((QZ.Mod.refl (fun _ => False) wr).alloc (.cells #[.int .i64 1, .int .i64 (nth expL j : Nat)] 3)).drew.trans hm1
      have hc0' := cell_mod hm1' (fun f => f) hc0
      have hc1' := cell_mod hm1' (fun f => f) hc1
      have HN5 : Hid (N ≤ w5.heap.size) := by have h1 := hm1'.size; have h2 := Hb.out.lt; show N ≤ _; omega
      have Hq1 := Lib.hid hq1
      have Hm1' := Lib.hid hm1'
      clear hq1 hm1'
      clear hm1
      go_wp2_with fail
      refine (mul_c w5 F q q1 (gen j) [1, nth expL j] ((Hq.out.new Hm1'.out).weak (fun _ f => f.elim)) Hq1.out (HFw.out.new Hm1'.out) Hgl.out rfl Hgh.out (show (1 : Nat) ≠ 0 by decide)).mono ?_
      rintro e w6 ⟨q2, rfl, hq2, hm6⟩
      rw [Hgs.out] at hq2
      have hc0'' := cell_mod hm6 (fun f => f) hc0'
      have hc1'' := cell_mod hm6 (fun f => f) hc1'
      have hmw6 := Hm1'.out.trans hm6
      have hb6 := Hb.out
      have ho6 := (Ho.out.mod hmw6 (fun _ _ f => f)).alloc (.cells #[.pointer (some ⟨q2, 0, none⟩)] 240)
      have hN6 : N ≤ (w6.alloc (.cells #[.pointer (some ⟨q2, 0, none⟩)] 240)).heap.size := by rw [World.size_alloc]; have := hmw6.size; omega
      have hnews : ∀ j u, [Value.pointer (some ⟨q2, 0, none⟩)][j]? = some u → (w6.alloc (.cells #[.pointer (some ⟨q2, 0, none⟩)] 240)).cell? ((⟨w6.heap.size, 0, none⟩ : Addr).add j) = some u := by
        intro j u hu
        rw [Addr.add_lit, Nat.zero_add, (Blk.new w6 [.pointer (some ⟨q2, 0, none⟩)] 240).cell]; exact hu
      have hone : ∀ u ∈ [Value.pointer (some ⟨q2, 0, none⟩)], u.oneCell' = true := by intro u hu; rw [List.mem_singleton.1 hu]; rfl
      have hfew : (ptrs ls).length + 1 ≤ 1000000 := by rw [Hpl.out]; omega
      have Hq2 := Lib.hid hq2
      have Hmw6 := Lib.hid hmw6
      have Ho6 := Lib.hid ho6
      have HN6 := Lib.hid hN6
      have Hnews := Lib.hid hnews
      have Hone := Lib.hid hone
      have Hfew := Lib.hid hfew
      clear hq2 hmw6 ho6 hN6 hnews hone hfew
      clear hc0' hc1' hm6 hc0 hc1
      have HbG : Hid (∀ w7, QZ.Mod (fun k' => (Value.slice (some ⟨g2, 0, none⟩) k cap2).ownBlock = some k') (w6.alloc (.cells #[.pointer (some ⟨q2, 0, none⟩)] 240)) w7 → w7.cell? ⟨G, 1, none⟩ = some (.slice (some ⟨g2, 0, none⟩) k cap2)) := fun w7 hm7 => by
        rw [((Hb.out.mod' (Hmw6.out.trans ((QZ.Mod.refl (fun _ => False) w6).alloc _))).keep hm7 HvG.out).cell]; rfl
      have HfG : Hid (∀ w7, QZ.Mod (fun k' => (Value.slice (some ⟨g2, 0, none⟩) k cap2).ownBlock = some k') (w6.alloc (.cells #[.pointer (some ⟨q2, 0, none⟩)] 240)) w7 → w7.frozen? ⟨G, 1, none⟩ = false) := fun w7 hm7 =>
        ((Hb.out.mod' (Hmw6.out.trans ((QZ.Mod.refl (fun _ => False) w6).alloc _))).keep hm7 HvG.out).frozen 1
      go_wp2_with (at_builtin; refine wpList_app rfl (.tmp 66) (.tmp 68) 272 rfl N 240 (.pointer none) 8 Tryz.underlying272 i240 rfl _ (ptrs ls) rfl Ho6.out ⟨w6.heap.size, 0, none⟩ 1 1 [.pointer (some ⟨q2, 0, none⟩)] rfl rfl Hnews.out Hone.out Hfew.out (by decide) HN6.out ?_; intro v7 w7 ho7 hm7 hv7; clear hc0'' hc1''; obtain ⟨g7, cap7, hv7e⟩ := own_shape ho7; subst hv7e; have cG := HbG.out w7 hm7.out; have fG := HfG.out w7 hm7.out)
      have e7 : ptrs ls ++ [Value.pointer (some ⟨q2, 0, none⟩)] = ptrs (ls ++ [q2]) := by simp [ptrs]
      have ho7' := ho7.out
      rw [e7] at ho7'
      have hM7 := ((QZ.Mod.refl (fun _ => False) w6).alloc (.cells #[.pointer (some ⟨q2, 0, none⟩)] 240))
      have hbG := (Hb.out.mod' (Hmw6.out.trans hM7)).keep hm7.out HvG.out
      have hv7G : (Value.slice (some ⟨g7, 0, none⟩) ((ptrs ls).length + 1) cap7).ownBlock ≠ some G := by
        intro hG7
        obtain ⟨g8, cap8, hv8, _, _, _, hc7⟩ := Own.full ho7' (by simp [ptrs])
        have hgg : g7 = g8 := by
          injection hv8 with h1 _ _
          injection h1 with h1
          injection h1
        have : g7 = G := by simpa [Value.ownBlock] using hG7
        subst hgg; subst this
        have h1 : (ptrs (ls ++ [q2]))[1]? = some (.pointer (some ⟨(ls ++ [q2]).getD 1 0, 0, none⟩)) := by
          have : 1 < (ls ++ [q2]).length := by simp; have := Hll.out; omega
          unfold ptrs
          rw [List.getElem?_map, List.getD_eq_getElem?_getD, List.getElem?_eq_getElem this]; rfl
        have h2 := hc7 1 _ h1
        rw [cG] at h2
        simp at h2
      generalize hv7e : Value.slice (some ⟨g7, 0, none⟩) ((ptrs ls).length + 1) cap7 = v7 at *
      have hbG2 := hbG.set 1 v7
      simp only [List.set_cons_zero, List.set_cons_succ] at hbG2
      have ho8 := ho7'.mod ((QZ.Mod.refl (· = G) w7).setCell (p := ⟨G, 1, none⟩) (.inr rfl) v7) (fun k hk e => hv7G (by rw [hk, e]))
      have hM8 : QZ.Mod (fun k => N ≤ k) w (w7.setCell ⟨G, 1, none⟩ v7) := ((Hm.out.trans (QZ.Mod.none (Hmw6.out.trans hM7))).trans (hm7.out.mono (fun k _ hk => (Own.block Ho.out k hk).1))).setCell (p := ⟨G, 1, none⟩) (.inr hold) v7
      have hq8 : Poly (fun k => k < N) (w7.setCell ⟨G, 1, none⟩ v7) F q2 (gen (j + 1)) := by
        have h1 := (Hq2.out.new hM7).mod hm7.out (fun k hk => by have := (Own.block Ho.out k hk).2; have := Hm1'.out.size; omega)
        have h2 := h1.mod ((QZ.Mod.refl (· = G) w7).setCell (p := ⟨G, 1, none⟩) (.inr rfl) v7) (fun k e => by rw [e]; have := Hb.out.lt; have := Hm1'.out.size; omega)
        exact h2.weak (fun k hk => by have := HN5.out; omega)
      go_roundw
      case rel => exact ⟨k + 1, q2, v7, ls ++ [q2], by omega, by omega, by go_num, rfl, by simp; exact Hll.out, by rw [Nat.add_sub_cancel, List.getD_eq_getElem?_getD, List.getElem?_append_right (by rw [Hll.out]; exact Nat.le_refl _), Hll.out]; simp, by rw [Nat.add_sub_cancel, show k = j + 1 by have := Hj.out; omega]; exact hq8, hbG2, ho8, hv7G, hM8⟩
      case measure => simp [intOf]; omega
    · obtain rfl : k = n + 1 := by omega
      have cn := hcells n (.pointer (some ⟨q, 0, none⟩)) (by
        rw [Nat.add_sub_cancel] at hlq
        simp only [ptrs, List.getElem?_map]
        rw [List.getElem?_eq_getElem (by omega)]
        rw [List.getD_eq_getElem?_getD, List.getElem?_eq_getElem (by omega)] at hlq
        simp at hlq
        simp [hlq])
      rw [Nat.add_sub_cancel] at hq
      have Hq := Lib.hid hq
      have Hb := Lib.hid hb
      have Ho := Lib.hid ho
      have HvG := Lib.hid hvG
      have HG := Lib.hid hG
      have Hff := Lib.hid hff
      have HFw := Lib.hid hFw
      have Hm := Lib.hid hm
      have Hcells := Lib.hid hcells
      have Hll := Lib.hid hll
      have Hlq := Lib.hid hlq
      have Hpl := Lib.hid hpl
      clear hq hb ho hvG hG hff hFw hm hcells hll hlq hpl
      clear tt
      go_wp2_with fail
      go_ret
      exact ⟨q, rfl, Hq.out, by rw [Hb.out.cell]; rfl, Hm.out⟩
end Go.Proofs.YtnpkihobbcglcaaGreatDoor
/- Reed-Solomon: a block's words are made, and a block without an error is taken. -/
open Go Go.RowKit
namespace Go.Proofs.YtnpkihobbcglcaaGreatDoor
open Go.QZ

theorem shift_one (cs : List Nat) (d : Nat) (h : Small cs) : shift cs 1 d = cs ++ List.replicate d 0 := by
  unfold shift
  congr 1
  conv => rhs; rw [← List.map_id cs]
  apply List.map_congr_left
  intro x hx
  exact gmul_one x (h x hx)
theorem ev_stripped (a : Nat) (data : List Nat) (n : Nat) (h : Small data) : ev a (strip (shift (strip data) 1 n)) = ev a (data ++ List.replicate n 0) := by
  rw [ev_strip, shift_one _ _ (strip_small _ h)]
  unfold ev
  rw [evF_app, evF_app]
  congr 1
  exact ev_strip a data

/-- What becomes of a block: its words behind the data. -/
def Encoded (w : World) (N T n : Nat) (data : List Nat) (e : Ending) (w' : World) : Prop :=
  e = .returned .nilIface ∧ ∃ rem, Small rem ∧ rem.length ≤ n ∧ Stands (gen n) (data ++ List.replicate n 0) rem ∧ Blk w' T (cellsN .i64 (data ++ (List.replicate (n - rem.length) 0 ++ rem))) ∧ QZ.Mod (fun k => k = T ∨ N ≤ k) w w'

theorem mulMono1_c (X : Nat → Prop) (w : World) (F p : Nat) (cs : List Nat) (hX : ∀ k, X k → k < w.heap.size) (h : Poly X w F p cs) (hF : Fld X w F) (d : Nat) (hd : d ≤ 10000) (hl : cs.length ≤ 10000) :
    Calls Tryz.prog 166 #[.pointer (some ⟨p, 0, none⟩), .int .i64 d, .int .i64 1] w (GotPoly X w F (strip (shift cs 1 d))) := mulMono_c X w F p cs hX h hF d 1 hd hl (by decide) (by decide)

theorem zeros_set (data : List Nat) (n i : Nat) (_h : i < n) : (data ++ List.replicate n 0).set (data.length + i) 0 = data ++ List.replicate n 0 := by
  apply List.ext_getElem (by simp)
  intro k h1 h2
  rw [List.getElem_set]
  split
  · rename_i e; subst e; simp
  · rfl
theorem splice_tail (data rem : List Nat) (n : Nat) (_hn : rem.length ≤ n) : splice (data ++ List.replicate n 0) (data.length + (n - rem.length)) rem = data ++ (List.replicate (n - rem.length) 0 ++ rem) := by
  unfold splice
  rw [List.take_append, List.drop_append]
  simp only [List.take_of_length_le (show data.length ≤ data.length + (n - rem.length) by omega), Nat.add_sub_cancel_left, List.take_replicate, List.drop_of_length_le (show data.length ≤ data.length + (n - rem.length) + rem.length by omega), List.drop_replicate]
  rw [show data.length + (n - rem.length) + rem.length - data.length = n by omega, Nat.sub_self, Nat.min_eq_left (by omega)]
  simp

set_option maxRecDepth 20000 in
set_option maxHeartbeats 1600000 in
theorem rsEnc_c (w : World) (N G F T n L : Nat) (data : List Nat) (h : Enc0 w N G F) (hb : Blk w T (cellsN .i64 (data ++ List.replicate n 0))) (hT : T < N) (hs : Small data) (hd : 0 < data.length) (hd2 : data.length ≤ 1000) (hn : 1 ≤ n) (hn2 : n ≤ 30) (hL : L = data.length + n) (hFT : Fld (fun k => k = T ∨ N ≤ k) w F) :
    Calls Tryz.prog 129 #[.pointer (some ⟨G, 0, none⟩), .slice (some ⟨T, 0, none⟩) L L, .int .i64 n] w (Encoded w N T n data) := by
  obtain ⟨dl, hdl⟩ : ∃ dl, data.length = dl := ⟨_, rfl⟩
  rw [hdl] at hd hd2 hL
  have t0 : decide (n = 0) = false := by simp; omega
  have t1 : decide (dl = 0) = false := by simp; omega
  have hsub : (L : Int) - (n : Int) = (dl : Int) := by omega
  have hLl : L ≤ 1100 := by omega
  have hmk := make_run (P := Tryz.prog) Tryz.underlying117 i117 rfl (dl : Int) (dl : Int) dl dl rfl rfl (Nat.le_refl _) (by omega) (by omega)
  have H := Lib.hid h; have Hb := Lib.hid hb; have Hs := Lib.hid hs; have HL := Lib.hid hL; have Hdl := Lib.hid hdl
  have hG := h.old
  have hGl : G < w.heap.size := by obtain ⟨_, ⟨v, p0, hb, _⟩, _⟩ := h; exact hb.lt
  have hFld := Lib.hid hFT
  clear h hFT hb hs hL hdl
  go_enter Tryz.func129, Tryz.ntmps129
  go_wp2_with fail
  refine ((buildGen_c w N G F n H.out hn hn2)).mono ?_
  rintro e w1 ⟨g, rfl, hg, hc, hm1⟩
  have hb1 := hm1.blk (show ¬ N ≤ T by omega) Hb.out
  have hF1 := hFld.out.mod hm1 (fun _ h => .inr h)
  have hz1 := hm1.size
  have Hnew := Lib.hid (made_i64 w1 dl)
  have Hsrc : Hid (∀ j v, (cellsN .i64 data)[j]? = some v → (w1.alloc (zrow 3 (.int .i64 0) dl)).cell? ((⟨T, 0, none⟩ : Addr).add j) = some v) := by
    intro j v hv
    have hj : j < (cellsN .i64 data).length := (List.getElem?_eq_some_iff.1 hv).1
    rw [Addr.add_lit, Nat.zero_add, (hb1.alloc _).cell]
    unfold cellsN at *
    rw [List.map_append, List.getElem?_append_left hj]; exact hv
  have Hfit : Hid (0 + (cellsN .i64 data).length ≤ (cellsN .i64 (List.replicate dl 0)).length) := by
    show 0 + _ ≤ _
    rw [cellsN_length, cellsN_length, List.length_replicate, Hdl.out]; omega
  have Hlc : Hid ((cellsN .i64 data).length = Nat.min L dl) := by
    show _ = _
    rw [cellsN_length, Hdl.out]; simp only [Nat.min_def]; split <;> omega
  have hca := cell_mod ((QZ.Mod.refl (fun _ => False) w1).alloc (zrow 3 (.int .i64 0) dl)) (fun f => f) hc
  have HcG : Hid (∀ w2, QZ.Mod (· = w1.heap.size) (w1.alloc (zrow 3 (.int .i64 0) dl)) w2 → w2.cell? ⟨G, 0, none⟩ = some (.pointer (some ⟨F, 0, none⟩))) := fun w2 hm2 => cell_mod hm2 (by omega) (cell_mod ((QZ.Mod.refl (fun _ => False) w1).alloc (zrow 3 (.int .i64 0) dl)) (fun f => f) hc)
  have Hg := Lib.hid hg
  have Hm1 := Lib.hid hm1
  have Hb1 := Lib.hid hb1
  have HF1 := Lib.hid hF1
  have Hz1 := Lib.hid hz1
  have Hc := Lib.hid hc
  clear hg hm1 hb1 hF1 hz1 hc
  go_wp2_with (with_reducible refine wpList_cp rfl (.tmp 33) (.tmp 34) 117 117 rfl 3 Tryz.underlying117 (by kernel_rfl) _ _ _ _ _ _ rfl rfl w1.heap.size 0 _ Hnew.out (cellsN .i64 data) Hlc.out (fun _ => ⟨rfl, _, rfl, Hsrc.out⟩) Hfit.out (cellsN_one _ _) ?_; intro w2 hb2 hm2; have hc2 := HcG.out w2 hm2.out)
  have hb2' := hb2.out
  rw [cellsN_splice, show splice (List.replicate dl 0) 0 data = data by unfold splice; simp [Hdl.out]] at hb2'
  have HM2 := Lib.hid (Mod.keep ((QZ.Mod.refl (fun _ => False) w1).alloc (zrow 3 (.int .i64 0) dl)) hm2.out (Nat.le_refl _))
  have hrd2 := RdN.of_blk hb2'
  have Hb2' := Lib.hid hb2'
  have Hrd2 := Lib.hid hrd2
  clear hb2' hrd2
  clear hb2 hm2 hmk
  refine (newPoly_n (· = T) w2 F w1.heap.size 0 dl dl data Hdl.out (fun k e => by rw [e]; have h1 := HM2.out.size; have := Hz1.out; omega) Hrd2.out hd (by omega) Hs.out (by have := Hz1.out; omega) (Nat.le_refl _)).mono ?_
  rintro e w3 ⟨i1, rfl, hi1, hm3⟩
  have hF3 := (HF1.out.new (HM2.out.trans hm3)).weak (Y := (· = T)) (fun _ f => .inl f)
  have hg3 := (Hg.out.new (HM2.out.trans hm3)).weak (Y := (· = T)) (fun k e => by rw [e]; exact hT)
  have Hz3 : Hid (T < w3.heap.size) := by have h1 := HM2.out.size; have h2 := hm3.size; have := Hz1.out; show T < _; omega
  have Hsl : Hid ((strip data).length ≤ 10000) := by show _ ≤ _; have := strip_len data; have := Hdl.out; omega
  have Hi1 := Lib.hid hi1
  have Hm3 := Lib.hid hm3
  have HF3 := Lib.hid hF3
  have Hg3 := Lib.hid hg3
  clear hi1 hm3 hF3 hg3
  clear hc2
  go_wp2_with fail
  refine (mulMono1_c (· = T) w3 F i1 (strip data) (fun k e => by rw [e]; exact Hz3.out) Hi1.out HF3.out n (by omega) Hsl.out).mono ?_
  rintro e w4 ⟨i2, rfl, hi2, hm4⟩
  have Hpl : Hid ((strip (shift (strip data) 1 n)).length ≤ 5000) := by
    show _ ≤ _
    have h1 := strip_len (shift (strip data) 1 n); have h2 := strip_len data; have h3 := Hdl.out
    rw [shift_len] at h1; omega
  have hF4 := HF3.out.new hm4
  have hg4 := Hg3.out.new hm4
  have Hi2 := Lib.hid hi2
  have Hm4 := Lib.hid hm4
  have HF4 := Lib.hid hF4
  have Hg4 := Lib.hid hg4
  clear hi2 hm4 hF4 hg4
  go_wp2_with fail
  refine (divide_c (· = T) w4 F i2 g _ (gen n) (fun k e => by rw [e]; have := Hm4.out.size; have := Hz3.out; omega) Hi2.out Hg4.out HF4.out Hpl.out (by rw [gen_len n (by omega)]; omega) (by rw [gen_len n (by omega)]; omega) (gen_head n (by omega))).mono ?_
  rintro e w5 ⟨q, r, rem, rfl, hr, hrl, hst, hm5⟩
  rw [gen_len n (by omega)] at hrl
  obtain ⟨rB, roff, rcap, hr⟩ := hr
  have hr1 := hr.c1
  obtain ⟨m, hm⟩ : ∃ m, rem.length = m := ⟨_, rfl⟩
  rw [hm] at hr1 hrl
  have hmn : m ≤ n := by omega
  obtain ⟨z, hz⟩ : ∃ z, n - m = z := ⟨_, rfl⟩
  have hsub2 : (n : Int) - (m : Int) = (z : Int) := by omega
  have hb5 := (hm5).blk (fun f => f) (Hm4.out.blk (fun f => f) (Hm3.out.blk (fun f => f) (HM2.out.blk (fun f => f) Hb1.out)))
  have HM5 := Lib.hid (HM2.out.trans (Hm3.out.trans (Hm4.out.trans hm5)))
  have hrB := hr.xB
  have Hr := Lib.hid hr
  have Hst := Lib.hid hst
  have Hm5 := Lib.hid hm5
  have Hm := Lib.hid hm
  have Hz := Lib.hid hz
  have Hb5 := Lib.hid hb5
  clear hr hst hm5 hm hz hb5
  go_wp2_with fail
  refine (GenericGFPoly_GetCoefficients_c w5 r 0 _ hr1).mono ?_
  rintro e w6 ⟨rfl, rfl⟩
  go_wp2_with fail
  go_loopw [17] (fun a wr => ∃ k : Nat, k ≤ z ∧ a = .int .i64 k ∧ Blk wr T (cellsN .i64 (data ++ List.replicate n 0)) ∧ QZ.Mod (· = T) w5 wr) (fun a _ => z - (intOf a).toNat)
  case atStart => exact ⟨0, by omega, rfl, Hb5.out, QZ.Mod.refl _ _⟩
  case round =>
    obtain ⟨k, hk, rfl, hbk, hmk⟩ := hrel
    clear hr1
    by_cases hlt : k < z
    · have hcell := hbk.cell (dl + k)
      rw [cellsN_get _ _ _ (by rw [List.length_append, List.length_replicate, Hdl.out]; omega)] at hcell
      have hfr := hbk.frozen (dl + k)
      have hb2 := hbk.set (dl + k) (.int .i64 (0 : Nat))
      rw [cellsN_set, ← Hdl.out, zeros_set data n k (by omega)] at hb2
      rw [Hdl.out] at hb2
      have hm2 := hmk.setCell (p := ⟨T, dl + k, none⟩) (.inr rfl) (.int .i64 (0 : Nat))
      generalize nth (data ++ List.replicate n 0) (dl + k) = old at *
      have Hb2 := Lib.hid hb2
      have Hm2 := Lib.hid hm2
      clear hb2 hm2
      clear hbk hmk
      go_wp2_with fail
      go_roundw
      case rel => exact ⟨k + 1, by omega, by go_num, Hb2.out, Hm2.out⟩
      case measure => simp [intOf]; omega
    · obtain rfl : k = z := by omega
      have hrd := Hr.out.cells.mod hmk hrB
      have Hsrc : Hid (∀ j v, (cellsN .i64 rem)[j]? = some v → wr.cell? ((⟨rB, roff, none⟩ : Addr).add j) = some v) := by
        intro j v hv
        have hj : j < (cellsN .i64 rem).length := (List.getElem?_eq_some_iff.1 hv).1
        rw [cellsN_length] at hj
        rw [cellsN_get _ _ _ hj] at hv
        rw [Addr.add_lit, hrd j hj, ← hv]
      have Hlc : Hid ((cellsN .i64 rem).length = Nat.min m (L - (dl + k))) := by
        show _ = _
        rw [cellsN_length, Hm.out]; have := Hz.out; have := HL.out; simp only [Nat.min_def]; split <;> omega
      have Hfit : Hid (dl + k + (cellsN .i64 rem).length ≤ (cellsN .i64 (data ++ List.replicate n 0)).length) := by
        show _ ≤ _
        rw [cellsN_length, cellsN_length, List.length_append, List.length_replicate, Hm.out, Hdl.out]; have := Hz.out; omega
      have hm0 := Hr.out.neat.1
      rw [Hm.out] at hm0
      have hdk : dl + k ≤ L := by have := HL.out; have := Hz.out; omega
      have hne : ¬ (L = dl + k) := by have := HL.out; have := Hz.out; omega
      have hne2 : ¬ (dl + k = L) := fun h => hne h.symm
      have Hbk := Lib.hid hbk
      have Hmk := Lib.hid hmk
      have Hrd := Lib.hid hrd
      clear hbk hmk hrd
      go_wp2_with (with_reducible refine wpList_cp rfl (.tmp 81) (.tmp 82) 117 117 rfl 3 Tryz.underlying117 (by kernel_rfl) _ _ _ _ _ _ rfl rfl T (dl + k) _ Hbk.out (cellsN .i64 rem) Hlc.out (fun _ => ⟨rfl, _, rfl, Hsrc.out⟩) Hfit.out (cellsN_one _ _) ?_; intro w8 hb8 hm8)
      go_ret
      have hb8' := hb8.out
      rw [cellsN_splice, ← Hz.out, ← Hm.out, ← Hdl.out, splice_tail _ _ _ (by rw [Hm.out]; exact hmn)] at hb8'
      refine ⟨rfl, rem, Hr.out.small, by rw [Hm.out]; exact hmn, fun a ha h0 => ?_, hb8', ?_⟩
      · rw [Hst.out a ha h0, ev_stripped a data n Hs.out]
      · have h1 := (QZ.Mod.none HM5.out : QZ.Mod (· = T) w1 w5)
        have h2 := (h1.trans Hmk.out).trans hm8.out
        exact (Hm1.out.mono (fun k _ hk => .inr hk)).trans (h2.mono (fun k _ hk => .inl hk))
end Go.Proofs.YtnpkihobbcglcaaGreatDoor
/- The error correction words of a block. -/
open Go Go.RowKit
namespace Go.Proofs.YtnpkihobbcglcaaGreatDoor
open Go.QZ

theorem i32 : (Tryz.prog.info? 5).map (fun i => (i.zero, i.size, i.bytes)) = some (some (.int .u8 0), 1, 1) := by kernel_rfl
theorem made_u8 (w : World) (n : Nat) : Blk (w.alloc (zrow 5 (.int .u8 0) n)) w.heap.size (cellsN .u8 (List.replicate n 0)) := by
  have := Blk.made w 5 (.int .u8 0) n
  rwa [show List.replicate n (Value.int .u8 0) = cellsN .u8 (List.replicate n 0) from cellsN_rep .u8 n 0] at this

/-- The error correction words that are made. -/
def IsEc (n : Nat) (data ec : List Nat) : Prop := ec.length = n ∧ Small ec ∧ ∀ i, i < n → ev (nth expL i) (data ++ ec) = 0

/-- A list of which the first k are those of another one. -/
def frontTo (xs : List Nat) (k m : Nat) : List Nat := xs.take k ++ List.replicate (m - k) 0
theorem frontTo_len (xs : List Nat) (k m : Nat) (h : k ≤ xs.length) (hm : k ≤ m) : (frontTo xs k m).length = m := by
  unfold frontTo; rw [List.length_append, List.length_take, List.length_replicate]; omega
theorem frontTo_succ (xs : List Nat) (k m : Nat) (h : k < xs.length) (hm : k < m) : (frontTo xs k m).set k (nth xs k) = frontTo xs (k + 1) m := by
  unfold frontTo
  rw [List.set_append_right _ _ (by rw [List.length_take]; omega), List.length_take, Nat.min_eq_left (by omega), Nat.sub_self, show m - k = (m - (k + 1)) + 1 by omega, List.replicate_succ, List.set_cons_zero, List.take_succ_eq_append_getElem h, List.append_assoc]
  simp [nth, List.getD_eq_getElem?_getD, h]
theorem frontTo_zero (xs : List Nat) (m : Nat) : frontTo xs 0 m = List.replicate m 0 := by unfold frontTo; simp
theorem frontTo_all (xs : List Nat) (m : Nat) (_h : xs.length ≤ m) : frontTo xs xs.length m = xs ++ List.replicate (m - xs.length) 0 := by unfold frontTo; rw [List.take_length]

theorem and255i (y : Nat) (h : y < 256) : bits .and .i64 (y : Int) 255 = (y : Int) := by
  have := (bits_nat .i64 63 (by decide) (fun n h0 h1 => by rw [IntKind.wrap_i64]; omega) y 255 (by omega) (by decide)).1
  rw [show ((255 : Nat) : Int) = 255 from rfl] at this
  rw [this, show y &&& 255 = y from by rw [show (255 : Nat) = 2 ^ 8 - 1 from rfl, Nat.and_two_pow_sub_one_eq_mod]; exact Nat.mod_eq_of_lt h]

theorem nth_app_rightQ (a b : List Nat) (i : Nat) : nth (a ++ b) (a.length + i) = nth b i := by
  unfold nth; rw [List.getD_eq_getElem?_getD, List.getD_eq_getElem?_getD, List.getElem?_append_right (by omega), Nat.add_sub_cancel_left]
/-- New words are handed back. -/
def NewEc (w : World) (n : Nat) (data : List Nat) (e : Ending) (w' : World) : Prop :=
  ∃ C ec, e = .returned (.tuple #[.slice (some ⟨C, 0, none⟩) n n, .nilIface]) ∧ IsEc n data ec ∧ Blk w' C (cellsN .u8 ec) ∧ w.heap.size ≤ C ∧ QZ.Mod (fun _ => False) w w'

set_option maxRecDepth 20000 in
set_option maxHeartbeats 1600000 in
theorem genEc_c (w : World) (D L n : Nat) (data : List Nat) (hb : Blk w D (cellsN .u8 data)) (hL : data.length = L) (hs : Small data) (h0 : 0 < L) (h1 : L ≤ 500) (hn : 1 ≤ n) (hn2 : n ≤ 30) :
    Calls Tryz.prog 99 #[.slice (some ⟨D, 0, none⟩) L L, .int .i64 n] w (NewEc w n data) := by
  have hmk := make_run (P := Tryz.prog) Tryz.underlying117 i117 rfl ((L : Int) + (n : Int)) ((L : Int) + (n : Int)) (L + n) (L + n) (by omega) (by omega) (Nat.le_refl _) (by omega) (by omega)
  have hmk2 := make_run (P := Tryz.prog) Tryz.underlying32 i32 rfl (n : Int) (n : Int) n n rfl rfl (Nat.le_refl _) (by omega) (by omega)
  have Hb := Lib.hid hb; have HL := Lib.hid hL; have Hs := Lib.hid hs
  have Hmk2 := Lib.hid hmk2
  clear hb hL hs hmk2
  go_enter Tryz.func99, Tryz.ntmps99
  go_wp2_with fail
  clear hmk
  have Hb0 : Hid (Blk (w.alloc (zrow 3 (.int .i64 0) (L + n))) w.heap.size (cellsN .i64 (frontTo data 0 (L + n)))) := by
    show Blk _ _ _
    rw [frontTo_zero]; exact made_i64 _ _
  go_loopw [8] (fun a wr => ∃ k : Nat, k ≤ L ∧ a = .int .i64 k ∧ Blk wr w.heap.size (cellsN .i64 (frontTo data k (L + n))) ∧ QZ.Mod (fun _ => False) w wr) (fun a _ => L - (intOf a).toNat)
  case atStart => exact ⟨0, by omega, rfl, Hb0.out, (QZ.Mod.refl _ _).alloc _⟩
  case round =>
    obtain ⟨k, hk, rfl, hb, hm⟩ := hrel
    by_cases hlt : k < L
    · have hkd : k < data.length := by have := HL.out; omega
      have cx := (Hb.out.mod' hm).cell k
      rw [cellsN_get _ _ _ hkd] at cx
      have hx := small_nth Hs.out k
      have ha := and255i _ hx
      have hcell := hb.cell k
      rw [cellsN_get _ _ _ (by rw [frontTo_len _ _ _ (by omega) (by omega)]; omega)] at hcell
      have hfr := hb.frozen k
      have hb2 := hb.set k (.int .i64 (nth data k : Nat))
      rw [cellsN_set, frontTo_succ _ _ _ hkd (by omega)] at hb2
      have hm2 := hm.setCell (p := ⟨w.heap.size, k, none⟩) (.inl (Nat.le_refl _)) (.int .i64 (nth data k : Nat))
      generalize nth data k = x at *
      generalize nth (frontTo data k (L + n)) k = old at *
      have Hb2 := Lib.hid hb2
      have Hm2 := Lib.hid hm2
      clear hb2 hm2
      clear hb hm
      go_wp2_with fail
      go_roundw
      case rel => exact ⟨k + 1, by omega, by go_num, Hb2.out, Hm2.out⟩
      case measure => simp [intOf]; omega
    · obtain rfl : k = L := by omega
      have hfull : frontTo data k (k + n) = data ++ List.replicate n 0 := by
        have := frontTo_all data (k + n) (by have := HL.out; omega)
        rw [HL.out] at this
        rwa [Nat.add_sub_cancel_left] at this
      rw [hfull] at hb
      have hTl := hb.lt
      have Hb := Lib.hid hb
      have Hm := Lib.hid hm
      have Hfull := Lib.hid hfull
      have HTl := Lib.hid hTl
      clear hb hm hfull hTl
      go_wp2_with fail
      have hqr : Calls Tryz.prog 76 #[] wr (NewField wr) := by
        go_enter Tryz.func76, Tryz.ntmps76
        go_wp2_with fail
        refine ((newGF_c wr)).mono ?_
        rintro e w1 ⟨F, rfl, hF, hfl, hm⟩
        have HF := Lib.hid hF
        have Hfl := Lib.hid hfl
        have Hm := Lib.hid hm
        clear hF hfl hm
        go_wp2_with fail
        go_ret
        exact ⟨F, rfl, HF.out, Hfl.out, Hm.out⟩
      refine hqr.mono ?_
      rintro e w2 ⟨F, rfl, hFg, hFl, hm2⟩
      have hFl2 := hFl.full
      have HFg := Lib.hid hFg
      have HFl := Lib.hid hFl
      have Hm2 := Lib.hid hm2
      have HFl2 := Lib.hid hFl2
      clear hFg hFl hm2 hFl2
      clear hqr
      go_wp2_with fail
      refine (newEnc_c w2 F (HFl2.out.weak (fun k hk => .inr hk))).mono ?_
      rintro e w3 ⟨⟨G, rfl, hE⟩, hm3⟩
      have hFT : Fld (fun k => k = w.heap.size ∨ w2.heap.size ≤ k) w3 F := (HFl2.out.weak (fun k hk => hk.elim (fun e => .inl (by rw [e]; exact HTl.out)) .inr)).new hm3
      have hb3 := (Hb.out.mod' Hm2.out).mod' hm3
      have HE := Lib.hid hE
      have Hm3 := Lib.hid hm3
      have HFT := Lib.hid hFT
      have Hb3 := Lib.hid hb3
      clear hE hm3 hFT hb3
      go_wp2_with fail
      refine (rsEnc_c w3 w2.heap.size G F w.heap.size n (k + n) data HE.out Hb3.out (by have := HTl.out; have := Hm2.out.size; omega) Hs.out (by rw [HL.out]; exact h0) (by rw [HL.out]; omega) hn hn2 (by rw [HL.out]) HFT.out).mono ?_
      rintro e w4 ⟨rfl, rem, hrs, hrl, hst, hb4, hm4⟩
      have hec : IsEc n data (List.replicate (n - rem.length) 0 ++ rem) := ⟨by rw [List.length_append, List.length_replicate]; omega, (small_zeros _).app hrs, fun i hi => rs_zero data rem n (by omega) Hs.out hrs hrl hst i hi⟩
      obtain ⟨ec, hecc⟩ : ∃ ec, List.replicate (n - rem.length) 0 ++ rem = ec := ⟨_, rfl⟩
      rw [hecc] at hec hb4
      have hM4 : QZ.Mod (fun _ => False) w w4 := ((Hm.out.trans (Hm2.out.trans Hm3.out))).new hm4 (fun k hk => by
        rcases hk with e | e
        · rw [e]; exact Nat.le_refl _
        · have h1 := Hm.out.size; have h2 := Hm2.out.size; omega)
      have Hec := Lib.hid hec
      have Hb4 := Lib.hid hb4
      have HM4 := Lib.hid hM4
      clear hec hb4 hM4
      clear hm4 hst hrl hrs hecc
      have hmk2 := Hmk2.out
      go_wp2_with fail
      clear hmk2
      have Hc0 : Hid (Blk (w4.alloc (zrow 5 (.int .u8 0) n)) w4.heap.size (cellsN .u8 (frontTo ec 0 n))) := by
        show Blk _ _ _
        rw [frontTo_zero]; exact made_u8 _ _
      go_loopw [11] (fun a wr => ∃ j : Nat, j ≤ n ∧ a = .int .i64 j ∧ Blk wr w4.heap.size (cellsN .u8 (frontTo ec j n)) ∧ QZ.Mod (fun _ => False) w4 wr) (fun a _ => n - (intOf a).toNat)
      case atStart => exact ⟨0, by omega, rfl, Hc0.out, (QZ.Mod.refl _ _).alloc _⟩
      case round =>
        obtain ⟨j, hj, rfl, hb, hm⟩ := hrel
        by_cases hjl : j < n
        · have hje : j < ec.length := by rw [Hec.out.1]; exact hjl
          have cx := (Hb4.out.mod' hm).cell (k + j)
          rw [cellsN_get _ _ _ (by rw [List.length_append, HL.out]; omega), ← HL.out, nth_app_rightQ, HL.out] at cx
          have hx := small_nth Hec.out.2.1 j
          have hcell := hb.cell j
          rw [cellsN_get _ _ _ (by rw [frontTo_len _ _ _ (by omega) (by omega)]; omega)] at hcell
          have hfr := hb.frozen j
          have hb2 := hb.set j (.int .u8 (nth ec j : Nat))
          rw [cellsN_set, frontTo_succ _ _ _ hje hjl] at hb2
          have hm2 := hm.setCell (p := ⟨w4.heap.size, j, none⟩) (.inl (Nat.le_refl _)) (.int .u8 (nth ec j : Nat))
          generalize nth ec j = x at *
          generalize nth (frontTo ec j n) j = old at *
          have Hb2 := Lib.hid hb2
          have Hm2 := Lib.hid hm2
          clear hb2 hm2
          clear hb hm
          go_wp2_with fail
          go_roundw
          case rel => exact ⟨j + 1, by omega, by go_num, Hb2.out, Hm2.out⟩
          case measure => simp [intOf]; omega
        · obtain rfl : j = n := by omega
          have hfu := frontTo_all ec j (by rw [Hec.out.1]; exact Nat.le_refl _)
          rw [Hec.out.1, Nat.sub_self, List.replicate_zero, List.append_nil] at hfu
          rw [hfu] at hb
          have Hb_1 := Lib.hid hb
          have Hm_1 := Lib.hid hm
          have Hfu := Lib.hid hfu
          clear hb hm hfu
          go_wp2_with fail
          go_ret2
          exact ⟨w4.heap.size, ec, rfl, Hec.out, Hb_1.out, by have := HM4.out.size; exact this, HM4.out.trans Hm_1.out⟩
end Go.Proofs.YtnpkihobbcglcaaGreatDoor
