/- Part 26 of the proof of FnPXQuick (a QR code that is written for a text says this text in a picture): parts of the road. No condition. -/
import Derived.Lib.Builder
import Derived.Deep.LoopGhost
import Derived.Test.YtnpkihobbcglcaaGreatDoorG09
import Derived.Test.YtnpkihobbcglcaaGreatDoorG25
open Go Go.RowKit
namespace Go.Proofs.YtnpkihobbcglcaaGreatDoor
open Go.QZ

/-- The sum of a shorter polynomial and a longer one. -/
def sumL (s l : List Nat) : List Nat := l.take (l.length - s.length) ++ addL s (l.drop (l.length - s.length))
theorem sumL_len (s l : List Nat) (h : s.length ≤ l.length) : (sumL s l).length = l.length := by
  unfold sumL addL
  rw [List.length_append, List.length_take, List.length_zipWith, List.length_drop]; omega
theorem sumL_small {s l : List Nat} (hs : Small s) (hl : Small l) : Small (sumL s l) :=
  Small.app (fun x hx => hl x (List.mem_of_mem_take hx)) (small_add hs (fun x hx => hl x (List.mem_of_mem_drop hx)))
theorem sumL_eq (s l : List Nat) (h : s.length = l.length) : sumL s l = addL s l := by unfold sumL; rw [h, Nat.sub_self]; rfl
/-- Of which the first k are there, the others 0. -/
def sumTo (s l : List Nat) (k : Nat) : List Nat := (sumL s l).take k ++ List.replicate (l.length - k) 0
theorem sumTo_len (s l : List Nat) (h : s.length ≤ l.length) (k : Nat) (hk : k ≤ l.length) : (sumTo s l k).length = l.length := by
  unfold sumTo; rw [List.length_append, List.length_take, sumL_len s l h, List.length_replicate]; omega
theorem sumTo_succ (s l : List Nat) (h : s.length ≤ l.length) (k : Nat) (hk : k < l.length) (hd : l.length - s.length ≤ k) : (sumTo s l k).set k (xorN (nth s (k - (l.length - s.length))) (nth l k)) = sumTo s l (k + 1) := by
  have hlen := sumL_len s l h
  unfold sumTo
  rw [List.set_append_right _ _ (by rw [List.length_take]; omega), List.length_take, hlen, Nat.min_eq_left (by omega), Nat.sub_self, List.take_succ_eq_append_getElem (by omega), show l.length - k = (l.length - (k + 1)) + 1 by omega, List.replicate_succ, List.set_cons_zero, List.append_assoc]
  congr 2
  have e : (sumL s l)[k]'(by omega) = xorN (nth s (k - (l.length - s.length))) (nth l k) := by
    unfold sumL addL
    rw [List.getElem_append_right (by rw [List.length_take]; omega), List.getElem_zipWith, List.getElem_drop]
    have h1 : k - (l.length - s.length) < s.length := by omega
    simp only [nth, List.getD_eq_getElem?_getD]
    rw [List.getElem?_eq_getElem h1, List.getElem?_eq_getElem hk]
    simp only [Option.getD_some, List.length_take]
    congr 2 <;> omega
  rw [e]
theorem sumTo_all (s l : List Nat) (h : s.length ≤ l.length) : sumTo s l l.length = sumL s l := by
  unfold sumTo; rw [List.take_of_length_le (by rw [sumL_len s l h]; exact Nat.le_refl _), Nat.sub_self]; simp
theorem sumTo_start (s l : List Nat) : sumTo s l (l.length - s.length) = splice (List.replicate l.length 0) 0 (l.take (l.length - s.length)) := by
  unfold sumTo sumL splice
  rw [List.take_append_of_le_length (by rw [List.length_take]; omega), List.take_take, Nat.min_self]
  simp only [List.take_zero, List.nil_append, List.drop_replicate, List.length_take, Nat.zero_add]
  congr 2; omega
theorem splice_map {α β : Type} (f : α → β) (cur : List α) (off : Nat) (cs : List α) : (splice cur off cs).map f = splice (cur.map f) off (cs.map f) := by
  unfold splice; simp [List.map_take, List.map_drop]
theorem cellsN_splice (k : IntKind) (cur : List Nat) (off : Nat) (cs : List Nat) : splice (cellsN k cur) off (cellsN k cs) = cellsN k (splice cur off cs) := by
  unfold cellsN; rw [splice_map]
theorem cellsN_one (k : IntKind) (cs : List Nat) : ∀ v ∈ cellsN k cs, v.oneCell' = true := by
  intro v hv; simp only [cellsN, List.mem_map] at hv; obtain ⟨x, _, rfl⟩ := hv; rfl

/-- The sum, shorter or longer. -/
def addP (p q : List Nat) : List Nat := if p.length ≤ q.length then sumL p q else sumL q p

theorem field_neq (F : Nat) (w : World) : (binOp .neq 139 (.pointer (some ⟨F, 0, none⟩)) (.pointer (some ⟨F, 0, none⟩))).run Tryz.prog w = .ok (.bool false) w := by
  obtain ⟨i, hi⟩ : ∃ i, Tryz.prog.info? 242 = some i := Option.isSome_iff_exists.1 (by kernel_rfl)
  exact Lib.run_neq_ptr_same _ _ Tryz.underlying139 hi

set_option maxRecDepth 20000 in
set_option maxHeartbeats 3200000 in
theorem add_le (X : Nat → Prop) (w : World) (F p q : Nat) (ps qs : List Nat) (hX : ∀ k, X k → k < w.heap.size) (hp : Poly X w F p ps) (hq : Poly X w F q qs) (hlp : ps.length ≤ 10000) (hlq : qs.length ≤ 10000) (hp0 : nth ps 0 ≠ 0) (hq0 : nth qs 0 ≠ 0) (hle : ps.length ≤ qs.length) :
    Calls Tryz.prog 210 #[.pointer (some ⟨p, 0, none⟩), .pointer (some ⟨q, 0, none⟩)] w (GotPoly X w F (strip (sumL ps qs))) := by
  have HP := Lib.hid hp; have HQ := Lib.hid hq
  obtain ⟨B, off, cap, hp⟩ := hp
  obtain ⟨C, offq, capq, hq⟩ := hq
  have p0 := hp.c0; have p1 := hp.c1; have q0 := hq.c0; have q1 := hq.c1
  have HBp := Lib.hid hp; have HBq := Lib.hid hq; have HX := Lib.hid hX
  have hn := hp.neat.1; have hnq := hq.neat.1
  have hcp := hp.capl; have hcq := hq.capl
  have Hd0 := Lib.hid (decide_eq_false hp0); have Hd1 := Lib.hid (decide_eq_false hq0)
  clear hp hq hX hp0 hq0
  have tt : decide (qs.length < ps.length) = false := by simp; omega
  obtain ⟨df, hdf⟩ : ∃ df, qs.length - ps.length = df := ⟨_, rfl⟩
  have hsub : (qs.length : Int) - (ps.length : Int) = (df : Int) := by omega
  have hdl : df + ps.length = qs.length := by omega
  have Hdf := Lib.hid hdf; clear hdf
  have hmk := make_run (P := Tryz.prog) Tryz.underlying117 i117 rfl (qs.length : Int) (qs.length : Int) qs.length qs.length rfl rfl (Nat.le_refl _) (by omega) (by omega)
  have Hle : Hid (ps.length ≤ qs.length) := by show _ ≤ _; omega
  have fneq := field_neq F
  go_enter Tryz.func210, Tryz.ntmps210
  go_wp2_with fail
  go_quiet (fail)
  clear fneq
  go_wp2_with fail
  refine ((isZero_c X (w.drewN nq) F p ps (HP.out.new (mod_drewN _ _ _)))).mono ?_
  rintro e w1 ⟨rfl, rfl⟩
  rw [Hd0.out]
  go_wp2_with fail
  refine ((isZero_c X (w.drewN nq) F q qs (HQ.out.new (mod_drewN _ _ _)))).mono ?_
  rintro e w1 ⟨rfl, rfl⟩
  rw [Hd1.out]
  have Hm0 := Lib.hid (mod_drewN (fun _ => False) w nq)
  have hz : (w.drewN nq).heap.size = w.heap.size := rfl
  have Hold : Hid (∀ k, X k → k < (w.drewN nq).heap.size) := HX.out
  have p0 := cell_mod Hm0.out (fun f => f) HBp.out.c0
  have p1 := cell_mod Hm0.out (fun f => f) HBp.out.c1
  have q0 := cell_mod Hm0.out (fun f => f) HBq.out.c0
  have q1 := cell_mod Hm0.out (fun f => f) HBq.out.c1
  have z0 := cell_mod Hm0.out (fun f => f) HBp.out.c0
  have HSr := Lib.hid (HBp.out.cells.mod Hm0.out (fun f => f)); have HLr := Lib.hid (HBq.out.cells.mod Hm0.out (fun f => f))
  clear hz
  generalize w.drewN nq = w1 at *
  have Hnew := Lib.hid (made_i64 w1 qs.length)
  have HLr1 := Lib.hid (HLr.out.mod ((QZ.Mod.refl (fun _ => False) w1).alloc (zrow 3 (.int .i64 0) qs.length)) (fun f => f))
  have Hlc : Hid ((cellsN .i64 (qs.take df)).length = Nat.min df qs.length) := by
    show (cellsN .i64 (qs.take df)).length = _
    rw [cellsN_length, List.length_take]
  have Hsrc : Hid (∀ j v, (cellsN .i64 (qs.take df))[j]? = some v → (w1.alloc (zrow 3 (.int .i64 0) qs.length)).cell? ((⟨C, offq, none⟩ : Addr).add j) = some v) := by
    intro j v hv
    have hj : j < (cellsN .i64 (qs.take df)).length := (List.getElem?_eq_some_iff.1 hv).1
    rw [cellsN_length, List.length_take] at hj
    rw [cellsN_get _ _ _ (by rw [List.length_take]; exact hj)] at hv
    rw [Addr.add_lit, HLr1.out j (by omega), ← hv]
    congr 2
    simp [nth, List.getD_eq_getElem?_getD, show j < df by omega]
  have Hfit : Hid (0 + (cellsN .i64 (qs.take df)).length ≤ (cellsN .i64 (List.replicate qs.length 0)).length) := by
    show 0 + _ ≤ _
    rw [cellsN_length, cellsN_length, List.length_take, List.length_replicate]; omega
  go_wp2_with (with_reducible refine wpList_cp rfl (.tmp 50) (.tmp 53) 117 117 rfl 3 Tryz.underlying117 (by kernel_rfl) _ _ _ _ _ _ rfl rfl w1.heap.size 0 _ Hnew.out (cellsN .i64 (qs.take df)) Hlc.out (fun _ => ⟨rfl, _, rfl, Hsrc.out⟩) Hfit.out (cellsN_one _ _) ?_; intro w2 hb2 hm2)
  have hst := hb2.out
  rw [cellsN_splice] at hst
  have Hst : Hid (Blk w2 w1.heap.size (cellsN .i64 (sumTo ps qs df))) := by
    show Blk _ _ _
    rw [← Hdf.out, sumTo_start, Hdf.out]; exact hst
  have Hm2 := Lib.hid (Mod.keep ((QZ.Mod.refl (fun _ => False) w1).alloc (zrow 3 (.int .i64 0) qs.length)) hm2.out (Nat.le_refl _))
  clear hst hb2 hm2 hmk
  go_loopw [10] (fun i wr => ∃ k : Nat, df ≤ k ∧ k ≤ qs.length ∧ i = .int .i64 k ∧ Blk wr w1.heap.size (cellsN .i64 (sumTo ps qs k)) ∧ QZ.Mod (fun _ => False) w1 wr) (fun i _ => qs.length - (intOf i).toNat)
  case atStart => exact ⟨df, by omega, by omega, rfl, Hst.out, Hm2.out⟩
  case round =>
    obtain ⟨k, hk1, hk, rfl, hb, hm⟩ := hrel
    by_cases hlt : k < qs.length
    · obtain ⟨i, hi⟩ : ∃ i, k - df = i := ⟨_, rfl⟩
      have hi2 : (k : Int) - (df : Int) = (i : Int) := by omega
      have hil : i < ps.length := by omega
      have hwi : IntKind.i64.wrap (i : Int) = (i : Int) := IntWalk.i64_in _ (by omega)
      have hii : (i : Int) < (ps.length : Int) := by omega
      have cS := cell_mod hm (fun f => f) (HSr.out i hil)
      have cL := cell_mod hm (fun f => f) (HLr.out k hlt)
      have hxS := HBp.out.lt i
      have hxL := HBq.out.lt k
      have hcell := hb.cell k
      rw [cellsN_get _ _ _ (by rw [sumTo_len _ _ Hle.out _ hk]; omega)] at hcell
      have hfr := hb.frozen k
      have hb2 := fun n => (blk_drewN hb n).set k (.int .i64 (xorN (nth ps i) (nth qs k) : Nat))
      have hss := sumTo_succ ps qs Hle.out k hlt (by rw [Hdf.out]; exact hk1)
      rw [Hdf.out, hi] at hss
      rw [cellsN_set, hss] at hb2
      have Hb2 := Lib.hid hb2
      have Hm3 := Lib.hid (fun n => (Mod.drewN hm n).setCell (p := ⟨w1.heap.size, k, none⟩) (.inl (Nat.le_refl _)) (.int .i64 (xorN (nth ps i) (nth qs k) : Nat)))
      generalize nth ps i = x at *
      generalize nth qs k = y at *
      generalize nth (sumTo ps qs k) k = old at *
      clear hb hm hb2 hss hi p0 p1 q0 q1 z0
      go_wp2_with fail
      go_region_with (go_at_call 242; refine (gfAdd_c _ x y hxS hxL).mono ?_; rintro e w5 ⟨rfl, rfl⟩)
      all_goals (
        go_wp2_with fail
        go_roundw
        case rel => exact ⟨k + 1, by omega, by omega, by go_num, Hb2.out _, Hm3.out _⟩
        case measure => simp [intOf]; omega)
    · obtain rfl : k = qs.length := by omega
      have c0 := cell_mod hm (fun f => f) z0
      rw [sumTo_all _ _ Hle.out] at hb
      have hrd := RdN.of_blk hb
      have HH := Lib.hid (show ¬ X w1.heap.size from fun h => by have := Hold.out _ h; omega)
      have HX2 : Hid (∀ k, X k → k < wr.heap.size) := fun k hk => Nat.lt_of_lt_of_le (Hold.out k hk) hm.size
      have Hm := Lib.hid hm
      have Hb := Lib.hid hb
      have Hrd := Lib.hid hrd
      clear hm hb hrd
      clear p0 p1 q0 q1 z0
      go_wp2_with fail
      refine ((newPoly_n X wr F _ 0 _ _ (sumL ps qs) (sumL_len _ _ Hle.out) HX2.out Hrd.out (by omega) (by omega) (sumL_small HBp.out.small HBq.out.small) HH.out (Nat.le_refl _))).mono ?_
      rintro e w5 ⟨r, rfl, hr, hm5⟩
      have Hr := Lib.hid hr
      have Hm5 := Lib.hid hm5
      clear hr hm5
      go_wp2_with fail
      go_ret2
      exact ⟨r, rfl, Hr.out, Hm0.out.trans (Hm.out.trans Hm5.out)⟩

set_option maxRecDepth 20000 in
set_option maxHeartbeats 3200000 in
theorem add_gt (X : Nat → Prop) (w : World) (F p q : Nat) (ps qs : List Nat) (hX : ∀ k, X k → k < w.heap.size) (hp : Poly X w F p ps) (hq : Poly X w F q qs) (hlp : ps.length ≤ 10000) (hlq : qs.length ≤ 10000) (hp0 : nth ps 0 ≠ 0) (hq0 : nth qs 0 ≠ 0) (hle : qs.length < ps.length) :
    Calls Tryz.prog 210 #[.pointer (some ⟨p, 0, none⟩), .pointer (some ⟨q, 0, none⟩)] w (GotPoly X w F (strip (sumL qs ps))) := by
  have HP := Lib.hid hp; have HQ := Lib.hid hq
  obtain ⟨B, off, cap, hp⟩ := hp
  obtain ⟨C, offq, capq, hq⟩ := hq
  have p0 := hp.c0; have p1 := hp.c1; have q0 := hq.c0; have q1 := hq.c1
  have HBp := Lib.hid hp; have HBq := Lib.hid hq; have HX := Lib.hid hX
  have hn := hp.neat.1; have hnq := hq.neat.1
  have hcp := hp.capl; have hcq := hq.capl
  have Hd0 := Lib.hid (decide_eq_false hp0); have Hd1 := Lib.hid (decide_eq_false hq0)
  clear hp hq hX hp0 hq0
  have tt : decide (qs.length < ps.length) = true := by simp; omega
  obtain ⟨df, hdf⟩ : ∃ df, ps.length - qs.length = df := ⟨_, rfl⟩
  have hsub : (ps.length : Int) - (qs.length : Int) = (df : Int) := by omega
  have hdl : df + qs.length = ps.length := by omega
  have Hdf := Lib.hid hdf; clear hdf
  have hmk := make_run (P := Tryz.prog) Tryz.underlying117 i117 rfl (ps.length : Int) (ps.length : Int) ps.length ps.length rfl rfl (Nat.le_refl _) (by omega) (by omega)
  have Hle : Hid (qs.length ≤ ps.length) := by show _ ≤ _; omega
  have fneq := field_neq F
  go_enter Tryz.func210, Tryz.ntmps210
  go_wp2_with fail
  go_quiet (fail)
  clear fneq
  go_wp2_with fail
  refine ((isZero_c X (w.drewN nq) F p ps (HP.out.new (mod_drewN _ _ _)))).mono ?_
  rintro e w1 ⟨rfl, rfl⟩
  rw [Hd0.out]
  go_wp2_with fail
  refine ((isZero_c X (w.drewN nq) F q qs (HQ.out.new (mod_drewN _ _ _)))).mono ?_
  rintro e w1 ⟨rfl, rfl⟩
  rw [Hd1.out]
  have Hm0 := Lib.hid (mod_drewN (fun _ => False) w nq)
  have hz : (w.drewN nq).heap.size = w.heap.size := rfl
  have Hold : Hid (∀ k, X k → k < (w.drewN nq).heap.size) := HX.out
  have p0 := cell_mod Hm0.out (fun f => f) HBq.out.c0
  have p1 := cell_mod Hm0.out (fun f => f) HBq.out.c1
  have q0 := cell_mod Hm0.out (fun f => f) HBp.out.c0
  have q1 := cell_mod Hm0.out (fun f => f) HBp.out.c1
  have z0 := cell_mod Hm0.out (fun f => f) HBp.out.c0
  have HSr := Lib.hid (HBq.out.cells.mod Hm0.out (fun f => f)); have HLr := Lib.hid (HBp.out.cells.mod Hm0.out (fun f => f))
  clear hz
  generalize w.drewN nq = w1 at *
  have Hnew := Lib.hid (made_i64 w1 ps.length)
  have HLr1 := Lib.hid (HLr.out.mod ((QZ.Mod.refl (fun _ => False) w1).alloc (zrow 3 (.int .i64 0) ps.length)) (fun f => f))
  have Hlc : Hid ((cellsN .i64 (ps.take df)).length = Nat.min df ps.length) := by
    show (cellsN .i64 (ps.take df)).length = _
    rw [cellsN_length, List.length_take]
  have Hsrc : Hid (∀ j v, (cellsN .i64 (ps.take df))[j]? = some v → (w1.alloc (zrow 3 (.int .i64 0) ps.length)).cell? ((⟨B, off, none⟩ : Addr).add j) = some v) := by
    intro j v hv
    have hj : j < (cellsN .i64 (ps.take df)).length := (List.getElem?_eq_some_iff.1 hv).1
    rw [cellsN_length, List.length_take] at hj
    rw [cellsN_get _ _ _ (by rw [List.length_take]; exact hj)] at hv
    rw [Addr.add_lit, HLr1.out j (by omega), ← hv]
    congr 2
    simp [nth, List.getD_eq_getElem?_getD, show j < df by omega]
  have Hfit : Hid (0 + (cellsN .i64 (ps.take df)).length ≤ (cellsN .i64 (List.replicate ps.length 0)).length) := by
    show 0 + _ ≤ _
    rw [cellsN_length, cellsN_length, List.length_take, List.length_replicate]; omega
  go_wp2_with (with_reducible refine wpList_cp rfl (.tmp 50) (.tmp 53) 117 117 rfl 3 Tryz.underlying117 (by kernel_rfl) _ _ _ _ _ _ rfl rfl w1.heap.size 0 _ Hnew.out (cellsN .i64 (ps.take df)) Hlc.out (fun _ => ⟨rfl, _, rfl, Hsrc.out⟩) Hfit.out (cellsN_one _ _) ?_; intro w2 hb2 hm2)
  have hst := hb2.out
  rw [cellsN_splice] at hst
  have Hst : Hid (Blk w2 w1.heap.size (cellsN .i64 (sumTo qs ps df))) := by
    show Blk _ _ _
    rw [← Hdf.out, sumTo_start, Hdf.out]; exact hst
  have Hm2 := Lib.hid (Mod.keep ((QZ.Mod.refl (fun _ => False) w1).alloc (zrow 3 (.int .i64 0) ps.length)) hm2.out (Nat.le_refl _))
  clear hst hb2 hm2 hmk
  go_loopw [10] (fun i wr => ∃ k : Nat, df ≤ k ∧ k ≤ ps.length ∧ i = .int .i64 k ∧ Blk wr w1.heap.size (cellsN .i64 (sumTo qs ps k)) ∧ QZ.Mod (fun _ => False) w1 wr) (fun i _ => ps.length - (intOf i).toNat)
  case atStart => exact ⟨df, by omega, by omega, rfl, Hst.out, Hm2.out⟩
  case round =>
    obtain ⟨k, hk1, hk, rfl, hb, hm⟩ := hrel
    by_cases hlt : k < ps.length
    · obtain ⟨i, hi⟩ : ∃ i, k - df = i := ⟨_, rfl⟩
      have hi2 : (k : Int) - (df : Int) = (i : Int) := by omega
      have hil : i < qs.length := by omega
      have hwi : IntKind.i64.wrap (i : Int) = (i : Int) := IntWalk.i64_in _ (by omega)
      have hii : (i : Int) < (qs.length : Int) := by omega
      have cS := cell_mod hm (fun f => f) (HSr.out i hil)
      have cL := cell_mod hm (fun f => f) (HLr.out k hlt)
      have hxS := HBq.out.lt i
      have hxL := HBp.out.lt k
      have hcell := hb.cell k
      rw [cellsN_get _ _ _ (by rw [sumTo_len _ _ Hle.out _ hk]; omega)] at hcell
      have hfr := hb.frozen k
      have hb2 := fun n => (blk_drewN hb n).set k (.int .i64 (xorN (nth qs i) (nth ps k) : Nat))
      have hss := sumTo_succ qs ps Hle.out k hlt (by rw [Hdf.out]; exact hk1)
      rw [Hdf.out, hi] at hss
      rw [cellsN_set, hss] at hb2
      have Hb2 := Lib.hid hb2
      have Hm3 := Lib.hid (fun n => (Mod.drewN hm n).setCell (p := ⟨w1.heap.size, k, none⟩) (.inl (Nat.le_refl _)) (.int .i64 (xorN (nth qs i) (nth ps k) : Nat)))
      generalize nth qs i = x at *
      generalize nth ps k = y at *
      generalize nth (sumTo qs ps k) k = old at *
      clear hb hm hb2 hss hi p0 p1 q0 q1 z0
      go_wp2_with fail
      go_region_with (go_at_call 242; refine (gfAdd_c _ x y hxS hxL).mono ?_; rintro e w5 ⟨rfl, rfl⟩)
      all_goals (
        go_wp2_with fail
        go_roundw
        case rel => exact ⟨k + 1, by omega, by omega, by go_num, Hb2.out _, Hm3.out _⟩
        case measure => simp [intOf]; omega)
    · obtain rfl : k = ps.length := by omega
      have c0 := cell_mod hm (fun f => f) z0
      rw [sumTo_all _ _ Hle.out] at hb
      have hrd := RdN.of_blk hb
      have HH := Lib.hid (show ¬ X w1.heap.size from fun h => by have := Hold.out _ h; omega)
      have HX2 : Hid (∀ k, X k → k < wr.heap.size) := fun k hk => Nat.lt_of_lt_of_le (Hold.out k hk) hm.size
      have Hm := Lib.hid hm
      have Hb := Lib.hid hb
      have Hrd := Lib.hid hrd
      clear hm hb hrd
      clear p0 p1 q0 q1 z0
      go_wp2_with fail
      refine ((newPoly_n X wr F _ 0 _ _ (sumL qs ps) (sumL_len _ _ Hle.out) HX2.out Hrd.out (by omega) (by omega) (sumL_small HBq.out.small HBp.out.small) HH.out (Nat.le_refl _))).mono ?_
      rintro e w5 ⟨r, rfl, hr, hm5⟩
      have Hr := Lib.hid hr
      have Hm5 := Lib.hid hm5
      clear hr hm5
      go_wp2_with fail
      go_ret2
      exact ⟨r, rfl, Hr.out, Hm0.out.trans (Hm.out.trans Hm5.out)⟩

end Go.Proofs.YtnpkihobbcglcaaGreatDoor
open Go Go.RowKit
namespace Go.Proofs.YtnpkihobbcglcaaGreatDoor
open Go.QZ

theorem quiet1 {P : Program} {f : FuncId} {args : Array Value} {w : World} {m : Nat} {v : Value} (h : Calls P f args (w.drewN m) fun e w' => e = .returned v ∧ w.drewN m = w') : Calls P f args (w.drewN m) fun e w'' => e = .returned v ∧ ∃ k, w'' = w.drewN k :=
  h.mono fun _ _ ⟨he, hm⟩ => ⟨he, m, hm.symm⟩
theorem quiet2 {P : Program} {f : FuncId} {args : Array Value} {w : World} {m : Nat} {v : Value} (h : Calls P f args (w.drewN m) fun e w' => e = .returned v ∧ ∃ n, (w.drewN m).drewN n = w') : Calls P f args (w.drewN m) fun e w'' => e = .returned v ∧ ∃ k, w'' = w.drewN k :=
  h.mono fun _ _ ⟨he, n, hm⟩ => ⟨he, m + n, by rw [← hm, World.drewN_drewN]⟩

theorem addz_c (X : Nat → Prop) (w : World) (F p q : Nat) (ps qs : List Nat) (hp : Poly X w F p ps) (hq : Poly X w F q qs) (hp0 : nth ps 0 = 0) :
    Calls Tryz.prog 210 #[.pointer (some ⟨p, 0, none⟩), .pointer (some ⟨q, 0, none⟩)] w (GotPoly X w F qs) := by
  have HP := Lib.hid hp; have HQ := Lib.hid hq
  obtain ⟨B, off, cap, hp⟩ := hp
  obtain ⟨C, offq, capq, hq⟩ := hq
  have p0 := hp.c0; have q0 := hq.c0
  have Hd0 := Lib.hid (decide_eq_true hp0)
  clear hp hq hp0
  have fneq := field_neq F
  go_enter Tryz.func210, Tryz.ntmps210
  go_wp2_with fail
  go_quiet (fail)
  clear fneq
  go_wp2_with fail
  refine ((isZero_c X (w.drewN nq) F p ps (HP.out.new (mod_drewN _ _ _)))).mono ?_
  rintro e w1 ⟨rfl, rfl⟩
  rw [Hd0.out]
  go_wp2_with fail
  go_ret2
  exact ⟨q, rfl, HQ.out.new (mod_drewN _ _ _), mod_drewN _ _ _⟩

theorem strip_cons (c : Nat) (r : List Nat) (h : c ≠ 0) : strip (c :: r) = c :: r := strip_of_neat ⟨by simp, fun _ => h⟩

set_option maxHeartbeats 800000 in
theorem buildMono_c (X : Nat → Prop) (w : World) (F : Nat) (hX : ∀ k, X k → k < w.heap.size) (d c : Nat) (hd : d ≤ 10000) (hc : c < 256) (hc0 : c ≠ 0) :
    Calls Tryz.prog 209 #[.pointer (some ⟨F, 0, none⟩), .int .i64 d, .int .i64 c] w (GotPoly X w F (c :: List.replicate d 0)) := by
  have hmk := make_run (P := Tryz.prog) Tryz.underlying117 i117 rfl ((d : Int) + 1) ((d : Int) + 1) (d + 1) (d + 1) (by omega) (by omega) (Nat.le_refl _) (by omega) (by omega)
  have t0 : decide ((d : Int) < 0) = false := by simp
  have t1 : ((c : Int) == 0) = false := by rw [beq_eq_false_iff_ne]; omega
  have hb := made_i64 w (d + 1)
  have hcell := hb.cell 0
  rw [cellsN_get _ _ _ (by rw [List.length_replicate]; omega)] at hcell
  have hfr := hb.frozen 0
  have hb2 := hb.set 0 (.int .i64 (c : Nat))
  rw [cellsN_set, List.replicate_succ, List.set_cons_zero] at hb2
  have Hb2 := Lib.hid hb2
  have Hm2 := Lib.hid (((QZ.Mod.refl (fun _ => False) w).alloc (zrow 3 (.int .i64 0) (d + 1))).setCell (p := ⟨w.heap.size, 0, none⟩) (.inl (Nat.le_refl _)) (.int .i64 (c : Nat)))
  have Hsm : Hid (Small (c :: List.replicate d 0)) := fun x hx => by
    rcases List.mem_cons.1 hx with h | h
    · rw [h]; exact hc
    · exact small_zeros d x h
  have HX := Lib.hid hX
  have Hc0 := Lib.hid hc0
  generalize nth (List.replicate (d + 1) 0) 0 = old at *
  clear hb hb2 hX hc0
  go_enter Tryz.func209, Tryz.ntmps209
  go_wp2_with fail
  have Hw : Hid (QZ.Mod (fun _ => False) w ((w.alloc (zrow 3 (.int .i64 0) (d + 1))).setCell ⟨w.heap.size, 0, none⟩ (.int .i64 (c : Nat)))) := Hm2.out
  generalize (w.alloc (zrow 3 (.int .i64 0) (d + 1))).setCell ⟨w.heap.size, 0, none⟩ (.int .i64 (c : Nat)) = w2 at *
  refine (newPoly_n X w2 F _ 0 _ _ (c :: List.replicate d 0) (by simp) (fun k hk => Nat.lt_of_lt_of_le (HX.out k hk) Hw.out.size) (RdN.of_blk Hb2.out) (by omega) (by omega) Hsm.out (fun h => by have := HX.out _ h; omega) (Nat.le_refl _)).mono ?_
  rintro e w5 ⟨r, rfl, hr, hm5⟩
  rw [strip_cons _ _ Hc0.out] at hr
  have Hr := Lib.hid hr
  have Hm5 := Lib.hid hm5
  clear hr hm5
  clear hmk hcell hfr
  go_wp2_with fail
  go_ret2
  exact ⟨r, rfl, Hr.out, Hw.out.trans Hm5.out⟩

theorem inv1_c (X : Nat → Prop) (w : World) (F : Nat) (h : Fld X w F) : Calls Tryz.prog 208 #[.pointer (some ⟨F, 0, none⟩), .int .i64 1] w fun e w' => e = .returned (.tuple #[.int .i64 1, .nilIface]) ∧ ∃ n, w.drewN n = w' := by
  obtain ⟨E, L, Z, O, h, _⟩ := h
  have c0 := h.head.cell 0
  have c1 := h.head.cell 1
  have c4 := h.head.cell 4
  have cl := log_read h 1 (by decide)
  have ce := exp_read h 255 (by decide)
  rw [show nth logL 1 = 0 by decide] at cl
  rw [show nth expL 255 = 1 by decide] at ce
  clear h
  go_enter Tryz.func208, Tryz.ntmps208
  go_wp2_with fail
  go_quiet (fail)
  go_wp2_with fail
  go_ret2
  exact ⟨rfl, _, rfl⟩
end Go.Proofs.YtnpkihobbcglcaaGreatDoor
