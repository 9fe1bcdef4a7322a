/- Part 29 of the proof of FnPXQuick (a QR code that is written for a text says this text in a picture): parts of the road. No condition. -/
import Derived.Test.YtnpkihobbcglcaaGreatDoorG18
import Derived.Test.YtnpkihobbcglcaaGreatDoorG21
import Derived.Test.YtnpkihobbcglcaaGreatDoorG24
import Derived.Test.YtnpkihobbcglcaaGreatDoorG28
/- The pairs of blocks (data, error correction) in memory. -/
open Go Go.RowKit
namespace Go.Proofs.YtnpkihobbcglcaaGreatDoor
open Go.QZ

theorem small_bytes (bs : List Bool) (o n : Nat) : Small (bytesFrom bs o n) := by
  intro x hx
  unfold bytesFrom at hx
  obtain ⟨i, _, rfl⟩ := List.mem_map.1 hx
  exact pb_lt _ _ _

/-- The pair at block p: its two lists. All at N or above. -/
def PairAt (N : Nat) (w : World) (p : Nat) (a b : List Nat) : Prop := ∃ D E, Blk w p [.slice (some ⟨D, 0, none⟩) a.length a.length, .slice (some ⟨E, 0, none⟩) b.length b.length] ∧ Blk w D (cellsN .u8 a) ∧ Blk w E (cellsN .u8 b) ∧ N ≤ p ∧ N ≤ D ∧ N ≤ E
theorem PairAt.weak {N M : Nat} {w : World} {p : Nat} {a b : List Nat} (h : PairAt N w p a b) (hm : M ≤ N) : PairAt M w p a b := by
  obtain ⟨D, E, h1, h2, h3, h4, h5, h6⟩ := h
  exact ⟨D, E, h1, h2, h3, by omega, by omega, by omega⟩
theorem PairAt.mod {S : Nat → Prop} {N : Nat} {w w' : World} {p : Nat} {a b : List Nat} (h : PairAt N w p a b) (hm : QZ.Mod S w w') (hS : ∀ k, S k → k < N) : PairAt N w' p a b := by
  obtain ⟨D, E, h1, h2, h3, h4, h5, h6⟩ := h
  exact ⟨D, E, hm.blk (fun s => by have := hS _ s; omega) h1, hm.blk (fun s => by have := hS _ s; omega) h2, hm.blk (fun s => by have := hS _ s; omega) h3, h4, h5, h6⟩
theorem PairAt.old {S : Nat → Prop} {N : Nat} {w w' : World} {p : Nat} {a b : List Nat} (h : PairAt N w p a b) (hm : QZ.Mod S w w') (hS : ∀ k, S k → w.heap.size ≤ k) : PairAt N w' p a b := by
  obtain ⟨D, E, h1, h2, h3, h4, h5, h6⟩ := h
  exact ⟨D, E, hm.blk (fun s => by have := hS _ s; have := h1.lt; omega) h1, hm.blk (fun s => by have := hS _ s; have := h2.lt; omega) h2, hm.blk (fun s => by have := hS _ s; have := h3.lt; omega) h3, h4, h5, h6⟩
theorem PairAt.keep {N base : Nat} {T : TypeId} {v : Value} {ls : List Nat} {w w' : World} {p : Nat} {a b : List Nat} (ho : Own w base T v (ptrs ls)) (hl : 0 < ls.length) (h : PairAt N w p a b) (ha : 0 < a.length) (hb : 0 < b.length) (hm : QZ.Mod (fun k => v.ownBlock = some k) w w') : PairAt N w' p a b := by
  obtain ⟨D, E, h1, h2, h3, h4, h5, h6⟩ := h
  obtain ⟨g, cap, rfl, _, _, _, hc⟩ := ho.full (by simp [ptrs]; exact hl)
  have e0 : (ptrs ls)[0]? = some (.pointer (some ⟨ls[0], 0, none⟩)) := by simp [ptrs, hl]
  have c0 := hc 0 _ e0
  have d0 := h2.cell 0
  rw [cellsN_get _ _ _ ha] at d0
  have g0 := h3.cell 0
  rw [cellsN_get _ _ _ hb] at g0
  have p0 := h1.cell 0
  refine ⟨D, E, hm.blk (fun s => ?_) h1, hm.blk (fun s => ?_) h2, hm.blk (fun s => ?_) h3, h4, h5, h6⟩
  · have : g = p := by simpa [Value.ownBlock] using s
    subst this; rw [p0] at c0; simp at c0
  · have : g = D := by simpa [Value.ownBlock] using s
    subst this; rw [d0] at c0; simp at c0
  · have : g = E := by simpa [Value.ownBlock] using s
    subst this; rw [g0] at c0; simp at c0

/-- i blocks are done: the pointers ls in the slice vv, the error correction words es. -/
def Paired (w0 : World) (T : TypeId) (bs : List Bool) (nb r d n i : Nat) (vv : Value) (ls : List Nat) (es : List (List Nat)) (wr : World) : Prop :=
  ls.length = i ∧ es.length = i ∧ Own wr w0.heap.size T vv (ptrs ls) ∧ (∀ j, j < i → PairAt w0.heap.size wr (ls.getD j 0) (dRow bs nb r d j) (es.getD j [])) ∧ (∀ j, j < i → IsEc n (dRow bs nb r d j) (es.getD j [])) ∧ QZ.Mod (fun _ => False) w0 wr

theorem Paired.step {w0 : World} {T : TypeId} {bs : List Bool} {nb r d n i : Nat} {vv : Value} {ls : List Nat} {es : List (List Nat)} {wr w1 w2 : World} {v' : Value} {p : Nat} {ec : List Nat} (h : Paired w0 T bs nb r d n i vv ls es wr) (hd : 1 ≤ d) (hn : 1 ≤ n) (hm1 : QZ.Mod (fun _ => False) wr w1)
    (hp : PairAt wr.heap.size w1 p (dRow bs nb r d i) ec) (he : IsEc n (dRow bs nb r d i) ec) (ho : Own w2 w0.heap.size T v' (ptrs ls ++ [.pointer (some ⟨p, 0, none⟩)])) (hm2 : QZ.Mod (fun k => vv.ownBlock = some k) w1 w2) : Paired w0 T bs nb r d n (i + 1) v' (ls ++ [p]) (es ++ [ec]) w2 := by
  obtain ⟨hl, hel, hown, hpa, hec, hm⟩ := h
  have hdl : ∀ j, 0 < (dRow bs nb r d j).length := fun j => by rw [dRow_len]; unfold dLen; split <;> omega
  have hs0 := hm.size
  have hs1 := hm1.size
  have hblk := hown.block
  refine ⟨by simp [hl], by simp [hel], ?_, ?_, ?_, ?_⟩
  · have e : ptrs (ls ++ [p]) = ptrs ls ++ [.pointer (some ⟨p, 0, none⟩)] := by simp [ptrs]
    rw [e]; exact ho
  · intro j hj
    by_cases e : j = i
    · subst e
      have e1 : (ls ++ [p]).getD j 0 = p := by simp [List.getD_eq_getElem?_getD, ← hl]
      have e2 : (es ++ [ec]).getD j [] = ec := by simp [List.getD_eq_getElem?_getD, ← hel]
      rw [e1, e2]
      exact ((hp.mod hm2 (fun k hk => (hblk k hk).2))).weak hs0
    · have hji : j < i := by omega
      have e1 : (ls ++ [p]).getD j 0 = ls.getD j 0 := by simp [List.getD_eq_getElem?_getD, List.getElem?_append_left (show j < ls.length by omega)]
      have e2 : (es ++ [ec]).getD j [] = es.getD j [] := by simp [List.getD_eq_getElem?_getD, List.getElem?_append_left (show j < es.length by omega)]
      rw [e1, e2]
      have h1 := (hpa j hji).old hm1 (fun _ f => f.elim)
      exact h1.keep (hown.mod hm1 (fun _ _ f => f)) (by omega) (hdl j) (by rw [(hec j hji).1]; omega) hm2
  · intro j hj
    by_cases e : j = i
    · subst e
      have e2 : (es ++ [ec]).getD j [] = ec := by simp [List.getD_eq_getElem?_getD, ← hel]
      rw [e2]; exact he
    · have e2 : (es ++ [ec]).getD j [] = es.getD j [] := by simp [List.getD_eq_getElem?_getD, List.getElem?_append_left (show j < es.length by omega)]
      rw [e2]; exact hec j (by omega)
  · exact (hm.trans hm1).new hm2 (fun k hk => (hblk k hk).1)
/-- What lies in the blocks, also when new blocks are written later. -/
theorem Paired.get {w0 : World} {T : TypeId} {bs : List Bool} {nb r d n : Nat} {vv : Value} {ls : List Nat} {es : List (List Nat)} {wL : World} (h : Paired w0 T bs nb r d n nb vv ls es wL) (hnb : 0 < nb) :
    ∃ g cap, vv = .slice (some ⟨g, 0, none⟩) nb cap ∧ ∀ wx, QZ.Mod (fun k => wL.heap.size ≤ k) wL wx → ∀ k, k < nb → ∃ p D E, wx.cell? ⟨g, k, none⟩ = some (.pointer (some ⟨p, 0, none⟩)) ∧ wx.cell? ⟨p, 0, none⟩ = some (.slice (some ⟨D, 0, none⟩) (dLen nb r d k) (dLen nb r d k)) ∧ wx.cell? ⟨p, 1, none⟩ = some (.slice (some ⟨E, 0, none⟩) n n) ∧
      (∀ i, i < dLen nb r d k → wx.cell? ⟨D, i, none⟩ = some (.int .u8 (nth (dRow bs nb r d k) i : Nat))) ∧ (∀ i, i < n → wx.cell? ⟨E, i, none⟩ = some (.int .u8 (nth (es.getD k []) i : Nat))) := by
  obtain ⟨hl, hel, hown, hpa, hec, hm⟩ := h
  obtain ⟨g, cap, hv, hg1, hg2, _, hc⟩ := hown.full (by simp [ptrs]; omega)
  have hpl : (ptrs ls).length = nb := by simp [ptrs, hl]
  rw [hpl] at hv
  refine ⟨g, cap, hv, fun wx hx k hk => ?_⟩
  have e0 : (ptrs ls)[k]? = some (.pointer (some ⟨ls.getD k 0, 0, none⟩)) := by
    have : k < ls.length := by omega
    simp [ptrs, List.getD_eq_getElem?_getD, this]
  obtain ⟨D, E, h1, h2, h3, _, _, _⟩ := (hpa k hk).old hx (fun _ s => s)
  have e1 := dRow_len bs nb r d k
  have e2 := (hec k hk).1
  rw [e1, e2] at h1
  refine ⟨ls.getD k 0, D, E, cell_mod hx (by omega) (hc k _ e0), h1.at 0 rfl, h1.at 1 rfl, fun i hi => h2.at i (cellsN_get _ _ _ (by rw [e1]; exact hi)), fun i hi => h3.at i (cellsN_get _ _ _ (by rw [e2]; exact hi))⟩
theorem Grown.over {wL w2 wx : World} {q Q : Nat} {bs : List Bool} (hm : QZ.Mod (fun _ => False) wL w2) (hg : Grown w2 q Q bs wx) (hq : wL.heap.size ≤ q) (hQ : wL.heap.size ≤ Q) : QZ.Mod (fun k => wL.heap.size ≤ k) wL wx :=
  (QZ.Mod.none hm).trans (hg.mod.mono (fun k _ hk => by rcases hk with e | e <;> omega))
end Go.Proofs.YtnpkihobbcglcaaGreatDoor
/- The blocks' bytes, in turns, are the bits of a symbol. -/
open Go Go.RowKit
namespace Go.Proofs.YtnpkihobbcglcaaGreatDoor
open Go.QZ

theorem i175 : (Tryz.prog.info? 175).map (fun i => (i.zero, i.size, i.bytes)) = some (some (.pointer none), 1, 8) := by kernel_rfl

/-- The bits of the whole symbol are handed back. -/
def Inter (w : World) (bs : List Bool) (nb r d n : Nat) (e : Ending) (w' : World) : Prop :=
  ∃ q Q us es, e = .returned (.tuple #[.pointer (some ⟨q, 0, none⟩), .nilIface]) ∧ BA w' q Q us (encB (inter (dRows bs nb r d) (mxTo nb r d nb) ++ inter es n)) ∧ es.length = nb ∧ (∀ j, j < nb → IsEc n (dRow bs nb r d j) (es.getD j [])) ∧ w.heap.size ≤ q ∧ w.heap.size ≤ Q ∧ QZ.Mod (fun _ => False) w w'

theorem shape_le {nb r : Nat} (h : Shape nb r) : r < nb ∧ nb ≤ 6 := by unfold Shape at h; omega

set_option maxRecDepth 20000 in
set_option maxHeartbeats 6400000 in
theorem interleave_c (w : World) (p B : Nat) (ws : List Nat) (bs : List Bool) (h : BA w p B ws bs) (nb r d n tot dat : Nat) (hsh : Shape nb r) (htot : tot = nb * (d + n) + r) (hdat : dat = nb * d + r) (hd : 1 ≤ d) (hdn : d + n ≤ 200) (hn : 1 ≤ n) (hn2 : n ≤ 30) (hl : bs.length = 8 * dat) :
    Calls Tryz.prog 51 #[.pointer (some ⟨p, 0, none⟩), .int .i64 tot, .int .i64 dat, .int .i64 nb] w (Inter w bs nb r d n) := by
  obtain ⟨hr, hnb6⟩ := shape_le hsh
  have hdat2 : dat ≤ 6 * d + r := by have := Nat.mul_le_mul_right d hnb6; omega
  have htot2 : tot ≤ 6 * (d + n) + r := by have := Nat.mul_le_mul_right (d + n) hnb6; omega
  have hsz : (bs.length + 7) / 8 = dat := by omega
  have hmk := make_run (P := Tryz.prog) Tryz.underlying169 i175 rfl (0 : Int) (0 : Int) 0 0 rfl rfl (Nat.le_refl _) (by decide) (by decide)
  have Hp0 : Hid (Paired w 175 bs nb r d n 0 (.slice (some ⟨w.heap.size, 0, none⟩) 0 0) [] [] (w.alloc (zrow 175 (.pointer none) 0))) :=
    ⟨rfl, rfl, Own.of_blk w w.heap.size 175 0 [] (Nat.le_refl _) (by decide) rfl, fun j hj => by omega, fun j hj => by omega, (QZ.Mod.refl _ _).alloc _⟩
  have Hh := Lib.hid h
  have Hsz := Lib.hid hsz
  have Htot := Lib.hid htot
  have Hdat := Lib.hid hdat
  have Hl := Lib.hid hl
  have Hsh := Lib.hid hsh
  clear h hsz htot hdat hl hsh
  go_enter Tryz.func51, Tryz.ntmps51
  go_wp2_with fail
  refine ((sizeBytes_c w p bs.length (by have := Hl.out; omega) Hh.out.c1)).mono ?_
  rintro e w1 ⟨rfl, rfl⟩
  rw [Hsz.out]
  go_wp2_with fail
  clear hmk
  go_loopw [14, 10, 11, 12, 13, 15, 16, 17, 18, 19, 20] (fun a o x y bl _ _ _ _ _ _ wr => ∃ (i off mx me : Nat) (vv : Value) (ls : List Nat) (es : List (List Nat)), i ≤ nb ∧ a = .int .i64 i ∧ o = .int .i64 off ∧ x = .int .i64 mx ∧ y = .int .i64 me ∧ vv = bl ∧ off = dOff nb r d i ∧ mx = mxTo nb r d i ∧ (me = if i = 0 then 0 else n) ∧ Paired w 175 bs nb r d n i vv ls es wr) (fun a _ _ _ _ _ _ _ _ _ _ _ => nb - (intOf a).toNat)
  case atStart => exact ⟨0, 0, 0, 0, _, [], [], by omega, rfl, rfl, rfl, rfl, rfl, by simp [dOff], rfl, rfl, Hp0.out⟩
  case round =>
    obtain ⟨i, off, mx, me, vv, ls, es, hi, rfl, rfl, rfl, rfl, rfl, hoff, hmx, hme, hp⟩ := hrel
    by_cases hlt : i < nb
    · obtain ⟨sz, hszE⟩ : ∃ sz, dLen nb r d i = sz := ⟨_, rfl⟩
      have hsz1 : 1 ≤ sz ∧ sz ≤ 200 := by rw [← hszE]; unfold dLen; split <;> omega
      have hle := dOff_mono nb r d i hlt (by omega)
      rw [hszE, ← hoff] at hle
      rw [← Hdat.out] at hle
      obtain ⟨o8, ho8⟩ : ∃ o8, 8 * off = o8 := ⟨_, rfl⟩
      have ho8i : (8 : Int) * (off : Int) = (o8 : Int) := by omega
      have hmk2 := make_run (P := Tryz.prog) Tryz.underlying32 i32 rfl (sz : Int) (sz : Int) sz sz rfl rfl (Nat.le_refl _) (by omega) (by omega)
      have hown := hp.2.2.1
      have hm := hp.2.2.2.2.2
      have hba := (Hh.out.mod hm (fun f => f) (fun f => f)).mod ((QZ.Mod.refl (fun _ => False) wr).alloc (zrow 5 (.int .u8 0) sz)) (fun f => f) (fun f => f)
      have hA := made_u8 wr sz
      have hw0 := hm.size
      have hpl := Hh.out.head.lt
      have hBl := Hh.out.words.lt
      have hN1 : dRow bs nb r d i = bytesFrom bs o8 sz := by unfold dRow; rw [← hoff, ho8, hszE]
      have hpb : o8 + 8 * sz ≤ bs.length := by have := Hl.out; omega
      have hbb : bs.length ≤ 16777000 := by have := Hl.out; omega
      have hll : ls.length ≤ 6 := by have := hp.1; omega
      have hofl : off ≤ 10000 := by omega
      have hdiv : (if i < nb - r then d else d + 1) = sz := hszE
      have HszE := Lib.hid hszE
      have Hle := Lib.hid hle
      have Hoff := Lib.hid hoff
      have Hmx := Lib.hid hmx
      have Hme := Lib.hid hme
      have Hp := Lib.hid hp
      have Hown := Lib.hid hown
      have Hm := Lib.hid hm
      have Hba := Lib.hid hba
      have HA := Lib.hid hA
      have Hpl := Lib.hid hpl
      have HBl := Lib.hid hBl
      have HN1 := Lib.hid hN1
      have Hpb := Lib.hid hpb
      have Hbb := Lib.hid hbb
      have Hll := Lib.hid hll
      have Hw0 := Lib.hid hw0
      have Hdiv := Lib.hid hdiv
      clear hszE hle hoff hmx hme hp hown hm hba hA hpl hBl hN1 hpb hbb hll hw0 hdiv
      go_wp2_with fail
      refine (numBytes_c wr nb r (d + n) d i tot dat Hsh.out Htot.out Hdat.out (by omega) hdn hlt).mono ?_
      rintro e w2 ⟨rfl, rfl⟩
      rw [Hdiv.out, show d + n - d = n by omega]
      go_wp2_with fail
      clear hmk2
      refine (toBytes_c _ p B ws bs Hba.out wr.heap.size sz (List.replicate sz 0) HA.out (by rw [List.length_replicate]) (by have := Hpl.out; have := Hw0.out; omega) (by have := HBl.out; have := Hw0.out; omega) o8 Hpb.out Hbb.out).mono ?_
      rintro e w2 ⟨rfl, hD, hmD⟩
      have hm2 := ((QZ.Mod.refl (fun _ => False) wr).alloc (zrow 5 (.int .u8 0) sz)).new hmD (fun k hk => by rw [hk]; exact Nat.le_refl _)
      have HD := Lib.hid hD
      have Hm2 := Lib.hid hm2
      clear hD hm2
      clear hmD
      go_wp2_with fail
      refine (genEc_c w2 wr.heap.size sz n (bytesFrom bs o8 sz) HD.out (bytesFrom_length _ _ _) (small_bytes _ _ _) (by omega) (by omega) hn hn2).mono ?_
      rintro e w3 ⟨E, ec, rfl, hec, hE, hEs, hm3⟩
      have hD3 := HD.out.mod' hm3
      have hm3' := Hm2.out.trans hm3
      have Hec := Lib.hid hec
      have HE := Lib.hid hE
      have HEs := Lib.hid hEs
      have Hm3' := Lib.hid hm3'
      have HD3 := Lib.hid hD3
      have Hm3 := Lib.hid hm3
      clear hec hE hEs hm3' hD3 hm3
      go_wp2_with fail
      refine (newPair_c w3 (some ⟨wr.heap.size, 0, none⟩) (some ⟨E, 0, none⟩) sz sz n n).mono ?_
      rintro e w4 ⟨rfl, hP, hm4, _⟩
      have hpair : PairAt wr.heap.size w4 w3.heap.size (dRow bs nb r d i) ec := by
        refine ⟨wr.heap.size, E, ?_, ?_, HE.out.mod' hm4, ?_, Nat.le_refl _, ?_⟩
        · rw [dRow_len, HszE.out, Hec.out.1]; exact hP
        · rw [HN1.out]; exact HD3.out.mod' hm4
        · exact Hm3'.out.size
        · have := Hm2.out.size; have := HEs.out; omega
      have hm4' := Hm3'.out.trans hm4
      have ho4 := (Hown.out.mod hm4' (fun _ _ f => f)).alloc (.cells #[.pointer (some ⟨w3.heap.size, 0, none⟩)] 175)
      have hN4 : w.heap.size ≤ (w4.alloc (.cells #[.pointer (some ⟨w3.heap.size, 0, none⟩)] 175)).heap.size := by rw [World.size_alloc]; have := hm4'.size; have := Hw0.out; omega
      have hnews : ∀ j u, [Value.pointer (some ⟨w3.heap.size, 0, none⟩)][j]? = some u → (w4.alloc (.cells #[.pointer (some ⟨w3.heap.size, 0, none⟩)] 175)).cell? ((⟨w4.heap.size, 0, none⟩ : Addr).add j) = some u := by
        intro j u hu
        rw [Addr.add_lit, Nat.zero_add, (Blk.new w4 [.pointer (some ⟨w3.heap.size, 0, none⟩)] 175).cell]; exact hu
      have hone : ∀ u ∈ [Value.pointer (some ⟨w3.heap.size, 0, none⟩)], u.oneCell' = true := by intro u hu; rw [List.mem_singleton.1 hu]; rfl
      have hfew : (ptrs ls).length + 1 ≤ 1000000 := by have := Hll.out; simp [ptrs]; omega
      have hecR : IsEc n (dRow bs nb r d i) ec := by rw [HN1.out]; exact Hec.out
      have Hpair := Lib.hid hpair
      have Hm4' := Lib.hid hm4'
      have Ho4 := Lib.hid ho4
      have HN4 := Lib.hid hN4
      have Hnews := Lib.hid hnews
      have Hone := Lib.hid hone
      have Hfew := Lib.hid hfew
      have HecR := Lib.hid hecR
      clear hpair hm4' ho4 hN4 hnews hone hfew hecR
      clear hP hm4
      have hstep : Hid (∀ v7 w7, Own w7 w.heap.size 175 v7 (ptrs ls ++ [.pointer (some ⟨w3.heap.size, 0, none⟩)]) → QZ.Mod (fun k => vv.ownBlock = some k) (w4.alloc (.cells #[.pointer (some ⟨w3.heap.size, 0, none⟩)] 175)) w7 → Paired w 175 bs nb r d n (i + 1) v7 (ls ++ [w3.heap.size]) (es ++ [ec]) w7) := fun v7 w7 h1 h2 =>
        Hp.out.step hd hn (Hm4'.out.alloc _) (Hpair.out.mod ((QZ.Mod.refl (fun _ => False) w4).alloc _) (fun _ f => f.elim)) HecR.out h1 h2
      have hmx2 : Hid (mxTo nb r d (i + 1) = if mx < sz then sz else mx) := by
        show _ = _
        rw [Hmx.out, ← HszE.out]; rfl
      have hof2 : Hid (off + sz = dOff nb r d (i + 1)) := by show _ = _; rw [dOff_succ, ← Hoff.out, HszE.out]
      have hme2 : Hid ((if me < n then n else me) = n) := by show _ = _; rw [Hme.out]; split <;> split <;> omega
      have hmxl : mx ≤ 1000 := by have := mxTo_le nb r d i hi; have := Hmx.out; omega
      go_wp2_with (at_builtin; refine wpList_app rfl (.tmp 73) (.tmp 77) 169 rfl w.heap.size 175 (.pointer none) 8 Tryz.underlying169 i175 rfl _ (ptrs ls) rfl Ho4.out ⟨w4.heap.size, 0, none⟩ 1 1 [.pointer (some ⟨w3.heap.size, 0, none⟩)] rfl rfl Hnews.out Hone.out Hfew.out (by decide) HN4.out ?_; intro v7 w7 ho7 hm7 hv7)
      all_goals
        go_roundw
        case rel => exact ⟨i + 1, off + sz, _, _, _, _, _, by omega, by go_num, by go_num, rfl, rfl, rfl, hof2.out, by have := hmx2.out; split at this <;> omega, by refine Eq.trans ?_ (if_neg (by omega)).symm; have := hme2.out; split at this <;> omega, hstep.out _ _ ho7.out hm7.out⟩
        case measure => simp [intOf] <;> omega
    · obtain rfl : nb = i := by omega
      have hoffd : dat = off := by rw [hoff, dOff_all _ _ _ (by omega)]; exact Hdat.out
      subst hoffd
      obtain rfl : n = me := by rw [hme, if_neg (by omega)]
      obtain ⟨g, cap, rfl, hget⟩ := hp.get (by omega)
      have hm := hp.2.2.2.2.2
      have hel := hp.2.1
      have hec := hp.2.2.2.2.1
      have hmxl := mxTo_le nb r d nb (Nat.le_refl _)
      rw [← hmx] at hmxl
      have hDl := dRows_len bs nb r d
      have Hget := Lib.hid hget
      have Hm := Lib.hid hm
      have Hel := Lib.hid hel
      have Hec := Lib.hid hec
      have Hmx := Lib.hid hmx
      have HDl := Lib.hid hDl
      have Hoff := Lib.hid hoff
      have Hme := Lib.hid hme
      have Hp := Lib.hid hp
      clear hget hm hel hec hmx hDl hoff hme hp
      go_wp2_with fail
      refine ((newBA_c wr)).mono ?_
      rintro e w2 ⟨q, Q, rfl, hq, hqq, hQQ, hm2⟩
      have hmw := Hm.out.trans hm2
      have hsw := Hm.out.size
      have Hq := Lib.hid hq
      have Hm2 := Lib.hid hm2
      have Hqq := Lib.hid hqq
      have HQQ := Lib.hid hQQ
      have Hmw := Lib.hid hmw
      clear hq hm2 hqq hQQ hmw
      go_wp2_with fail
      obtain ⟨wL, hwL⟩ : ∃ wL : World, wL = wr := ⟨_, rfl⟩
      subst hwL
      go_loopw [22, 24, 25] (fun a _ _ wx => ∃ i2 : Nat, i2 ≤ mx ∧ a = .int .i64 i2 ∧ Grown w2 q Q (turnB [] (dRows bs nb r d) i2 0) wx) (fun a _ _ _ => mx - (intOf a).toNat)
      case atStart => exact ⟨0, by omega, rfl, by rw [turnB_zero]; exact Grown.start Hq.out⟩
      case round =>
        obtain ⟨i2, hi2, rfl, hg⟩ := hrel
        by_cases hl2 : i2 < mx
        · have Hg := Lib.hid hg
          clear hg
          go_wp2_with fail
          generalize decide ((i2 : Int) < (mx : Int)) = bb
          go_loopw [106, 24, 25] (fun a _ _ wy => ∃ k : Nat, k ≤ nb ∧ a = .int .i64 k ∧ Grown w2 q Q (turnB [] (dRows bs nb r d) i2 k) wy) (fun a _ _ _ => nb - (intOf a).toNat)
          case atStart => exact ⟨0, by omega, rfl, Hg.out⟩
          case round =>
            obtain ⟨k, hk, rfl, hg⟩ := hrel
            by_cases hkl : k < nb
            · obtain ⟨pp, D, E, c1, c2, c3, cD, cE⟩ := Hget.out _ (Grown.over Hm2.out hg Hqq.out HQQ.out) k hkl
              clear c3 cE
              obtain ⟨sz, hsz⟩ : ∃ sz, dLen nb r d k = sz := ⟨_, rfl⟩
              have hszl : sz ≤ 200 := by rw [← hsz]; unfold dLen; split <;> omega
              rw [hsz] at c2 cD
              have hrow := dRows_get bs nb r d k hkl
              have hrl : ((dRows bs nb r d).getD k []).length = sz := by rw [hrow, dRow_len]; exact hsz
              obtain ⟨B', ws', hb1, hst⟩ := hg.step
              have hbl := turnB_len [] (dRows bs nb r d) i2 k mx 6 (by rw [HDl.out]; exact hnb6) hi2
              have hbl2 : (turnB [] (dRows bs nb r d) i2 k).length < 16777000 := by
                have h0 : ([] : List Bool).length = 0 := rfl
                omega
              by_cases hi3 : i2 < sz
              · have cx := cD i2 hi3
                have hx : nth (dRow bs nb r d k) i2 < 256 := nth_lt (by decide) (small_bytes _ _ _) _
                have hadd := turnB_add [] (dRows bs nb r d) i2 k (by rw [HDl.out]; exact hkl) (by rw [hrl]; exact hi3)
                rw [hrow] at hadd
                clear cD hbl
                have Hadd := Lib.hid hadd
                have Hg := Lib.hid hg
                have Hb1 := Lib.hid hb1
                have Hst := Lib.hid hst
                have Hrow := Lib.hid hrow
                have Hrl := Lib.hid hrl
                have Hsz := Lib.hid hsz
                have Hbl2 := Lib.hid hbl2
                clear hadd hg hb1 hst hrow hrl hsz hbl2
                generalize nth (dRow bs nb r d k) i2 = x at *
                go_wp2_with fail
                refine (BlockPair_GetDataBytes_c _ pp 0 _ c2).mono ?_
                rintro e w3 ⟨rfl, rfl⟩
                go_wp2_with fail
                refine (appendBits_c wr q B' ws' _ Hb1.out Hbl2.out x 8 (by omega) (by decide)).mono ?_
                rintro e w4 hg
                obtain ⟨rfl, hg2⟩ := Hst.out _ _ _ _ _ hg
                rw [← Hadd.out] at hg2
                have Hg2 := Lib.hid hg2
                clear hg2
                clear hg
                go_wp2_with fail
                go_roundw
                case rel => exact ⟨k + 1, by omega, by go_num, Hg2.out⟩
                case measure => simp [intOf] <;> omega
              · have hskip := turnB_skip [] (dRows bs nb r d) i2 k (by rw [HDl.out]; exact hkl) (by rw [hrl]; exact hi3)
                rw [← hskip] at hg
                clear cD hbl
                have Hskip := Lib.hid hskip
                have Hg := Lib.hid hg
                have Hb1 := Lib.hid hb1
                have Hst := Lib.hid hst
                have Hrow := Lib.hid hrow
                have Hrl := Lib.hid hrl
                have Hsz := Lib.hid hsz
                have Hbl2 := Lib.hid hbl2
                clear hskip hg hb1 hst hrow hrl hsz hbl2
                go_wp2_with fail
                refine (BlockPair_GetDataBytes_c _ pp 0 _ c2).mono ?_
                rintro e w3 ⟨rfl, rfl⟩
                go_wp2_with fail
                go_roundw
                case rel => exact ⟨k + 1, by omega, by go_num, Hg.out⟩
                case measure => simp [intOf] <;> omega
            · obtain rfl : nb = k := by omega
              have hnx := turnB_next [] (dRows bs nb r d) i2
              rw [HDl.out] at hnx
              rw [hnx] at hg
              have Hnx := Lib.hid hnx
              have Hg_1 := Lib.hid hg
              clear hnx hg
              go_wp2_with fail
              go_roundw
              case rel => exact ⟨i2 + 1, by omega, by go_num, Hg_1.out⟩
              case measure => simp [intOf] <;> omega
        · obtain rfl : mx = i2 := by omega
          obtain ⟨pre, hpre⟩ : ∃ pre, turnB [] (dRows bs nb r d) mx 0 = pre := ⟨_, rfl⟩
          rw [hpre] at hg
          have hprl : pre.length ≤ 8 * (mx * 6 + 6) := by
            have := turnB_len [] (dRows bs nb r d) mx 0 mx 6 (by rw [HDl.out]; exact hnb6) (Nat.le_refl _)
            rw [hpre] at this
            have h0 : ([] : List Bool).length = 0 := rfl
            omega
          have Hg := Lib.hid hg
          have Hpre := Lib.hid hpre
          clear hg hpre
          go_wp2_with fail
          go_loopw [26, 28, 29] (fun a _ _ wx => ∃ i2 : Nat, i2 ≤ n ∧ a = .int .i64 i2 ∧ Grown w2 q Q (turnB pre es i2 0) wx) (fun a _ _ _ => n - (intOf a).toNat)
          case atStart => exact ⟨0, by omega, rfl, by rw [turnB_zero]; exact Hg.out⟩
          case round =>
            obtain ⟨i2, hi2, rfl, hg⟩ := hrel
            by_cases hl2 : i2 < n
            · have Hg_2 := Lib.hid hg
              clear hg
              go_wp2_with fail
              generalize decide ((i2 : Int) < (n : Int)) = bb
              go_loopw [131, 28, 29] (fun a _ _ wy => ∃ k : Nat, k ≤ nb ∧ a = .int .i64 k ∧ Grown w2 q Q (turnB pre es i2 k) wy) (fun a _ _ _ => nb - (intOf a).toNat)
              case atStart => exact ⟨0, by omega, rfl, Hg_2.out⟩
              case round =>
                obtain ⟨k, hk, rfl, hg⟩ := hrel
                by_cases hkl : k < nb
                · obtain ⟨pp, D, E, c1, c2, c3, cD, cE⟩ := Hget.out _ (Grown.over Hm2.out hg Hqq.out HQQ.out) k hkl
                  clear c2 cD
                  have hrl := (Hec.out k hkl).1
                  obtain ⟨B', ws', hb1, hst⟩ := hg.step
                  have hbl := turnB_len pre es i2 k n 6 (by rw [Hel.out]; exact hnb6) hi2
                  have hbl2 : (turnB pre es i2 k).length < 16777000 := by omega
                  have cx := cE i2 hl2
                  have hx : nth (es.getD k []) i2 < 256 := nth_lt (by decide) (Hec.out k hkl).2.1 _
                  have hadd := turnB_add pre es i2 k (by rw [Hel.out]; exact hkl) (by rw [hrl]; exact hl2)
                  clear cE hbl
                  have Hadd := Lib.hid hadd
                  have Hg_3 := Lib.hid hg
                  have Hb1 := Lib.hid hb1
                  have Hst := Lib.hid hst
                  have Hrl := Lib.hid hrl
                  have Hbl2 := Lib.hid hbl2
                  clear hadd hg hb1 hst hrl hbl2
                  generalize nth (es.getD k []) i2 = x at *
                  go_wp2_with fail
                  refine (BlockPair_GetErrorCorrectionBytes_c _ pp 0 _ c3).mono ?_
                  rintro e w3 ⟨rfl, rfl⟩
                  go_wp2_with fail
                  refine (appendBits_c wr q B' ws' _ Hb1.out Hbl2.out x 8 (by omega) (by decide)).mono ?_
                  rintro e w4 hg
                  obtain ⟨rfl, hg2⟩ := Hst.out _ _ _ _ _ hg
                  rw [← Hadd.out] at hg2
                  have Hg2 := Lib.hid hg2
                  clear hg2
                  clear hg
                  go_wp2_with fail
                  go_roundw
                  case rel => exact ⟨k + 1, by omega, by go_num, Hg2.out⟩
                  case measure => simp [intOf] <;> omega
                · obtain rfl : nb = k := by omega
                  have hnx := turnB_next pre es i2
                  rw [Hel.out] at hnx
                  rw [hnx] at hg
                  have Hnx := Lib.hid hnx
                  have Hg_4 := Lib.hid hg
                  clear hnx hg
                  go_wp2_with fail
                  go_roundw
                  case rel => exact ⟨i2 + 1, by omega, by go_num, Hg_4.out⟩
                  case measure => simp [intOf] <;> omega
            · obtain rfl : n = i2 := by omega
              obtain ⟨B', us, hb1, hBB, hmg⟩ := hg
              rw [turnB_at, ← Hpre.out, turnB_at, List.nil_append, ← encB_app] at hb1
              have hlen : (encB (inter (dRows bs nb r d) mx ++ inter es n)).length = 8 * tot := by
                rw [encB_len, List.length_append, Hmx.out, mxTo_all _ _ _ hr, dRows_inter_len _ _ _ _ hr, eRows_inter_len es n (fun e he => by
                  obtain ⟨i, hi, rfl⟩ := List.mem_iff_getElem.1 he
                  have := (Hec.out i (by rw [← Hel.out]; exact hi)).1
                  rwa [List.getD_eq_getElem?_getD, List.getElem?_eq_getElem hi] at this), Hel.out, Htot.out, Nat.mul_add nb, Nat.mul_comm n]
                omega
              have hc1 := hb1.c1
              have hszz : ((encB (inter (dRows bs nb r d) mx ++ inter es n)).length + 7) / 8 = tot := by omega
              have hl2' : (encB (inter (dRows bs nb r d) mx ++ inter es n)).length ≤ 1000000000 := by omega
              have hMw := Hmw.out.new hmg (fun k hk => by have := Hqq.out; have := HQQ.out; rcases hk with e | e <;> omega)
              have Hb1 := Lib.hid hb1
              have HBB := Lib.hid hBB
              have Hmg := Lib.hid hmg
              have Hlen := Lib.hid hlen
              have Hszz := Lib.hid hszz
              have HMw := Lib.hid hMw
              clear hb1 hBB hmg hlen hszz hMw
              go_wp2_with fail
              refine (sizeBytes_c wr q _ hl2' hc1).mono ?_
              rintro e w3 ⟨rfl, rfl⟩
              rw [Hszz.out]
              go_wp2_with fail
              go_ret2
              refine ⟨q, B', us, es, rfl, by rw [← Hmx.out]; exact Hb1.out, Hel.out, Hec.out, by have := Hqq.out; omega, ?_, HMw.out⟩
              have h1 := HBB.out
              have h2 := HQQ.out
              have h3 := Hm2.out.size
              rcases h1 with e | e <;> omega
end Go.Proofs.YtnpkihobbcglcaaGreatDoor
