/- Part 35 of the proof of FnPXQuick (a QR code that is written for a text says this text in a picture): parts of the road. No condition. -/
import Derived.Test.YtnpkihobbcglcaaGreatDoorG34
/- The words of a symbol are taken out of the turns, block by block. -/
open Go Go.RowKit
namespace Go.Proofs.YtnpkihobbcglcaaGreatDoor
open Go.QZ

theorem i299 : (Tryz.prog.info? 299).map (fun i => (i.zero, i.size, i.bytes)) = some (some (.pointer none), 1, 8) := by kernel_rfl

/-- The first i of nb blocks are made, all words 0. -/
def BkSt (w0 : World) (R nb n : Nat) (dl : Nat → Nat) (i : Nat) (wx : World) : Prop :=
  ∃ (P D : Nat → Nat) (row : List Value), row.length = nb ∧ Blk wx R row ∧ Bks wx (R + 1) R i dl (fun j => List.replicate (dl j + n) 0) P D ∧ (∀ j, j < i → P j < wx.heap.size) ∧ QZ.Mod (· = R) w0 wx
theorem BkSt.mod {w0 wx wy : World} {R nb n i : Nat} {dl : Nat → Nat} (h : BkSt w0 R nb n dl i wx) (hm : QZ.Mod (fun _ => False) wx wy) : BkSt w0 R nb n dl i wy := by
  obtain ⟨P, D, row, h1, h2, h3, h4, h5⟩ := h
  exact ⟨P, D, row, h1, h2.mod' hm, h3.new hm, fun j hj => Nat.lt_of_lt_of_le (h4 j hj) hm.size, h5.trans hm.none⟩
theorem Blk.mod'' {w w' : World} {b : Nat} {cs : List Value} (h : Blk w b cs) (hm : QZ.Mod (fun _ => False) w w') : Blk w' b cs := h.mod' hm
theorem BkSt.more {w0 wy w2 : World} {R nb n i L : Nat} {dl : Nat → Nat} (h : BkSt w0 R nb n dl i wy) (hi : i < nb) (hL : dl i + n = L) (hP : Blk w2 (wy.heap.size + 1) [.int .i64 (dl i : Nat), .slice (some ⟨wy.heap.size, 0, none⟩) L L]) (hm : QZ.Mod (fun _ => False) (wy.alloc (zrow 5 (.int .u8 0) L)) w2) :
    BkSt w0 R nb n dl (i + 1) (w2.setCell ⟨R, i, none⟩ (.pointer (some ⟨wy.heap.size + 1, 0, none⟩))) := by
  obtain ⟨P, D, row, h1, h2, h3, h4, h5⟩ := h
  have hRl := h2.lt
  have hma : QZ.Mod (fun _ => False) wy (wy.alloc (zrow 5 (.int .u8 0) L)) := (QZ.Mod.refl _ _).alloc _
  have hm2 := hma.trans hm
  have hsz := hm2.size
  have hD : Blk w2 wy.heap.size (cellsN .u8 (List.replicate L 0)) := by
    have := (Blk.made wy 5 (.int .u8 0) L).mod' hm
    rwa [show List.replicate L (Value.int .u8 0) = cellsN .u8 (List.replicate L 0) from cellsN_rep .u8 L 0] at this
  have hR2 := h2.mod' hm2
  have hR3 := hR2.set i (.pointer (some ⟨wy.heap.size + 1, 0, none⟩))
  have hmS : QZ.Mod (fun k => k = R) w2 (w2.setCell ⟨R, i, none⟩ (.pointer (some ⟨wy.heap.size + 1, 0, none⟩))) := (QZ.Mod.refl (fun k => k = R) w2).setCell (p := ⟨R, i, none⟩) (.inr rfl) _
  have hB2 := h3.new hm2
  have hPl := hP.lt
  have hB3 := hB2.more (p := wy.heap.size + 1) (q := wy.heap.size) (n := dl i) (ys := List.replicate L 0) hmS (by rw [hR3.cell, List.getElem?_set_self (by rw [h1]; exact hi)]) (fun j hj => by rw [hR3.cell, hR2.cell, List.getElem?_set_ne (by omega)]) (by rw [List.length_replicate]; exact hmS.blk (by omega) hP) (hmS.blk (by omega) hD) (by omega) (by omega) (fun k hk => h4 k hk)
  refine ⟨_, _, row.set i _, by rw [List.length_set]; exact h1, hR3, ⟨hB3.ptr, fun j hj => ?_, fun j hj => ?_, hB3.ord, hB3.row⟩, fun j hj => ?_, (h5.trans hm2.none).trans hmS⟩
  · have := hB3.head j hj
    by_cases e : j = i
    · subst e; simp only [if_pos, hL] at this ⊢; exact this
    · simp only [if_neg e] at this ⊢; exact this
  · have := hB3.words j hj
    by_cases e : j = i
    · subst e; simp only [if_pos, hL] at this ⊢; exact this
    · simp only [if_neg e] at this ⊢; exact this
  · have hs := hmS.size
    show (if j = i then _ else _) < _
    split
    · omega
    · have := h4 j (by omega); omega

/-- What is read of a block. -/
theorem Bks.reads {w : World} {base R nb n : Nat} {dl P D : Nat → Nat} {raw : List Nat} {s ls o : Nat} (h : Bks w base R nb dl (Filled2 raw nb s ls n dl o) P D) {j : Nat} (hj : j < nb) :
    w.cell? ⟨R, j, none⟩ = some (.pointer (some ⟨P j, 0, none⟩)) ∧ w.cell? ⟨P j, 1, none⟩ = some (.slice (some ⟨D j, 0, none⟩) (dl j + n) (dl j + n)) ∧ (∀ k, k < dl j + n → (∃ x : Nat, w.cell? ⟨D j, k, none⟩ = some (.int .u8 x)) ∧ w.frozen? ⟨D j, k, none⟩ = false) := by
  have hl : (Filled2 raw nb s ls n dl o j).length = dl j + n := fillJ_len _ _ _ _ _ _ _
  refine ⟨h.ptr j hj, ?_, fun k hk => ⟨⟨_, ((h.words j hj).cell k).trans (cellsN_get _ _ _ (by rw [hl]; exact hk))⟩, (h.words j hj).frozen k⟩⟩
  have := (h.head j hj).at 1 rfl
  rwa [hl] at this

theorem Bks.step {wz : World} {R nb n s ls off j k : Nat} {dl P D : Nat → Nat} {raw : List Nat} (hB : Bks wz (R + 1) R nb dl (Filled2 raw nb s ls n dl off) P D) (hdl : ∀ j, dl j = if j < ls then s else s + 1) (hj : j < nb) (hl : ls ≤ nb) (hr : rho nb s ls j k = off) (hk : k < dl j + n) :
    ∃ pj dj L old : Nat, wz.cell? ⟨R, j, none⟩ = some (.pointer (some ⟨pj, 0, none⟩)) ∧ wz.cell? ⟨pj, 1, none⟩ = some (.slice (some ⟨dj, 0, none⟩) L L) ∧ k < L ∧ wz.cell? ⟨dj, k, none⟩ = some (.int .u8 old) ∧ wz.frozen? ⟨dj, k, none⟩ = false ∧ R < dj ∧ Bks ((wz.setCell ⟨dj, k, none⟩ (.int .u8 (nth raw off : Nat))).drew) (R + 1) R nb dl (Filled2 raw nb s ls n dl (off + 1)) P D ∧ off < nb * (s + n) + (nb - ls) := by
  obtain ⟨h1, h2, h3⟩ := hB.reads hj
  obtain ⟨⟨old, h4⟩, h5⟩ := h3 k hk
  refine ⟨P j, D j, dl j + n, old, h1, h2, hk, h4, h5, by have := (hB.ord j hj).1; omega, (hB.fill hj hl hr).new (QZ.Mod.drew (QZ.Mod.refl _ _)), ?_⟩
  have := rho_lt (n := nb) (s := s) (ls := ls) (j := j) (k := k) (e := n) hj hl (by
    rw [hdl] at hk
    by_cases e : j < ls
    · rw [if_pos e] at hk; rw [if_neg (by omega)]; exact hk
    · rw [if_neg e] at hk; rw [if_pos (by omega)]; exact hk)
  rwa [hr] at this

/-- The blocks were made. -/
def GotBks (w : World) (nb : Nat) (raw : List Nat) (s ls n tot : Nat) (dl : Nat → Nat) (e : Ending) (w' : World) : Prop :=
  ∃ (R : Nat) (P D : Nat → Nat), e = .returned (.tuple #[.slice (some ⟨R, 0, none⟩) nb nb, .nilIface]) ∧ Bks w' (R + 1) R nb dl (Filled2 raw nb s ls n dl tot) P D ∧ w.heap.size ≤ R ∧ QZ.Mod (fun _ => False) w w'

theorem rho_a {nb s ls j i : Nat} (h : i < s) : rho nb s ls j i = i * nb + j := by unfold rho; rw [if_pos h]
theorem rho_b {nb s ls j : Nat} (h : ls ≤ j) : rho nb s ls j s = s * nb + (j - ls) := by unfold rho; rw [if_neg (by omega), if_pos h, if_pos rfl]
theorem rho_c {nb s ls j i : Nat} (h : j < ls) (hi : s ≤ i) : rho nb s ls j i = s * nb + (nb - ls) + (i - s) * nb + j := by unfold rho; rw [if_neg (by omega), if_neg (by omega)]
theorem rho_d {nb s ls j i : Nat} (h : ls ≤ j) (hi : s ≤ i) : rho nb s ls j (i + 1) = s * nb + (nb - ls) + (i - s) * nb + j := by unfold rho; rw [if_neg (by omega), if_pos h, if_neg (by omega), show i + 1 - s - 1 = i - s by omega]

set_option maxRecDepth 20000 in
set_option maxHeartbeats 6400000 in
theorem getBlocks_c (X : Nat → Prop) (w : World) (A q v l : Nat) (raw : List Nat) (hV : Ver X w q v) (hv1 : 1 ≤ v) (hv : v < 8) (hl : l < 4) (hraw : Blk w A (cellsN .u8 raw)) (hrl : raw.length = totV v) :
    Calls Tryz.prog 185 #[.slice (some ⟨A, 0, none⟩) (totV v) (totV v), .pointer (some ⟨q, 0, none⟩), .int .i64 l] w (GotBks w (nbV v l) raw (dtV v l) (nbV v l - lgV v l) (ecV v l) (totV v) (dLen (nbV v l) (lgV v l) (dtV v l))) := by
  obtain ⟨s1, s2, s3, s4, s5, s6, s7, s8, s9, s10, s11⟩ := shape_all v hv hv1 l hl
  have hbl0 := shape_blocks v hv hv1 l hl
  have hbl4 := (blocks_some v hv hv1 l hl).2
  have hbl1 := (blocks_some v hv hv1 l hl).1
  obtain ⟨t0, t1, t2⟩ := tame_all v (lvI l) hv1 hv (lvI_lt l)
  change (ecL v l).1 ≤ 100 at t0
  change (ecL v l).2.length ≤ 4 at t1
  change ∀ x ∈ (ecL v l).2, x.1 ≤ 100 ∧ x.2 ≤ 1000 at t2
  have hE0 := getECL_c X w q v l hV hl
  unfold GotEC at hE0
  have hn0 : (ecL v l).1 = ecV v l := rfl
  have hnb0 : cntTo (ecL v l).2 (ecL v l).2.length = nbV v l := rfl
  obtain ⟨nb, hnb⟩ : ∃ nb, nbV v l = nb := ⟨_, rfl⟩
  obtain ⟨r, hr⟩ : ∃ r, lgV v l = r := ⟨_, rfl⟩
  obtain ⟨d, hd⟩ : ∃ d, dtV v l = d := ⟨_, rfl⟩
  obtain ⟨n, hn⟩ : ∃ n, ecV v l = n := ⟨_, rfl⟩
  obtain ⟨tot, htot⟩ : ∃ tot, totV v = tot := ⟨_, rfl⟩
  have c3 := hV.c3
  have hec : ecL v l = (n, (ecL v l).2) := by rw [← hn]; rfl
  obtain ⟨bl, hbl⟩ : ∃ bl, (ecL v l).2 = bl := ⟨_, rfl⟩
  rw [hbl] at hec
  rw [hbl, hnb, hr, hd] at hbl0
  rw [hbl] at hbl4 hbl1 t1 t2 hnb0
  rw [hnb] at s2 s9 s10 hnb0
  rw [hr] at s2 s9
  rw [hd] at s2 s4 s5
  rw [hn] at s2 s5 s6 s7
  rw [htot] at s2 s11 c3 hrl
  rw [hnb, hr, hd, hn, htot]
  obtain ⟨ls, hls⟩ : ∃ ls, nb - r = ls := ⟨_, rfl⟩
  rw [hls]
  obtain ⟨dl, hdl⟩ : ∃ dl, dLen nb r d = dl := ⟨_, rfl⟩
  rw [hdl]
  have hls1 : 1 ≤ ls ∧ ls ≤ nb := by omega
  have Hdl : Hid (∀ j, dl j = if j < ls then d else d + 1) := fun j => by rw [← hdl, ← hls]; rfl
  have Hgl : Hid (∀ t i, t < bl.length → i < (bl.getD t (0, 0)).1 → dl (cntTo bl t + i) = (bl.getD t (0, 0)).2) := fun t i ht hi => by rw [← hdl]; exact grp_len hbl0 s9 t i ht hi
  have Hgc : Hid (∀ t, t < bl.length → cntTo bl (t + 1) = cntTo bl t + (bl.getD t (0, 0)).1 ∧ cntTo bl (t + 1) ≤ nb) := fun t ht => grp_few hbl0 s9 t ht
  have Hb := Lib.hid (fun k hk => cntTo_le bl (fun x hx => (t2 x hx).1) k hk)
  have Ht2 : Hid (∀ k, k < bl.length → (bl.getD k (0, 0)).1 ≤ 100 ∧ (bl.getD k (0, 0)).2 ≤ 1000) := by
    intro k hk
    have h2 : bl.getD k (0, 0) = bl[k] := by rw [List.getD_eq_getElem?_getD, List.getElem?_eq_getElem hk]; rfl
    rw [h2]; exact t2 _ (List.getElem_mem hk)
  have htn : (tot != tot) = false := by simp
  have hA := hraw.lt
  have Htot := Lib.hid s2
  have Hnb0 := Lib.hid hnb0
  have Hraw := Lib.hid hraw
  have Hrl := Lib.hid hrl
  have HE0 := Lib.hid hE0
  have Hec := Lib.hid hec
  have Hls := Lib.hid hls
  clear hbl0 t2 s1 s3 hE0 hn0 hV hnb hr hd hn hbl hdl hec hnb0 hraw hrl s2 hls htot
  go_enter Tryz.func185, Tryz.ntmps185
  go_wp2_with fail
  refine (Version_GetTotalCodewords_c w q 0 _ c3).mono ?_
  rintro e w1 ⟨rfl, rfl⟩
  clear c3
  go_wp2_with fail
  refine HE0.out.mono ?_
  rintro e w1 ⟨C, B, rfl, hE, hXB, hXC, rfl⟩
  rw [Hec.out] at hE
  obtain ⟨e0, e1, hp⟩ := hE
  simp only at e0 e1 hp
  have Hp := Lib.hid hp
  clear hp
  go_wp2_with fail
  refine (ECBlocks_GetECBlocks_c w C (2 * lvI l) _ e1).mono ?_
  rintro e w1 ⟨rfl, rfl⟩
  generalize 2 * lvI l = oC at *
  clear e1 hXB hXC
  have He0 := Lib.hid e0
  clear e0
  go_wp2_with fail
  go_loopw [9, 12, 45] (fun a _ b wr => ∃ (k : Nat), k ≤ bl.length ∧ b = .int .i64 k ∧ a = .int .i64 (cntTo bl k : Nat) ∧ cntTo bl k ≤ 100 * k ∧ QZ.Mod (fun _ => False) w wr) (fun _ _ b _ => bl.length - (intOf b).toNat)
  case atStart => exact ⟨0, by omega, rfl, by simp [cntTo], by simp [cntTo], QZ.Mod.refl _ _⟩
  case round =>
    obtain ⟨k, hk, rfl, rfl, hc4, hm⟩ := hrel
    have Hm := Lib.hid hm
    clear hm
    by_cases hlt : k < bl.length
    · have c0 := ((Hp.out.mod Hm.out (fun f => f)) k hlt).1
      have c1 := ((Hp.out.mod Hm.out (fun f => f)) k hlt).2
      obtain ⟨n1, n2⟩ := Hb.out k hlt
      obtain ⟨m, hm1⟩ : ∃ m, cntTo bl (k + 1) = m := ⟨_, rfl⟩
      rw [hm1] at n1 n2
      have Hm1 := Lib.hid hm1
      clear hm1
      generalize cntTo bl k = nk at *
      generalize bl.getD k (0, 0) = x at *
      go_wp2
      go_roundw
      case rel => exact ⟨k + 1, by omega, by go_num, by rw [Hm1.out, n1]; go_num, by rw [Hm1.out]; omega, (Hm.out.alloc _).alloc _⟩
      case measure => simp [intOf] <;> omega
    · obtain rfl : k = bl.length := by omega
      rw [Hnb0.out]
      have hmk := make_run (P := Tryz.prog) Tryz.underlying296 i299 rfl (nb : Int) (nb : Int) nb nb rfl rfl (Nat.le_refl _) (by omega) (by omega) wr
      have hmA := (QZ.Mod.refl (fun _ => False) wr).alloc (zrow 299 (.pointer none) nb)
      have hrow := Blk.made wr 299 (.pointer none) nb
      have hszw := Hm.out.size
      have HmA := Lib.hid hmA
      have Hrow := Lib.hid hrow
      clear hmA hrow
      go_wp2_with fail
      clear hmk
      obtain ⟨R, hR⟩ : ∃ R, wr.heap.size = R := ⟨_, rfl⟩
      generalize wr.alloc (zrow 299 (.pointer none) nb) = wA at *
      rw [hR] at Hrow ⊢
      have hwR : w.heap.size ≤ R := by omega
      have HmwA := Lib.hid (Hm.out.trans HmA.out)
      have hst0 : BkSt wA R nb n dl 0 wA := ⟨fun _ => 0, fun _ => 0, List.replicate nb (.pointer none), by simp, Hrow.out, ⟨fun j hj => by omega, fun j hj => by omega, fun j hj => by omega, fun j hj => by omega, by omega⟩, fun j hj => by omega, QZ.Mod.refl _ _⟩
      have Hst0 := Lib.hid hst0
      clear hst0
      have HpA := Lib.hid (Hp.out.mod HmwA.out (fun f => f))
      have HeA := Lib.hid (cell_mod HmwA.out (fun f => f) He0.out)
      have hCR : ¬ C = R := by have := cell_lt He0.out; omega
      have hBR : ∀ t, t < bl.length → ¬ B = R := fun t ht => by have := cell_lt (Hp.out t ht).1; omega
      have HBR := Lib.hid hBR
      clear hBR Hrow Hm HmA hszw hR
      go_loopw [14, 58, 16, 17, 18, 19] (fun a b _ _ _ _ wx => ∃ t i : Nat, t ≤ bl.length ∧ b = .int .i64 t ∧ a = .int .i64 i ∧ cntTo bl t = i ∧ BkSt wA R nb n dl i wx) (fun _ b _ _ _ _ _ => bl.length - (intOf b).toNat)
      case atStart => exact ⟨0, 0, by omega, rfl, rfl, by simp [cntTo], Hst0.out⟩
      case round =>
        obtain ⟨t, i0, ht, rfl, rfl, hi0, hst⟩ := hrel
        have hmx : QZ.Mod (· = R) wA wr := by obtain ⟨_, _, _, _, _, _, _, h⟩ := hst; exact h
        by_cases hlt : t < bl.length
        · obtain ⟨g1, g2⟩ := Hgc.out t hlt
          rw [hi0] at g1
          have gl := fun i hi => Hgl.out t i hlt hi
          rw [hi0] at gl
          obtain ⟨y1, y2⟩ := Ht2.out t hlt
          have c0 := cell_mod hmx (HBR.out t hlt) (HpA.out t hlt).1
          have c1 := cell_mod hmx (HBR.out t hlt) (HpA.out t hlt).2
          obtain ⟨x, hx⟩ : ∃ x, bl.getD t (0, 0) = x := ⟨_, rfl⟩
          rw [hx] at g1 gl y1 y2 c0 c1
          obtain ⟨cnt, dat⟩ := x
          simp only at g1 gl y1 y2 c0 c1
          rw [g1] at g2
          have hbk := Blk.new wr [.int .i64 cnt, .int .i64 dat] 178
          have hstI := hst.mod ((QZ.Mod.refl (fun _ => False) wr).alloc (.cells #[.int .i64 cnt, .int .i64 dat] 178))
          obtain ⟨E, hE⟩ : ∃ E, wr.heap.size = E := ⟨_, rfl⟩
          rw [hE] at hbk
          have hER : ¬ E = R := by
            obtain ⟨_, _, _, _, h, _⟩ := hst
            have := h.lt; omega
          have Hbk := Lib.hid hbk
          have HstI := Lib.hid hstI
          have Hst := Lib.hid hst
          have Hmx := Lib.hid hmx
          clear hbk hstI hst hmx
          clear hi0
          go_wp2_with fail
          clear c0 c1
          generalize wr.alloc (.cells #[.int .i64 cnt, .int .i64 dat] 178) = wI at *
          try rw [hE]
          clear hE
          generalize decide ((t : Int) < (bl.length : Int)) = qb
          go_loopw [17, 14, 18, 19] (fun a b _ _ wy => ∃ i : Nat, i ≤ cnt ∧ a = .int .i64 i ∧ b = .int .i64 (i0 + i : Nat) ∧ BkSt wA R nb n dl (i0 + i) wy ∧ QZ.Mod (· = R) wI wy) (fun a _ _ _ _ => cnt - (intOf a).toNat)
          case atStart => exact ⟨0, by omega, rfl, rfl, HstI.out, QZ.Mod.refl _ _⟩
          case round =>
            obtain ⟨i, hi, rfl, rfl, hsy, hmy⟩ := hrel
            have d0 := (hmy.blk hER Hbk.out).cell 0
            have d1 := (hmy.blk hER Hbk.out).cell 1
            have hmAy : QZ.Mod (· = R) wA wr := by obtain ⟨_, _, _, _, _, _, _, h⟩ := hsy; exact h
            have ce := cell_mod hmAy hCR HeA.out
            have Hsy := Lib.hid hsy
            have Hmy := Lib.hid hmy
            have HmAy := Lib.hid hmAy
            clear hsy hmy hmAy
            go_wp2_with fail
            refine (getCount_c wr cnt dat).mono ?_
            rintro e w5 ⟨rfl, hm5⟩
            have d05 := cell_mod hm5 (fun f => f) d0
            have d15 := cell_mod hm5 (fun f => f) d1
            have ce5 := cell_mod hm5 (fun f => f) ce
            have Hm5 := Lib.hid hm5
            clear hm5
            clear d0 d1 ce
            by_cases hil : i < cnt
            · have hdli := gl i hil
              obtain ⟨L, hL⟩ : ∃ L, dat + n = L := ⟨_, rfl⟩
              have hL5 : L ≤ 500 := by have h2 := Hdl.out (i0 + i); split at h2 <;> omega
              have hin : i0 + i < nb := by omega
              go_wp2_with fail
              refine (getDataCodewords_c w5 cnt dat).mono ?_
              rintro e w6 ⟨rfl, hm6⟩
              have ce6 := cell_mod hm6 (fun f => f) ce5
              have hm6' := Hm5.out.trans hm6
              have Hm6' := Lib.hid hm6'
              clear hm6'
              clear hm6 d05 d15 ce5
              go_wp2_with fail
              refine (ECBlocks_GetECCodewordsPerBlock_c w6 C oC _ ce6).mono ?_
              rintro e w7 ⟨rfl, rfl⟩
              have hmk := make_run (P := Tryz.prog) Tryz.underlying32 i32 rfl ((n : Int) + (dat : Int)) ((n : Int) + (dat : Int)) L L (by omega) (by omega) (Nat.le_refl _) (by omega) (by omega) w6
              have hs6 := Hsy.out.mod Hm6'.out
              have Hs6 := Lib.hid hs6
              clear hs6
              clear ce6
              go_wp2_with fail
              refine (newBlock_c (w6.alloc (zrow 5 (.int .u8 0) L)) (dat : Int) (some ⟨w6.heap.size, 0, none⟩) L L).mono ?_
              rintro e w7 ⟨rfl, hP7, hm7⟩
              rw [World.size_alloc] at hP7 ⊢
              have hrow7 : ∃ old, w7.cell? ⟨R, i0 + i, none⟩ = some old ∧ w7.frozen? ⟨R, i0 + i, none⟩ = false := by
                obtain ⟨_, _, row, h1, h2, _, _, _⟩ := Hs6.out
                have h3 := (h2.mod' ((QZ.Mod.refl (fun _ => False) w6).alloc (zrow 5 (.int .u8 0) L))).mod' hm7
                exact ⟨_, (h3.cell (i0 + i)).trans (List.getElem?_eq_getElem (by omega)), h3.frozen _⟩
              obtain ⟨old, cold, cfr⟩ := hrow7
              have hmore := Hs6.out.more hin (by rw [hdli]; exact hL) (by rw [hdli]; exact hP7) hm7
              have hmN : QZ.Mod (· = R) wI (w7.setCell ⟨R, i0 + i, none⟩ (.pointer (some ⟨w6.heap.size + 1, 0, none⟩))) := ((((Hmy.out.trans Hm6'.out.none)).trans ((QZ.Mod.refl (fun _ => False) w6).alloc (zrow 5 (.int .u8 0) L)).none).trans hm7.none).setCell (p := ⟨R, i0 + i, none⟩) (.inr rfl) _
              have Hmore := Lib.hid hmore
              have HmN := Lib.hid hmN
              clear hmore hmN
              clear hP7 hm7 hmk
              go_wp2_with fail
              go_roundw
              case rel => exact ⟨i + 1, by omega, by go_num, by go_num, Hmore.out, HmN.out⟩
              case measure => simp [intOf] <;> omega
            · obtain rfl : i = cnt := by omega
              have hs5 := Hsy.out.mod Hm5.out
              have Hs5 := Lib.hid hs5
              clear hs5
              go_wp2_with fail
              go_roundw
              case rel => exact ⟨t + 1, i0 + i, by omega, by go_num, by go_num, g1, Hs5.out⟩
              case measure => simp [intOf] <;> omega
        · obtain rfl : t = bl.length := by omega
          rw [Hnb0.out] at hi0
          subst hi0
          have hsx := hst
          obtain ⟨P, D, row, hrow1, hrow2, hbks, hPlt, -⟩ := hst
          have hB0 : Bks wr (R + 1) R nb dl (Filled2 raw nb d ls n dl 0) P D := hbks.congr (fun j hj => by unfold Filled2; rw [fillJ_zero])
          have hd0 : dl 0 = d := by rw [Hdl.out, if_pos (by omega)]
          obtain ⟨r1, r2, -⟩ := hB0.reads (j := 0) (by omega)
          rw [hd0] at r2
          obtain ⟨L0, hL0⟩ : ∃ L0, d + n = L0 := ⟨_, rfl⟩
          have hL0i : (L0 : Int) - (n : Int) = (d : Int) := by omega
          rw [hL0] at r2
          have hrd : ∀ x, x < nb → ∃ pj dj, wr.cell? ⟨R, x, none⟩ = some (.pointer (some ⟨pj, 0, none⟩)) ∧ wr.cell? ⟨pj, 1, none⟩ = some (.slice (some ⟨dj, 0, none⟩) (dl x + n) (dl x + n)) := fun x hx => by
            obtain ⟨a1, a2, -⟩ := hB0.reads hx
            exact ⟨_, _, a1, a2⟩
          have hR0 : ∀ (wz : World) (c : Nat → List Nat), Bks wz (R + 1) R nb dl c P D → True := fun _ _ _ => trivial
          generalize P 0 = p0 at *
          generalize D 0 = q0 at *
          have ceR := cell_mod hmx hCR HeA.out
          have hmwR : QZ.Mod (fun k => R ≤ k) w wr := (HmwA.out.none).trans (hmx.mono (fun k _ e => by omega))
          have HB0 := Lib.hid hB0
          have Hrd := Lib.hid hrd
          have HmwR := Lib.hid hmwR
          have Hsx := Lib.hid hsx
          have Hbks := Lib.hid hbks
          have Hrow2 := Lib.hid hrow2
          have HPlt := Lib.hid hPlt
          clear hB0 hrd hmwR hsx hbks hrow2 hPlt
          go_wp2_with fail
          clear r1 r2
          go_loop [21, 22] (fun a _ => ∃ x : Nat, ls ≤ x + 1 ∧ x < nb ∧ a = .int .i64 x) (fun a _ => (intOf a + 1).toNat)
          case atStart => exact ⟨nb - 1, by omega, by omega, congrArg (Value.int .i64) (by omega)⟩
          case round =>
            obtain ⟨x, hx1, hx2, rfl⟩ := hrel
            obtain ⟨pj, dj, a1, a2⟩ := Hrd.out x hx2
            have hdx := Hdl.out x
            by_cases hxl : x < ls
            · rw [hdx, if_pos hxl, hL0] at a2
              have hxls : (x : Int) + 1 = (ls : Int) := by omega
              have tl : ((L0 : Int) == (L0 : Int)) = true := by simp
              clear hdx
              go_wp2_with fail
              refine (ECBlocks_GetECCodewordsPerBlock_c wr C oC _ ceR).mono ?_
              rintro e w7 ⟨rfl, rfl⟩
              clear a1 a2 ceR
              go_wp2_with fail
              try rw [hL0i]
              try rw [hxls]
              obtain ⟨wS, hwS⟩ : ∃ wS : World, wS = wr := ⟨_, rfl⟩
              subst hwS
              go_loopw [25, 26, 24] (fun a _ o wx => ∃ i off : Nat, i ≤ d ∧ a = .int .i64 i ∧ o = .int .i64 off ∧ off = i * nb ∧ Bks wx (R + 1) R nb dl (Filled2 raw nb d ls n dl off) P D ∧ QZ.Mod (fun k => R < k) wS wx) (fun a _ _ _ => d - (intOf a).toNat)
              case atStart => exact ⟨0, 0, by omega, rfl, rfl, by simp, HB0.out, QZ.Mod.refl _ _⟩
              case round =>
                obtain ⟨i, off, hi, rfl, rfl, hoff, hB4, hm4⟩ := hrel
                have HB4 := Lib.hid hB4
                have Hm4 := Lib.hid hm4
                have Hoff := Lib.hid hoff
                clear hB4 hm4 hoff
                by_cases hil : i < d
                · go_wp2_with fail
                  generalize decide ((i : Int) < (d : Int)) = qb
                  go_loopw [26, 24] (fun a o wx => ∃ j off : Nat, j ≤ nb ∧ a = .int .i64 j ∧ o = .int .i64 off ∧ off = i * nb + j ∧ Bks wx (R + 1) R nb dl (Filled2 raw nb d ls n dl off) P D ∧ QZ.Mod (fun k => R < k) wS wx) (fun a _ _ => nb - (intOf a).toNat)
                  case atStart => exact ⟨0, off, by omega, rfl, rfl, by have := Hoff.out; omega, HB4.out, Hm4.out⟩
                  case round =>
                    obtain ⟨j, off5, hj, rfl, rfl, hoff5, hB5, hm5⟩ := hrel
                    by_cases hjl : j < nb
                    · obtain ⟨pj, dj, L, old, f1, f2, f3, f4, f5, f6, f7, f8⟩ := hB5.step Hdl.out hjl (by omega) (show rho nb d ls j i = off5 by rw [rho_a hil, hoff5]) (by rw [Hdl.out]; split <;> omega)
                      have hoT : off5 < tot := by
                        rw [Htot.out]
                        have := Hls.out
                        generalize nb * (d + n) = z at *
                        omega
                      have craw := cell_mod (HmwR.out.trans (hm5.mono (fun k _ e => Nat.le_of_lt e)) : QZ.Mod (fun k => R ≤ k) w wr) (by omega) ((Hraw.out.cell off5).trans (cellsN_get _ _ _ (by rw [Hrl.out]; exact hoT)))
                      have hm6 := (hm5.setCell (p := ⟨dj, i, none⟩) (.inr f6) (.int .u8 (nth raw off5 : Nat))).drew
                      generalize nth raw off5 = u at *
                      have hoE := hoff5
                      have Hf7 := Lib.hid f7
                      have Hm6 := Lib.hid hm6
                      have HoE := Lib.hid hoE
                      have Hf8 := Lib.hid f8
                      clear f7 hm6 hoE f8
                      clear hB5 hm5 hoff5
                      go_wp2_with fail
                      go_region
                      go_wp2_with fail
                      go_roundw
                      case rel => exact ⟨j + 1, off5 + 1, by omega, by go_num, by go_num, by have := HoE.out; omega, Hf7.out, Hm6.out⟩
                      case measure => simp [intOf] <;> omega
                    · obtain rfl : nb = j := by omega
                      have HB5 := Lib.hid hB5
                      have Hm5 := Lib.hid hm5
                      have Hoff5 := Lib.hid hoff5
                      clear hB5 hm5 hoff5
                      go_wp2_with fail
                      go_roundw
                      case rel => exact ⟨i + 1, off5, by omega, by go_num, rfl, by rw [Nat.succ_mul]; have := Hoff5.out; omega, HB5.out, Hm5.out⟩
                      case measure => simp [intOf] <;> omega
                · obtain rfl : d = i := by omega
                  go_wp2_with fail
                  go_loopw [27, 24] (fun a o wx => ∃ j off : Nat, ls ≤ j ∧ j ≤ nb ∧ a = .int .i64 j ∧ o = .int .i64 off ∧ off = d * nb + (j - ls) ∧ Bks wx (R + 1) R nb dl (Filled2 raw nb d ls n dl off) P D ∧ QZ.Mod (fun k => R < k) wS wx) (fun a _ _ => nb - (intOf a).toNat)
                  case atStart => exact ⟨ls, off, by omega, by omega, by go_num, rfl, by have := Hoff.out; omega, HB4.out, Hm4.out⟩
                  case round =>
                    obtain ⟨j, off5, hlj, hj, rfl, rfl, hoff5, hB5, hm5⟩ := hrel
                    by_cases hjl : j < nb
                    · obtain ⟨pj, dj, L, old, f1, f2, f3, f4, f5, f6, f7, f8⟩ := hB5.step Hdl.out hjl (by omega) (show rho nb d ls j d = off5 by rw [rho_b hlj, hoff5]) (by rw [Hdl.out]; split <;> omega)
                      have hoT : off5 < tot := by
                        rw [Htot.out]
                        have := Hls.out
                        generalize nb * (d + n) = z at *
                        omega
                      have craw := cell_mod (HmwR.out.trans (hm5.mono (fun k _ e => Nat.le_of_lt e)) : QZ.Mod (fun k => R ≤ k) w wr) (by omega) ((Hraw.out.cell off5).trans (cellsN_get _ _ _ (by rw [Hrl.out]; exact hoT)))
                      have hm6 := (hm5.setCell (p := ⟨dj, d, none⟩) (.inr f6) (.int .u8 (nth raw off5 : Nat))).drew
                      generalize nth raw off5 = u at *
                      have hoE := hoff5
                      have Hf7 := Lib.hid f7
                      have Hm6 := Lib.hid hm6
                      have HoE := Lib.hid hoE
                      have Hf8 := Lib.hid f8
                      clear f7 hm6 hoE f8
                      clear hB5 hm5 hoff5
                      go_wp2_with fail
                      go_region
                      go_wp2_with fail
                      go_roundw
                      case rel => exact ⟨j + 1, off5 + 1, by omega, by omega, by go_num, by go_num, by have := HoE.out; omega, Hf7.out, Hm6.out⟩
                      case measure => simp [intOf] <;> omega
                    · obtain rfl : nb = j := by omega
                      have HB5 := Lib.hid hB5
                      have Hm5 := Lib.hid hm5
                      have Hoff5 := Lib.hid hoff5
                      clear hB5 hm5 hoff5
                      have hB6' := HB5.out.reads (j := 0) (by omega)
                      obtain ⟨r1, r2, -⟩ := hB6'
                      rw [Hdl.out, if_pos (by omega), hL0] at r2
                      generalize P 0 = p0 at *
                      generalize D 0 = q0 at *
                      go_wp2_with fail
                      clear r1 r2
                      go_loopw [29, 30, 24, 31] (fun a _ o _ wx => ∃ i off : Nat, d ≤ i ∧ i ≤ L0 ∧ a = .int .i64 i ∧ o = .int .i64 off ∧ off = d * nb + (nb - ls) + (i - d) * nb ∧ Bks wx (R + 1) R nb dl (Filled2 raw nb d ls n dl off) P D ∧ QZ.Mod (fun k => R < k) wS wx) (fun a _ _ _ _ => L0 - (intOf a).toNat)
                      case atStart => exact ⟨d, off5, by omega, by omega, rfl, rfl, by rw [Nat.sub_self, Nat.zero_mul]; have := Hoff5.out; omega, HB5.out, Hm5.out⟩
                      case round =>
                        obtain ⟨i, off, hdi, hi, rfl, rfl, hoff, hB4, hm4⟩ := hrel
                        have HB4 := Lib.hid hB4
                        have Hm4 := Lib.hid hm4
                        have Hoff := Lib.hid hoff
                        clear hB4 hm4 hoff
                        by_cases hil : i < L0
                        · go_wp2_with fail
                          generalize decide ((i : Int) < (L0 : Int)) = qb
                          go_loopw [30, 24, 31] (fun a o _ wx => ∃ j off : Nat, j ≤ nb ∧ a = .int .i64 j ∧ o = .int .i64 off ∧ off = d * nb + (nb - ls) + (i - d) * nb + j ∧ Bks wx (R + 1) R nb dl (Filled2 raw nb d ls n dl off) P D ∧ QZ.Mod (fun k => R < k) wS wx) (fun a _ _ _ => nb - (intOf a).toNat)
                          case atStart => exact ⟨0, off, by omega, rfl, rfl, by have := Hoff.out; omega, HB4.out, Hm4.out⟩
                          case round =>
                            obtain ⟨j, off5, hj, rfl, rfl, hoff5, hB5, hm5⟩ := hrel
                            by_cases hjl : j < nb
                            · by_cases hjs : j < ls
                              · have tj : decide ((j : Int) ≥ (ls : Int)) = false := by simp <;> omega
                                have tj2 : decide ((ls : Int) ≤ (j : Int)) = false := by simp <;> omega
                                obtain ⟨pj, dj, L, old, f1, f2, f3, f4, f5, f6, f7, f8⟩ := hB5.step Hdl.out hjl (by omega) (show rho nb d ls j i = off5 by rw [rho_c hjs hdi, hoff5]) (by rw [Hdl.out, if_pos hjs]; omega)
                                have hoT : off5 < tot := by
                                  rw [Htot.out]
                                  have := Hls.out
                                  generalize nb * (d + n) = z at *
                                  omega
                                have craw := cell_mod (HmwR.out.trans (hm5.mono (fun k _ e => Nat.le_of_lt e)) : QZ.Mod (fun k => R ≤ k) w wr) (by omega) ((Hraw.out.cell off5).trans (cellsN_get _ _ _ (by rw [Hrl.out]; exact hoT)))
                                have hm6 := (hm5.setCell (p := ⟨dj, i, none⟩) (.inr f6) (.int .u8 (nth raw off5 : Nat))).drew
                                generalize nth raw off5 = u at *
                                have hoE := hoff5
                                have Hf7 := Lib.hid f7
                                have Hm6 := Lib.hid hm6
                                have HoE := Lib.hid hoE
                                have Hf8 := Lib.hid f8
                                clear f7 hm6 hoE f8
                                clear hB5 hm5 hoff5
                                go_wp2_with fail
                                go_region
                                go_wp2_with fail
                                go_roundw
                                case rel => exact ⟨j + 1, off5 + 1, by omega, by go_num, by go_num, by have := HoE.out; omega, Hf7.out, Hm6.out⟩
                                case measure => simp [intOf] <;> omega
                              · have tj : decide ((j : Int) ≥ (ls : Int)) = true := by simp <;> omega
                                have tj2 : decide ((ls : Int) ≤ (j : Int)) = true := by simp <;> omega
                                obtain ⟨pj, dj, L, old, f1, f2, f3, f4, f5, f6, f7, f8⟩ := hB5.step Hdl.out hjl (by omega) (show rho nb d ls j (i + 1) = off5 by rw [rho_d (by omega) hdi, hoff5]) (by rw [Hdl.out, if_neg hjs]; omega)
                                have hoT : off5 < tot := by
                                  rw [Htot.out]
                                  have := Hls.out
                                  generalize nb * (d + n) = z at *
                                  omega
                                have craw := cell_mod (HmwR.out.trans (hm5.mono (fun k _ e => Nat.le_of_lt e)) : QZ.Mod (fun k => R ≤ k) w wr) (by omega) ((Hraw.out.cell off5).trans (cellsN_get _ _ _ (by rw [Hrl.out]; exact hoT)))
                                have hm6 := (hm5.setCell (p := ⟨dj, (i + 1), none⟩) (.inr f6) (.int .u8 (nth raw off5 : Nat))).drew
                                generalize nth raw off5 = u at *
                                have hoE := hoff5
                                have Hf7 := Lib.hid f7
                                have Hm6 := Lib.hid hm6
                                have HoE := Lib.hid hoE
                                have Hf8 := Lib.hid f8
                                clear f7 hm6 hoE f8
                                clear hB5 hm5 hoff5
                                go_wp2_with fail
                                go_region
                                go_wp2_with fail
                                go_roundw
                                case rel => exact ⟨j + 1, off5 + 1, by omega, by go_num, by go_num, by have := HoE.out; omega, Hf7.out, Hm6.out⟩
                                case measure => simp [intOf] <;> omega
                            · obtain rfl : nb = j := by omega
                              have HB5 := Lib.hid hB5
                              have Hm5 := Lib.hid hm5
                              have Hoff5 := Lib.hid hoff5
                              clear hB5 hm5 hoff5
                              go_wp2_with fail
                              go_roundw
                              case rel => exact ⟨i + 1, off5, by omega, by omega, by go_num, rfl, by rw [show i + 1 - d = i - d + 1 by omega, Nat.succ_mul]; have := Hoff5.out; omega, HB5.out, Hm5.out⟩
                              case measure => simp [intOf] <;> omega
                        · obtain rfl : L0 = i := by omega
                          have hoT : off = tot := by
                            rw [Hoff.out, Htot.out, show L0 - d = n by omega, Nat.mul_add, Nat.mul_comm nb d, Nat.mul_comm nb n]
                            have := Hls.out
                            omega
                          rw [hoT] at HB4
                          have hfin : QZ.Mod (fun _ => False) w wr := (QZ.Mod.refl (fun _ => False) w).new (HmwR.out.trans (Hm4.out.mono (fun k _ e => Nat.le_of_lt e)) : QZ.Mod (fun k => R ≤ k) w wr) (fun k hk => by omega)
                          have Hfin := Lib.hid hfin
                          clear hfin
                          go_wp2_with fail
                          go_ret2
                          exact ⟨R, P, D, rfl, HB4.out, hwR, Hfin.out⟩
            · rw [if_neg hxl] at hdx
              obtain ⟨L1, hL1⟩ : ∃ L1, dl x + n = L1 := ⟨_, rfl⟩
              rw [hL1] at a2
              have tl : ((L1 : Int) == (L0 : Int)) = false := by rw [beq_eq_false_iff_ne]; omega
              clear hdx
              go_wp2_with fail
              go_round
              case rel => exact ⟨x - 1, by omega, by omega, congrArg (Value.int .i64) (by omega)⟩
              case measure => simp [intOf] <;> omega
end Go.Proofs.YtnpkihobbcglcaaGreatDoor
