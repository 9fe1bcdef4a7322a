/- Part 41 of the proof of FnPXQuick (a QR code that is written for a text says this text in a picture): parts of the road. No condition. -/
import Derived.Test.YtnpkihobbcglcaaGreatDoorG09
import Derived.Test.YtnpkihobbcglcaaGreatDoorG33
import Derived.Test.YtnpkihobbcglcaaGreatDoorG35
import Derived.Test.YtnpkihobbcglcaaGreatDoorG36
import Derived.Test.YtnpkihobbcglcaaGreatDoorG40
/- The decoder: from the modules to the text. -/
open Go Go.RowKit
namespace Go.Proofs.YtnpkihobbcglcaaGreatDoor
open Go.QZ

/-- The text was read. -/
def DecOut (s : ByteArray) (e : Ending) (w' : World) : Prop :=
  ∃ (res D N cap : Nat) (sg : Value) (lv : ByteArray), e = .returned (.tuple #[.pointer (some ⟨res, 0, none⟩), .nilIface]) ∧ Blk w' res [.slice (some ⟨D, 0, none⟩) N cap, .int .i64 (8 * N : Nat), .string s, sg, .string lv, .int .i64 0, .int .i64 0, .nilIface, .int .i64 (-1), .int .i64 (-1), .int .i64 1] ∧ SegsOK 0 w' sg ∧ (∀ j, j < N → ∃ b : Nat, w'.cell? ⟨D, j, none⟩ = some (.int .u8 b)) ∧ 1 ≤ N ∧ N ≤ 1000

theorem Filled2_at (raw : List Nat) (nb s ls n o j : Nat) (dl : Nat → Nat) : Filled2 raw nb s ls n dl o j = fillJ raw nb s ls o (dl j + n) j := rfl
theorem dOff_le (nb r d j : Nat) (h : j ≤ nb) (hr : r ≤ nb) : dOff nb r d j ≤ nb * d + r := by
  unfold dOff
  have := Nat.mul_le_mul_right d h
  omega
theorem dRow_small (bs : List Bool) (nb r d j : Nat) : Small (dRow bs nb r d j) := small_bytes _ _ _
/-- The words of a row among those of all. -/
theorem dRow_at (bs : List Bool) (nb r d j i N : Nat) (hj : j < nb) (hr : r ≤ nb) (hN : N = nb * d + r) (hi : i < dLen nb r d j) : nth (bytesFrom bs 0 N) (dOff nb r d j + i) = nth (dRow bs nb r d j) i := by
  have := dOff_mono nb r d j hj hr
  unfold dRow
  rw [bytesFrom_get _ _ _ _ (by omega), bytesFrom_get _ _ _ _ hi]
  congr 1
  omega

set_option maxRecDepth 20000 in
set_option maxHeartbeats 3200000 in
theorem decodeIn_c (w : World) (dd r F P p B rs v l k : Nat) (ws : List Nat) (g : Nat → Nat → Bool) (s : ByteArray) (hb : List Bool) (es : List (List Nat)) (x2 : Value)
    (hdd : Blk w dd [.pointer (some ⟨r, 0, none⟩)]) (hr : Blk w r [.pointer (some ⟨F, 0, none⟩)]) (hF : Fld (fun j => j = P ∨ j = B) w F) (hP : Pars w P p (.pointer none) (.pointer none)) (hB : BM w p B (17 + 4 * v) (17 + 4 * v) rs ws g)
    (hy : Sym (chs s) l v k hb es) (hg : ∀ x y, x < 17 + 4 * v → y < 17 + 4 * v → g x y = decide (qrF v l k (encB (symW l v hb es)) x y = 1)) (hl : l < 4) (hs1 : 1 ≤ s.size) (hs60 : s.size ≤ 60) (hpP : p ≠ P) (hBP : B ≠ P) (hdP : dd ≠ P) (hdB : dd ≠ B) (hrP : r ≠ P) (hrB : r ≠ B) :
    Calls Tryz.prog 151 #[.pointer (some ⟨dd, 0, none⟩), .pointer (some ⟨P, 0, none⟩), x2] w fun e w' => DecOut s e w' ∧ QZ.Mod (fun j => (j = P ∨ j = B) ∨ w.heap.size ≤ j) w w' := by
  have v1 := hy.v1
  have v8 := hy.v8
  have k8 := hy.k8
  obtain ⟨s1, s2, s3, s4, s5, s6, s7, s8, s9, s10, s11⟩ := shape_all v v8 v1 l hl
  have hX : ∀ j, (j = P ∨ j = B) → j < w.heap.size := fun j e => by
    rcases e with rfl | rfl
    · exact hP.head.lt
    · exact hB.words.lt
  have Hfmt := Lib.hid (qr_format v l k (encB (symW l v hb es)) v1 v8 hl k8 g hg)
  have h7 : v = 7 → rdF g 0 (pV 45) = 31892 := fun e => by
    subst e
    exact qr_version l k (encB (symW l 7 hb es)) hl k8 g hg
  have Hread := Lib.hid (hy.read hl g hg)
  have Hwords := Lib.hid (hy.words hl)
  have Hblock := Lib.hid (hy.block hl)
  have Hleft := Lib.hid hy.left
  have Hec := Lib.hid hy.ec
  have Hes := Lib.hid hy.ecs
  have HX := Lib.hid hX; have H7 := Lib.hid h7; have Hdd := Lib.hid hdd; have Hr := Lib.hid hr; have HF := Lib.hid hF; have HP := Lib.hid hP; have HB := Lib.hid hB
  have hPl := hP.head.lt
  have hBl := hB.words.lt
  have Hs3 := Lib.hid s3
  clear hX h7 hy hg hdd hr hF hP hB s1 s2 s3
  go_enter Tryz.func151, Tryz.ntmps151
  go_wp2_with fail
  refine (readVersion_c (fun j => j = P ∨ j = B) w P p B (17 + 4 * v) rs v ws g _ ⟨_, HP.out, .inl rfl⟩ HX.out HB.out rfl v1 v8 H7.out (.inl rfl)).mono ?_
  rintro e w1 ⟨q, rfl, hV, ⟨ver, hP1, hver⟩, hm1⟩
  have hB1 := HB.out.mod hm1 hpP hBP
  have HV := Lib.hid hV
  have HP1 := Lib.hid hP1
  have Hver := Lib.hid hver
  have Hm1 := Lib.hid hm1
  have HB1 := Lib.hid hB1
  clear hV hP1 hver hm1 hB1
  go_wp2_with fail
  refine (readFI_c w1 P p B (17 + 4 * v) rs ws g ver HP1.out HB1.out (by omega) (8 * l + k) l k rfl hl k8 (rdF g 0 (p1 6)) Hfmt.out.1 rfl Hfmt.out.2).mono ?_
  rintro e w2 ⟨qf, rfl, hfi, hqf, hP2, hm2⟩
  have hs1w := Hm1.out.size
  have hB2 := HB1.out.mod hm2 hpP hBP
  have hV2 := HV.out.mod hm2 (fun j e => .inl e)
  have hver2 : ver = .pointer none ∨ ∃ q, ver = .pointer (some ⟨q, 0, none⟩) ∧ Ver (fun j => j = P ∨ j = B) w2 q v := by
    rcases Hver.out with h | ⟨q', h, hV'⟩
    · exact .inl h
    · exact .inr ⟨q', h, hV'.mod hm2 (fun j e => .inl e)⟩
  have hm02 := Hm1.out.trans hm2
  have hfi0 := hfi.cell 0
  have Hfi := Lib.hid hfi
  have HP2 := Lib.hid hP2
  have Hm02 := Lib.hid hm02
  have HB2 := Lib.hid hB2
  have HV2 := Lib.hid hV2
  have Hver2 := Lib.hid hver2
  clear hfi hP2 hm02 hB2 hV2 hver2
  clear hm2 HV HP1 Hver HB1
  go_wp2_with fail
  refine (FormatInformation_GetErrorCorrectionLevel_c w2 qf 0 _ hfi0).mono ?_
  rintro e w3 ⟨rfl, rfl⟩
  clear hfi0
  go_wp2_with fail
  refine (readCW_c (fun j => j = P ∨ j = B) w2 P p B (17 + 4 * v) rs v l k qf ws g ⟨ver, HP2.out, Hver2.out⟩ Hfi.out (by omega) hpP hBP (by omega) HB2.out rfl v1 v8 k8 H7.out (fun j e => by have := HX.out j e; have := Hm02.out.size; omega) (.inl rfl) (.inr rfl)).mono ?_
  rw [Hread.out]
  rintro e w3 ⟨R0, rfl, hraw, hR0, hm3⟩
  have hV3 := HV2.out.mod hm3 (fun j e => e)
  have hm03 : QZ.Mod (fun j => j = P ∨ j = B) w w3 := (Hm02.out.mono (fun j _ e => .inl e)).trans hm3
  have Hraw := Lib.hid hraw
  have HV3 := Lib.hid hV3
  have Hm03 := Lib.hid hm03
  clear hraw hV3 hm03
  clear hm3 HP2 HB2 HV2 Hver2 Hfi
  go_wp2_with fail
  refine (getBlocks_c (fun j => j = P ∨ j = B) w3 R0 q v l (symW l v hb es) HV3.out v1 v8 hl Hraw.out Hwords.out).mono ?_
  rintro e w4 ⟨R, PP, DD, rfl, hbk, hRl, hm4⟩
  have hbk' := hbk.congr (c' := fun j => dRow hb (nbV v l) (lgV v l) (dtV v l) j ++ es.getD j []) (fun j hj => by rw [Filled2_at]; exact (Hblock.out j hj).symm)
  have s3 := Hs3.out
  obtain ⟨nb, hnb⟩ : ∃ nb, nbV v l = nb := ⟨_, rfl⟩
  obtain ⟨rg, hrg⟩ : ∃ rg, lgV v l = rg := ⟨_, rfl⟩
  obtain ⟨dt, hdt⟩ : ∃ dt, dtV v l = dt := ⟨_, rfl⟩
  obtain ⟨n, hn⟩ : ∃ n, ecV v l = n := ⟨_, rfl⟩
  obtain ⟨N, hN⟩ : ∃ N, roomD v l = N := ⟨_, rfl⟩
  rw [hnb, hrg, hdt] at hbk'
  rw [hnb]
  rw [hnb, hrg, hdt, hN] at s3
  rw [hdt, hn] at s5
  rw [hdt] at s4
  rw [hn] at s6 s7
  rw [hN] at s8
  rw [hrg, hnb] at s9
  rw [hnb] at s10
  obtain ⟨dl, hdl⟩ : ∃ dl, dLen nb rg dt = dl := ⟨_, rfl⟩
  rw [hdl] at hbk'
  obtain ⟨cW, hcW⟩ : ∃ cW : Nat → List Nat, (fun j => dRow hb nb rg dt j ++ es.getD j []) = cW := ⟨_, rfl⟩
  rw [hcW] at hbk'
  obtain ⟨ys, hys⟩ : ∃ ys, bytesFrom hb 0 N = ys := ⟨_, rfl⟩
  have hysl : ys.length = N := by rw [← hys, bytesFrom_length]
  have Hys256 : Hid (∀ x ∈ ys, x < 256) := by rw [← hys]; exact small_bytes hb 0 N
  have hcWj : ∀ j, cW j = dRow hb nb rg dt j ++ es.getD j [] := fun j => by rw [← hcW]
  have Hlen : Hid (∀ j, j < nb → (cW j).length = dl j + n ∧ Small (cW j) ∧ (∀ i, i < n → ev (nth expL i) (cW j) = 0) ∧ 1 ≤ dl j ∧ dl j + n ≤ 400) := fun j hj => by
    obtain ⟨e1, e2, e3⟩ := Hec.out j (by rw [hnb]; exact hj)
    rw [hnb, hrg, hdt, hn] at e3
    rw [hn] at e1
    have hd2 := dLen_two nb rg dt j
    refine ⟨by rw [hcWj, List.length_append, dRow_len, e1, hdl], by rw [hcWj]; exact (dRow_small _ _ _ _ _).app e2, fun i hi => by rw [hcWj]; exact e3 i hi, ?_, ?_⟩
    · rw [← hdl]; omega
    · rw [← hdl]; omega
  have Hat : Hid (∀ j i, j < nb → i < dl j → nth (cW j) i = nth ys (dOff nb rg dt j + i)) := fun j i hj hi => by
    rw [hcWj, nth_app_left _ _ _ (by rw [dRow_len, hdl]; exact hi), ← hys, dRow_at hb nb rg dt j i N hj (by omega) s3 (by rw [hdl]; exact hi)]
  have Hof : Hid (∀ j, j < nb → dOff nb rg dt (j + 1) = dOff nb rg dt j + dl j ∧ dOff nb rg dt j + dl j ≤ N) := fun j hj => by
    have h1 := dOff_succ nb rg dt j
    have h2 := dOff_mono nb rg dt j hj (by omega)
    rw [hdl] at h1 h2
    exact ⟨h1, by omega⟩
  have Hof2 : Hid (∀ j, j ≤ nb → dOff nb rg dt j ≤ N) := fun j hj => by rw [s3]; exact dOff_le nb rg dt j hj (by omega)
  have HofN : Hid (dOff nb rg dt nb = N) := by show _ = _; rw [s3]; exact dOff_all nb rg dt (by omega)
  have HPlt : Hid (∀ j, j < nb → PP j < w4.heap.size) := fun j hj => (hbk'.head j hj).lt
  have hN1 : 1 ≤ N := by have := Nat.mul_le_mul (show 1 ≤ nb by omega) s4; omega
  have hqR : q < R := by have := HV3.out.lt; omega
  have hq0 : w4.cell? ⟨q, 0, none⟩ = some (.int .i64 v) := (HV3.out.new hm4).c0
  have hRl4 : R < w4.heap.size := cell_lt (hbk'.ptr 0 (by omega))
  have hwR : w.heap.size ≤ R := by have := Hm03.out.size; omega
  have HSX : Hid (QZ.Mod (fun j => (j = P ∨ j = B) ∨ w.heap.size ≤ j) w w4) := (Hm03.out.mono (fun j _ e => .inl e)).trans hm4.none
  have HFf := Lib.hid HF.out.full
  have Hlf := Lib.hid Hleft.out
  have hddl := Hdd.out.lt
  have hrl := Hr.out.lt
  rw [hN, hys] at Hlf
  have Hbk' := Lib.hid hbk'
  have HcW := Lib.hid hcW
  have Hys := Lib.hid hys
  have Hq0 := Lib.hid hq0
  have Hysl := Lib.hid hysl
  have Hs3 := Lib.hid s3
  clear hbk' hcW hys hq0 hysl s3
  have hdtl : dt ≤ 200 := by omega
  clear hbk hm4 Hm03 HV3 Hraw Hread Hwords Hblock Hleft Hec Hes hnb hrg hdt hn hN hdl s11 hcWj HF Hs3
  go_wp2_with fail
  go_loop [14, 16, 67] (fun a _ b => ∃ j o : Nat, j ≤ nb ∧ b = .int .i64 j ∧ a = .int .i64 o ∧ o = dOff nb rg dt j) (fun _ _ b => nb - (intOf b).toNat)
  case atStart => exact ⟨0, 0, by omega, rfl, rfl, by simp [dOff]⟩
  case round =>
    obtain ⟨j, o, hj, rfl, rfl, ho⟩ := hrel
    have hoN := Hof2.out j hj
    rw [← ho] at hoN
    by_cases hlt : j < nb
    · have c1 := Hbk'.out.ptr j hlt
      have c2 := (Hbk'.out.head j hlt).cell 0
      have hof := (Hof.out j hlt).1
      have hl5 := (Hlen.out j hlt).2.2.2.2
      change w4.cell? ⟨PP j, 0, none⟩ = some (.int .i64 (dl j : Nat)) at c2
      rw [← ho] at hof
      generalize PP j = pj at *
      generalize dl j = dj at *
      have Hof_ := Lib.hid hof
      clear hof
      clear ho
      go_wp2_with fail
      refine (DataBlock_GetNumDataCodewords_c w4 pj 0 _ c2).mono ?_
      rintro e w5 ⟨rfl, rfl⟩
      go_wp2_with fail
      go_round
      case rel => exact ⟨j + 1, o + dj, by omega, by go_num, by go_num, Hof_.out.symm⟩
      case measure => simp [intOf]; omega
    · obtain rfl : nb = j := by omega
      rw [HofN.out] at ho
      subst ho
      clear hoN
      have hmk := make_run (P := Tryz.prog) Tryz.underlying32 i32 rfl (o : Int) (o : Int) o o rfl rfl (Nat.le_refl _) (by omega) (by omega) w4
      have hm5 := (QZ.Mod.refl (fun _ => False) w4).alloc (zrow 5 (.int .u8 0) o)
      have hO0 := Blk.made w4 5 (.int .u8 0) o
      rw [show List.replicate o (Value.int .u8 0) = cellsN .u8 (frontTo ys 0 o) from by rw [frontTo_zero]; exact cellsN_rep .u8 o 0] at hO0
      have hb5 := Hbk'.out.new hm5
      have hSX5 := HSX.out.trans hm5.none
      have hq5 := cell_mod hm5 (fun f => f) Hq0.out
      have Hm5 := Lib.hid hm5
      have HO0 := Lib.hid hO0
      have Hb5 := Lib.hid hb5
      have HSX5 := Lib.hid hSX5
      have Hq5 := Lib.hid hq5
      clear hm5 hO0 hb5 hSX5 hq5
      go_wp2_with fail
      clear hmk
      obtain ⟨O, hO⟩ : ∃ O, w4.heap.size = O := ⟨_, rfl⟩
      generalize w4.alloc (zrow 5 (.int .u8 0) o) = w5 at *
      rw [hO] at HO0 HPlt hRl4 ⊢
      have hO5 : O < w5.heap.size := HO0.out.lt
      clear hO Hbk' HSX Hq0 Hm5
      go_loopw [18, 80, 20, 21, 22, 23, 24] (fun a b _ _ _ _ _ wx => ∃ j off : Nat, j ≤ nb ∧ b = .int .i64 j ∧ a = .int .i64 off ∧ off = dOff nb rg dt j ∧ Blk wx O (cellsN .u8 (frontTo ys off o)) ∧ Bks wx (R + 1) R nb dl cW PP DD ∧ QZ.Mod (fun k => R < k) w5 wx) (fun _ b _ _ _ _ _ _ => nb - (intOf b).toNat)
      case atStart => exact ⟨0, 0, by omega, rfl, rfl, by simp [dOff], HO0.out, Hb5.out, QZ.Mod.refl _ _⟩
      case round =>
        obtain ⟨j, off, hj, rfl, rfl, hoff, hbO, hbB, hmB⟩ := hrel
        have hoN := Hof2.out j hj
        rw [← hoff] at hoN
        by_cases hlt : j < nb
        · have c1 := hbB.ptr j hlt
          have c2 := (hbB.head j hlt).cell 0
          have c3 := (hbB.head j hlt).cell 1
          have cw := hbB.words j hlt
          obtain ⟨e1, e2, e3, e4, e5⟩ := Hlen.out j hlt
          change wr.cell? ⟨PP j, 0, none⟩ = some (.int .i64 (dl j : Nat)) at c2
          change wr.cell? ⟨PP j, 0 + 1, none⟩ = some (.slice (some ⟨DD j, 0, none⟩) (cW j).length (cW j).length) at c3
          obtain ⟨L, hL⟩ : ∃ L, (cW j).length = L := ⟨_, rfl⟩
          rw [hL] at c3
          have hPP := HPlt.out j hlt
          have hord := hbB.ord j hlt
          obtain ⟨hof1, hof2⟩ := Hof.out j hlt
          rw [← hoff] at hof1 hof2
          have hat := fun i hi => Hat.out j i hlt hi
          rw [← hoff] at hat
          have hmSX : QZ.Mod (fun k => (k = P ∨ k = B) ∨ w.heap.size ≤ k) w wr := HSX5.out.trans (hmB.mono (fun k _ e => .inr (by omega)))
          have hdr := hmSX.blk (by omega) Hdd.out
          have hrr := hmSX.blk (by omega) Hr.out
          have hFr := (HFf.out.mod hmSX (fun k e => e)).weak (Y := fun _ => False) (fun _ f => f.elim)
          have hsame := fun w' (hm : QZ.Mod (· = DD j) wr w') hb => hbB.same (w' := w') hlt hm hb
          obtain ⟨pj, hpj⟩ : ∃ pj, PP j = pj := ⟨_, rfl⟩
          obtain ⟨dj, hdj⟩ : ∃ dj, DD j = dj := ⟨_, rfl⟩
          obtain ⟨lj, hlj⟩ : ∃ lj, dl j = lj := ⟨_, rfl⟩
          obtain ⟨cs, hcs⟩ : ∃ cs, cW j = cs := ⟨_, rfl⟩
          rw [hpj] at c1 c2 c3 hPP
          rw [hdj] at c3 cw hsame
          rw [hlj] at c2 e1 e4 e5 hof1 hof2 hat
          rw [hcs] at cw hL e1 e2 e3 hat hsame
          have hord2 : R < dj ∧ dj < O := by rw [← hdj]; omega
          have Hwd : Hid (∀ wx, Bks wx (R + 1) R nb dl cW PP DD → Blk wx dj (cellsN .u8 cs)) := fun wx h => by have := h.words j hlt; rwa [hdj, hcs] at this
          have Hcw := Lib.hid cw
          have He2 := Lib.hid e2
          have He3 := Lib.hid e3
          have Hdr := Lib.hid hdr
          have Hrr := Lib.hid hrr
          have HFr := Lib.hid hFr
          have Hsame := Lib.hid hsame
          have HbO := Lib.hid hbO
          have HbB := Lib.hid hbB
          have HmB := Lib.hid hmB
          have Hoff := Lib.hid hoff
          have HL := Lib.hid hL
          have Hat := Lib.hid hat
          clear cw e2 e3 hdr hrr hFr hsame hbO hbB hmB hoff hL hat
          clear hord hmSX hpj hdj hlj hcs
          go_wp2_with fail
          refine (DataBlock_GetCodewords_c wr pj 0 _ c3).mono ?_
          rintro e w6 ⟨rfl, rfl⟩
          go_wp2_with fail
          refine (DataBlock_GetNumDataCodewords_c wr pj 0 _ c2).mono ?_
          rintro e w6 ⟨rfl, rfl⟩
          go_wp2_with fail
          refine (correct_c wr dd r F dj L n lj cs Hdr.out Hrr.out HFr.out Hcw.out HL.out He2.out (by have := HL.out; omega) (by have := HL.out; omega) (by have := HL.out; omega) (by omega) He3.out).mono ?_
          rintro e w6 ⟨rfl, hcw6, hm6⟩
          have hB6 := Hsame.out w6 hm6 hcw6
          have hO6 := hm6.blk (by omega) HbO.out
          have hmB6 := HmB.out.trans (hm6.mono (fun k _ e => by omega))
          have HB6 := Lib.hid hB6
          have HO6 := Lib.hid hO6
          have HmB6 := Lib.hid hmB6
          clear hB6 hO6 hmB6
          clear hm6 hcw6 c1 c2 c3 Hcw
          go_wp2_with fail
          generalize decide ((j : Int) < (nb : Int)) = qb
          go_loopw [24, 18] (fun a b wx => ∃ i off2 : Nat, i ≤ lj ∧ a = .int .i64 i ∧ b = .int .i64 off2 ∧ off2 = off + i ∧ Blk wx O (cellsN .u8 (frontTo ys off2 o)) ∧ Bks wx (R + 1) R nb dl cW PP DD ∧ QZ.Mod (fun k => R < k) w5 wx) (fun a _ _ => lj - (intOf a).toNat)
          case atStart => exact ⟨0, off, by omega, rfl, rfl, by omega, HO6.out, HB6.out, HmB6.out⟩
          case round =>
            obtain ⟨i, off2, hi, rfl, rfl, hoff2, hbO2, hbB2, hmB2⟩ := hrel
            by_cases hil : i < lj
            · have hiL : i < L := by have := HL.out; omega
              have cx := (Hwd.out wr hbB2).cell i
              rw [cellsN_get _ _ _ (by have := HL.out; omega), Hat.out i hil, ← hoff2] at cx
              have ho2 : off2 < o := by omega
              have hcell := hbO2.cell off2
              rw [cellsN_get _ _ _ (by rw [frontTo_len _ _ _ (by have := Hysl.out; omega) (by omega)]; exact ho2)] at hcell
              have hfr := hbO2.frozen off2
              have hbO3 := hbO2.set off2 (.int .u8 (nth ys off2 : Nat))
              rw [cellsN_set, frontTo_succ _ _ _ (by have := Hysl.out; omega) ho2] at hbO3
              have hmO : QZ.Mod (· = O) wr (wr.setCell ⟨O, off2, none⟩ (.int .u8 (nth ys off2 : Nat))) := (QZ.Mod.refl (· = O) wr).setCell (p := ⟨O, off2, none⟩) (.inr rfl) _
              have hbB3 := hbB2.far hmO (O := O) (fun k e => by omega) HPlt.out hRl4
              have hmB3 := hmB2.trans (hmO.mono (fun k _ e => by omega))
              generalize nth ys off2 = u at *
              generalize nth (frontTo ys off2 o) off2 = old at *
              have HbO3 := Lib.hid hbO3
              have HbB3 := Lib.hid hbB3
              have HmB3 := Lib.hid hmB3
              have Hoff2_ := Lib.hid hoff2
              clear hbO3 hbB3 hmB3 hoff2
              clear hbO2 hbB2 hmB2 hmO
              go_wp2_with fail
              go_roundw
              case rel => exact ⟨i + 1, off2 + 1, by omega, by go_num, by go_num, by have := Hoff2_.out; omega, HbO3.out, HbB3.out, HmB3.out⟩
              case measure => simp [intOf]; omega
            · obtain rfl : lj = i := by omega
              have HbO2 := Lib.hid hbO2
              have HbB2 := Lib.hid hbB2
              have HmB2 := Lib.hid hmB2
              have Hoff2_ := Lib.hid hoff2
              clear hbO2 hbB2 hmB2 hoff2
              go_wp2_with fail
              go_roundw
              case rel => exact ⟨j + 1, off2, by omega, by go_num, rfl, by have := Hoff2_.out; omega, HbO2.out, HbB2.out, HmB2.out⟩
              case measure => simp [intOf]; omega
        · obtain rfl : nb = j := by omega
          rw [HofN.out] at hoff
          subst hoff
          have hfull : frontTo ys off off = ys := by
            have := frontTo_all ys off (by have := Hysl.out; omega)
            rw [Hysl.out] at this
            rw [this, Nat.sub_self]; simp
          rw [hfull] at hbO
          have hD : ∀ i, i < off → wr.cell? ⟨O, i, none⟩ = some (.int .u8 (nth ys i : Nat)) := fun i hi => (hbO.cell i).trans (cellsN_get _ _ _ (by have := Hysl.out; omega))
          have hOl := hbO.lt
          have hqr := cell_mod hmB (by omega) Hq5.out
          obtain ⟨T, hT1, hT2⟩ := Hlf.out
          have hmSX : QZ.Mod (fun k => (k = P ∨ k = B) ∨ w.heap.size ≤ k) w wr := HSX5.out.trans (hmB.mono (fun k _ e => .inr (by omega)))
          have HD := Lib.hid hD
          have HT1 := Lib.hid hT1
          have HT2 := Lib.hid hT2
          have HmSX := Lib.hid hmSX
          clear hD hT1 hT2 hmSX
          clear hbO hbB hmB hfull
          go_wp2_with fail
          refine (decodeStream_c wr s O off off q v l _ ys T x2 rfl hs1 hs60 HD.out hOl (by omega) Hys256.out HT1.out HT2.out v8 hqr hl).mono ?_
          rintro e w6 ⟨res, sg, lv, rfl, hres, hsg, hm6⟩
          have hDf : ∀ i, i < off → ∃ b : Nat, w6.cell? ⟨O, i, none⟩ = some (.int .u8 b) := fun i hi => ⟨_, cell_mod hm6 (fun f => f) (HD.out i hi)⟩
          have hsg0 := hsg.low (Nat.zero_le _)
          have hmE := HmSX.out.trans hm6.none
          have Hres := Lib.hid hres
          have Hsg0 := Lib.hid hsg0
          have HDf := Lib.hid hDf
          have HmE := Lib.hid hmE
          clear hres hsg0 hDf hmE
          clear hsg hm6
          go_wp2_with fail
          go_ret2
          exact ⟨⟨res, O, off, off, sg, lv, rfl, Hres.out, Hsg0.out, HDf.out, hN1, s8⟩, HmE.out⟩
end Go.Proofs.YtnpkihobbcglcaaGreatDoor
/- The decoder, called with rows of modules. -/
open Go Go.RowKit
namespace Go.Proofs.YtnpkihobbcglcaaGreatDoor
open Go.QZ

set_option maxRecDepth 20000 in
set_option maxHeartbeats 1600000 in
theorem decodeM_c (w : World) (dd r F p B rs v l k : Nat) (ws : List Nat) (g : Nat → Nat → Bool) (s : ByteArray) (hb : List Bool) (es : List (List Nat)) (x2 : Value)
    (hdd : Blk w dd [.pointer (some ⟨r, 0, none⟩)]) (hr : Blk w r [.pointer (some ⟨F, 0, none⟩)]) (hF : Fld (fun j => j = B ∨ w.heap.size ≤ j) w F) (hB : BM w p B (17 + 4 * v) (17 + 4 * v) rs ws g)
    (hy : Sym (chs s) l v k hb es) (hg : ∀ x y, x < 17 + 4 * v → y < 17 + 4 * v → g x y = decide (qrF v l k (encB (symW l v hb es)) x y = 1)) (hl : l < 4) (hs1 : 1 ≤ s.size) (hs60 : s.size ≤ 60) (hdB : dd ≠ B) (hrB : r ≠ B) :
    Calls Tryz.prog 119 #[.pointer (some ⟨dd, 0, none⟩), .pointer (some ⟨p, 0, none⟩), x2] w fun e w' => DecOut s e w' ∧ QZ.Mod (fun j => j = B ∨ w.heap.size ≤ j) w w' := by
  have v1 := hy.v1
  have v8 := hy.v8
  have hpl := hB.head.lt
  have hBl := hB.words.lt
  have hdl := hdd.lt
  have hrl := hr.lt
  have Hdd := Lib.hid hdd; have Hr := Lib.hid hr; have HF := Lib.hid hF; have HB := Lib.hid hB; have Hy := Lib.hid hy; have Hg := Lib.hid hg
  clear hdd hr hF hB hy hg
  go_enter Tryz.func119, Tryz.ntmps119
  go_wp2_with fail
  refine (newParser_c w p B (17 + 4 * v) rs ws g HB.out v v1 v8 rfl).mono ?_
  rintro e w1 ⟨rfl, hP, hm1⟩
  obtain ⟨P, hPe⟩ : ∃ P, w.heap.size = P := ⟨_, rfl⟩
  rw [hPe] at hP ⊢
  have hd1 := Hdd.out.mod' hm1
  have hr1 := Hr.out.mod' hm1
  have hF1 := (HF.out.new hm1).weak (Y := fun j => j = P ∨ j = B) (fun j e => by rcases e with rfl | rfl; exact .inr (by omega); exact .inl rfl)
  have hB1 := HB.out.mod hm1 (fun f => f) (fun f => f)
  have HP := Lib.hid hP
  have Hd1 := Lib.hid hd1
  have Hr1 := Lib.hid hr1
  have HF1 := Lib.hid hF1
  have HB1 := Lib.hid hB1
  have Hm1 := Lib.hid hm1
  clear hP hd1 hr1 hF1 hB1 hm1
  go_wp2_with fail
  refine (decodeIn_c w1 dd r F P p B rs v l k ws g s hb es x2 Hd1.out Hr1.out HF1.out HP.out HB1.out Hy.out Hg.out hl hs1 hs60 (by omega) (by omega) (by omega) hdB (by omega) hrB).mono ?_
  rintro e w2 ⟨⟨res, D, N, cap, sg, lv, rfl, h1, h2, h3, h4, h5⟩, hmd⟩
  have hmE : QZ.Mod (fun j => j = B ∨ w.heap.size ≤ j) w w2 := Hm1.out.none.trans (hmd.mono (fun j _ e => by rcases e with (e | e) | e <;> first | exact .inl e | exact .inr (by have := Hm1.out.size; omega)))
  have H1 := Lib.hid h1
  have H2 := Lib.hid h2
  have H3 := Lib.hid h3
  have HmE := Lib.hid hmE
  clear h1 h2 h3 hmE
  go_wp2_with fail
  go_ret2
  exact ⟨⟨res, D, N, cap, sg, lv, rfl, H1.out, H2.out, H3.out, h4, h5⟩, HmE.out⟩

set_option maxRecDepth 20000 in
set_option maxHeartbeats 1600000 in
theorem decodeBM_c (w : World) (dd r F R n cap v l k : Nat) (g : Nat → Nat → Bool) (s : ByteArray) (hb : List Bool) (es : List (List Nat)) (x2 : Value)
    (hdd : Blk w dd [.pointer (some ⟨r, 0, none⟩)]) (hr : Blk w r [.pointer (some ⟨F, 0, none⟩)]) (hF : Fld (fun j => w.heap.size ≤ j) w F) (hR : Rows2 w R n n g) (hn : n = 17 + 4 * v)
    (hy : Sym (chs s) l v k hb es) (hg : ∀ x y, x < n → y < n → g x y = decide (qrF v l k (encB (symW l v hb es)) x y = 1)) (hl : l < 4) (hs1 : 1 ≤ s.size) (hs60 : s.size ≤ 60) :
    Calls Tryz.prog 77 #[.pointer (some ⟨dd, 0, none⟩), .slice (some ⟨R, 0, none⟩) n cap, x2] w fun e w' => DecOut s e w' ∧ QZ.Mod (fun _ => False) w w' := by
  have v1 := hy.v1
  have v8 := hy.v8
  have hdl := hdd.lt
  have hrl := hr.lt
  subst hn
  have Hdd := Lib.hid hdd; have Hr := Lib.hid hr; have HF := Lib.hid hF; have HR := Lib.hid hR; have Hy := Lib.hid hy; have Hg := Lib.hid hg
  clear hdd hr hF hR hy hg
  obtain ⟨n, hn⟩ : ∃ n, 17 + 4 * v = n := ⟨_, rfl⟩
  have Hn := Lib.hid hn
  have hnl : 21 ≤ n ∧ n ≤ 45 := by omega
  rw [hn] at HR ⊢
  clear hn
  go_enter Tryz.func77, Tryz.ntmps77
  go_wp2_with fail
  refine (parse_c w R n n cap g HR.out (by omega) (by omega) (by omega) (by omega)).mono ?_
  rintro e w1 ⟨p, B, rs, ws, rfl, hb1, hp, hB, hm1⟩
  have hs1w := hm1.size
  have hd1 := Hdd.out.mod' hm1
  have hr1 := Hr.out.mod' hm1
  have hF1 := (HF.out.new hm1).weak (Y := fun j => j = B ∨ w1.heap.size ≤ j) (fun j e => by rcases e with rfl | e <;> omega)
  rw [← Hn.out] at hb1
  have Hb1 := Lib.hid hb1
  have Hd1 := Lib.hid hd1
  have Hr1 := Lib.hid hr1
  have HF1 := Lib.hid hF1
  have Hm1 := Lib.hid hm1
  clear hb1 hd1 hr1 hF1 hm1
  go_wp2_with fail
  refine (decodeM_c w1 dd r F p B rs v l k ws g s hb es x2 Hd1.out Hr1.out HF1.out Hb1.out Hy.out Hg.out hl hs1 hs60 (by omega) (by omega)).mono ?_
  rintro e w2 ⟨⟨res, D, N, cap, sg, lv, rfl, h1, h2, h3, h4, h5⟩, hmd⟩
  have hmE : QZ.Mod (fun _ => False) w w2 := Hm1.out.new hmd (fun j e => by rcases e with e | e <;> omega)
  have H1 := Lib.hid h1
  have H2 := Lib.hid h2
  have H3 := Lib.hid h3
  have HmE := Lib.hid hmE
  clear h1 h2 h3 hmE
  go_wp2_with fail
  go_ret2
  exact ⟨⟨res, D, N, cap, sg, lv, rfl, H1.out, H2.out, H3.out, h4, h5⟩, HmE.out⟩

theorem decodeBW_c (w : World) (dd r F R n cap v l k : Nat) (g : Nat → Nat → Bool) (s : ByteArray) (hb : List Bool) (es : List (List Nat))
    (hdd : Blk w dd [.pointer (some ⟨r, 0, none⟩)]) (hr : Blk w r [.pointer (some ⟨F, 0, none⟩)]) (hF : Fld (fun j => w.heap.size ≤ j) w F) (hR : Rows2 w R n n g) (hn : n = 17 + 4 * v)
    (hy : Sym (chs s) l v k hb es) (hg : ∀ x y, x < n → y < n → g x y = decide (qrF v l k (encB (symW l v hb es)) x y = 1)) (hl : l < 4) (hs1 : 1 ≤ s.size) (hs60 : s.size ≤ 60) :
    Calls Tryz.prog 30 #[.pointer (some ⟨dd, 0, none⟩), .slice (some ⟨R, 0, none⟩) n cap] w fun e w' => DecOut s e w' ∧ QZ.Mod (fun _ => False) w w' := by
  have Hc := Lib.hid (fun x2 => decodeBM_c w dd r F R n cap v l k g s hb es x2 hdd hr hF hR hn hy hg hl hs1 hs60)
  clear hdd hr hF hR hn hy hg hl hs1 hs60
  go_enter Tryz.func30, Tryz.ntmps30
  go_wp2_with fail
  refine (Hc.out _).mono ?_
  rintro e w2 ⟨⟨res, D, N, cap, sg, lv, rfl, h1, h2, h3, h4, h5⟩, hmd⟩
  have hmE := hmd
  have H1 := Lib.hid h1
  have H2 := Lib.hid h2
  have H3 := Lib.hid h3
  have HmE := Lib.hid hmE
  clear h1 h2 h3 hmE
  go_wp2_with fail
  go_ret2
  exact ⟨⟨res, D, N, cap, sg, lv, rfl, H1.out, H2.out, H3.out, h4, h5⟩, HmE.out⟩
end Go.Proofs.YtnpkihobbcglcaaGreatDoor
