/- Part 32 of the proof of FnPXQuick (a QR code that is written for a text says this text in a picture): parts of the road. No condition. -/
import Derived.Test.YtnpkihobbcglcaaGreatDoorG21
import Derived.Test.YtnpkihobbcglcaaGreatDoorG22
import Derived.Test.YtnpkihobbcglcaaGreatDoorG23
import Derived.Test.YtnpkihobbcglcaaGreatDoorG24
import Derived.Test.YtnpkihobbcglcaaGreatDoorG29
import Derived.Test.YtnpkihobbcglcaaGreatDoorG31
/- A text is written as a QR code: the encoder's whole way. -/
open Go Go.RowKit
namespace Go.Proofs.YtnpkihobbcglcaaGreatDoor
open Go.QZ

/-- What is written for the characters cs at level l: in version v, with mask k; hb are the bits of header, text and end; es the error correction words. -/
structure Sym (cs : List Nat) (l v k : Nat) (hb : List Bool) (es : List (List Nat)) : Prop where
  v1 : 1 ≤ v
  v8 : v < 8
  k8 : k < 8
  len : hb.length = 8 * roomD v l
  bits : ∃ T, hb = beBits (modeOf cs) 4 ++ beBits cs.length (ccB (modeOf cs)) ++ encM (modeOf cs) cs ++ T ∧ ∀ j, j < 4 → j < T.length → T[j]? = some false
  ecs : es.length = nbV v l
  ec : ∀ j, j < nbV v l → IsEc (ecV v l) (dRow hb (nbV v l) (lgV v l) (dtV v l) j) (es.getD j [])
/-- All its words, in turns. -/
def symW (l v : Nat) (hb : List Bool) (es : List (List Nat)) : List Nat := inter (dRows hb (nbV v l) (lgV v l) (dtV v l)) (mxTo (nbV v l) (lgV v l) (dtV v l) (nbV v l)) ++ inter es (ecV v l)
theorem Sym.words {cs : List Nat} {l v k : Nat} {hb : List Bool} {es : List (List Nat)} (h : Sym cs l v k hb es) (hl : l < 4) : (symW l v hb es).length = totV v := by
  obtain ⟨h1, h2, h3, h4, h5, h6, h7, h8, h9, h10, h11⟩ := shape_all v h.v8 h.v1 l hl
  unfold symW
  rw [List.length_append, mxTo_all _ _ _ h9, dRows_inter_len _ _ _ _ h9, eRows_inter_len es (ecV v l) (fun e he => by
    obtain ⟨i, hi, rfl⟩ := List.mem_iff_getElem.1 he
    have := (h.ec i (by rw [← h.ecs]; exact hi)).1
    rwa [List.getD_eq_getElem?_getD, List.getElem?_eq_getElem hi] at this), h.ecs, h2, Nat.mul_add, Nat.mul_comm (ecV v l)]
  omega

def EncodedQ (w : World) (cs : List Nat) (l : Nat) (e : Ending) (w' : World) : Prop :=
  ∃ (q pv T v k : Nat) (hb : List Bool) (es : List (List Nat)) (m : Int), e = .returned (.tuple #[.pointer (some ⟨q, 0, none⟩), .nilIface]) ∧ QRAt w' q m l (.pointer (some ⟨pv, 0, none⟩)) k (.pointer (some ⟨T + (17 + 4 * v) + 1, 0, none⟩)) ∧ w'.cell? ⟨pv, 0, none⟩ = some (.int .i64 v) ∧
    GM w' T (17 + 4 * v) (qrF v l k (encB (symW l v hb es))) ∧ Sym cs l v k hb es ∧ QZ.Mod (fun _ => False) w w'

theorem Ver.c0 {X : Nat → Prop} {w : World} {p v : Nat} (h : Ver X w p v) : w.cell? ⟨p, 0, none⟩ = some (.int .i64 v) := by
  obtain ⟨A, C, hb, _⟩ := h
  exact hb.at 0 rfl
theorem Ver.c3 {X : Nat → Prop} {w : World} {p v : Nat} (h : Ver X w p v) : w.cell? ⟨p, 0 + 3, none⟩ = some (.int .i64 (totV v : Nat)) := by
  obtain ⟨A, C, hb, _⟩ := h
  exact hb.at 3 rfl
theorem Ver.lt {X : Nat → Prop} {w : World} {p v : Nat} (h : Ver X w p v) : p < w.heap.size := by
  obtain ⟨A, C, hb, _⟩ := h
  exact hb.lt

set_option maxRecDepth 20000 in
set_option maxHeartbeats 1600000 in
theorem encode_c (w : World) (b : Nat) (hmap : w.heap[b]? = some (.map #[] 0)) (s : ByteArray) (hs : s.size ≤ 60) (l : Nat) (hl : l < 4) :
    Calls Tryz.prog 10 #[.string s, .int .i64 l, .map (some b)] w (EncodedQ w (chs s) l) := by
  obtain ⟨m, hm⟩ : ∃ m, modeOf (chs s) = m := ⟨_, rfl⟩
  have hmd := mode_md (chs s)
  rw [hm] at hmd
  have hcs : (chs s).length = s.size := chs_len s
  have henc : (encM m (chs s)).length ≤ 480 := by have := encM_len m (chs s); omega
  have hencB : m = 4 → ((encM m (chs s)).length + 7) / 8 = s.size := fun h => by
    have : encM m (chs s) = encB (chs s) := by unfold encM; rw [if_neg (by omega), if_neg (by omega)]
    rw [this, encB_len, hcs]; omega
  have hcc : ccB m ≤ 10 := by unfold ccB; (repeat' split) <;> omega
  have hb4 : (beBits m 4).length = 4 := beBits_length _ _
  obtain ⟨v, hfit⟩ := fits_some l ((beBits m 4).length + ccB m + (encM m (chs s)).length) hl (by omega)
  have hv1 := hfit.1
  have hv8 := hfit.2.1
  have hlk1 := lookup_none w b hmap 1
  have Hmap := Lib.hid hmap
  have Hm := Lib.hid hm
  have Hmd := Lib.hid hmd
  have Hcs := Lib.hid hcs
  have Henc := Lib.hid henc
  have Hfit := Lib.hid hfit
  have Hcc := Lib.hid hcc
  have Hb4 := Lib.hid hb4
  have HencB := Lib.hid hencB
  clear hmap hm hmd hcs henc hfit hcc hb4 hencB
  go_enter Tryz.func10, Tryz.ntmps10
  go_wp2_with fail
  refine (chooseMode_c w s (by omega)).mono ?_
  rintro e w1 ⟨rfl, hm1⟩
  rw [Hm.out]
  have M1 := mod_from0 (mod_start w.heap.size w) hm1
  clear hlk1
  have Hm1 := Lib.hid hm1
  clear hm1
  go_wp2_with fail
  refine ((newBA_c w1)).mono ?_
  rintro e w2 ⟨hp, hB, rfl, hh, hhp, hhB, hm2⟩
  have hs1 := M1.size
  have M2 := mod_from0 M1 hm2
  have hlk2 := lookup_none w2 b (map_old Hmap.out M2) 12
  have Hh := Lib.hid hh
  have Hhp := Lib.hid hhp
  have HhB := Lib.hid hhB
  have Hm2 := Lib.hid hm2
  clear hh hhp hhB hm2
  clear M1
  go_wp2_with fail
  refine (modeInfo_c w2 hp hB [0] [] Hh.out (by simp) m Hmd.out).mono ?_
  rintro e w3 ⟨rfl, hB', hws, hh3, _, hBB, hm3⟩
  rw [List.nil_append] at hh3
  have M3 := mod_from M2 hm3 (by rintro k (rfl | rfl); exact Nat.le_trans hs1 Hhp.out; exact Nat.le_trans hs1 HhB.out)
  clear hlk2 hm3 hBB M2
  have Hh3 := Lib.hid hh3
  clear hh3
  go_wp2_with fail
  refine ((newBA_c w3)).mono ?_
  rintro e w4 ⟨dp, dB, rfl, hd4, hdp, hdB, hm4⟩
  have hs3 := M3.size
  have Hd4 := Lib.hid hd4
  clear hd4
  go_wp2_with fail
  refine (appendBytes_c w4 dp dB [0] [] Hd4.out (by simp) s (by omega) m Hm.out).mono ?_
  rintro e w5 ⟨rfl, dB', dws, hd5, hdBB, hm5⟩
  rw [List.nil_append] at hd5
  have M35 := mod_from (mod_from0 (mod_start w3.heap.size w3) hm4) hm5 (by rintro k (rfl | rfl); exact hdp; exact hdB)
  have M5 := M3.trans (M35.mono (fun k _ h => Nat.le_trans hs3 h))
  have hh5 := Hh3.out.old M35 (fun _ h => h)
  have hlk3 := lookup_none w5 b (map_old Hmap.out M5) 10
  clear hm4 hm5 hdp hdB hdBB M3 M35
  have Hh5 := Lib.hid hh5
  have Hd5 := Lib.hid hd5
  clear hh5 hd5
  go_wp2_with fail
  refine (recommend_c w5 l m v hp hB' dp dB' hws dws (beBits m 4) (encM m (chs s)) Hmd.out hl Hh5.out Hd5.out (by have := Hb4.out; omega) (by have := Henc.out; omega) Hfit.out).mono ?_
  rintro e w6 ⟨pv, rfl, hver, hm6⟩
  have M6 := mod_from0 M5 hm6
  have hs6 := M6.size
  have hh6 := Hh5.out.mod hm6 (fun f => f) (fun f => f)
  have hd6 := Hd5.out.mod hm6 (fun f => f) (fun f => f)
  have hhl := hh6.head.lt
  have hhl2 := hh6.words.lt
  have hdl := hd6.head.lt
  have hdl2 := hd6.words.lt
  clear hlk3 M5 hm6
  have Hh6 := Lib.hid hh6
  have Hd6 := Lib.hid hd6
  have Hver := Lib.hid hver
  clear hh6 hd6 hver
  go_wp2_with fail
  refine ((newBA_c w6)).mono ?_
  rintro e w7 ⟨fp, fB, rfl, hf7, hfp, hfB, hm7⟩
  have N7 := mod_from0 (mod_start w6.heap.size w6) hm7
  have hh7 := Hh6.out.old N7 (fun _ h => h)
  have Hf7 := Lib.hid hf7
  have Hh7 := Lib.hid hh7
  clear hf7 hh7
  go_wp2_with fail
  refine (appendArr_c w7 fp fB [0] [] Hf7.out hp hB' hws (beBits m 4) Hh7.out (by omega) (by omega) (by omega) (by omega) (by have := Hb4.out; simp; omega)).mono ?_
  rintro e w8 ⟨rfl, fB8, fws8, hf8, _, hfb8, hm8⟩
  rw [List.nil_append] at hf8
  have hs7 := N7.size
  have hfB8 : w6.heap.size ≤ fB8 := by omega
  have N8 := mod_from N7 hm8 (by rintro k (rfl | rfl); exact hfp; exact hfB)
  have hv8' := Hver.out.old N8 (fun _ h => h)
  have hpv8 := hv8'.c0
  have hd8 := Hd6.out.old N8 (fun _ h => h)
  have hd8c := hd8.c1
  clear hm8 hm7 N7 hfb8
  have Hf8 := Lib.hid hf8
  have HN8 := Lib.hid N8
  have Hd8 := Lib.hid hd8
  have Hv8' := Lib.hid hv8'
  clear hf8 N8 hd8 hv8'
  have hml : m ≤ 4 := by rcases Hmd.out with h | h | h <;> omega
  by_cases hm4 : m = 4
  case' pos =>
    have t4 : (((m : Nat) : Int) == 4) = true := by simp; omega
    have t5 : decide (((m : Nat) : Int) = 4) = true := by simp; omega
    have Hm4 := Lib.hid hm4
    clear hm4
    go_wp2_with fail
    refine (sizeBytes_c w8 dp (encM m (chs s)).length (by have := Henc.out; omega) hd8c).mono ?_
    rintro e w9 ⟨rfl, rfl⟩
    rw [HencB.out Hm4.out]
    go_wp2_with fail
    clear t4 t5
  case' neg =>
    have t4 : (((m : Nat) : Int) == 4) = false := by simp; omega
    have t5 : decide (((m : Nat) : Int) = 4) = false := by simp; omega
    have Hm4 := Lib.hid hm4
    clear hm4
    go_wp2_with fail
    clear t4 t5
  all_goals
    refine (lengthInfo_c w8 fp fB8 fws8 (beBits m 4) Hf8.out (by have := Hb4.out; omega) s.size m v pv Hmd.out hv8 hpv8 (by omega)).mono ?_
    rintro e w9 ⟨rfl, fB9, fws9, hf9, hfb9, hm9⟩
    clear hd8c hpv8
    have hs8 := HN8.out.size
    have hfB9 : w6.heap.size ≤ fB9 := by rcases hfb9 with e | e <;> omega
    have N9 := mod_from HN8.out hm9 (by rintro k (rfl | rfl); exact hfp; exact hfB8)
    have hd9 := Hd6.out.old N9 (fun _ h => h)
    have hl9 : (beBits m 4 ++ beBits s.size (ccB m)).length ≤ 14 := by rw [List.length_append, Hb4.out, beBits_length]; have := Hcc.out; omega
    clear hm9 hfb9
    have Hf9 := Lib.hid hf9
    have HN9 := Lib.hid N9
    have Hd9 := Lib.hid hd9
    have Hl9 := Lib.hid hl9
    clear hf9 N9 hd9 hl9
    go_wp2_with fail
    refine (appendArr_c w9 fp fB9 fws9 _ Hf9.out dp dB' dws _ Hd9.out (by omega) (by omega) (by omega) (by omega) (by have := Hl9.out; have := Henc.out; omega)).mono ?_
    rintro e w10 ⟨rfl, fB10, fws10, hf10, _, hfb10, hm10⟩
    have hs9 := HN9.out.size
    have hfB10 : w6.heap.size ≤ fB10 := by rcases hfb10 with e | e <;> omega
    have N10 := mod_from HN9.out hm10 (by rintro k (rfl | rfl); exact hfp; exact hfB9)
    have hver10 := Hver.out.old N10 (fun _ h => h)
    clear hm10 hfb10
    have Hf10 := Lib.hid hf10
    have HN10 := Lib.hid N10
    have Hver10 := Lib.hid hver10
    clear hf10 N10 hver10
    go_wp2_with fail
    refine (getECL_c _ w10 pv v l Hver10.out hl).mono ?_
    rintro e w11 ⟨C, EB, rfl, hec, _, _, rfl⟩
    obtain ⟨o, ho⟩ : ∃ o, 2 * lvI l = o := ⟨_, rfl⟩
    rw [ho] at hec ⊢
    have hpv3 := Hver10.out.c3
    obtain ⟨A, hA⟩ : ∃ A, totV v = A := ⟨_, rfl⟩
    obtain ⟨X, hX⟩ : ∃ X, ecV v l * nbV v l = X := ⟨_, rfl⟩
    obtain ⟨R, hR⟩ : ∃ R, roomD v l = R := ⟨_, rfl⟩
    have hRX : A - X = R := by rw [← hA, ← hX, ← hR]; rfl
    have hroom := room_all v l hv1 hv8 hl
    have hXA : X < A := by rw [← hA, ← hX]; exact hroom.1
    have hAl : A < 1000 := by rw [← hA]; exact hroom.2
    have hAX : (A : Int) - (X : Int) = (R : Int) := by omega
    have hRl : R ≤ 1000 := by omega
    have hfitR := Hfit.out.2.2.1
    rw [hR] at hfitR
    rw [hA] at hpv3
    have htame := tame_all v (lvI l) hv1 hv8 (lvI_lt l)
    clear hroom
    have Hec := Lib.hid hec
    have Ho := Lib.hid ho
    have HA := Lib.hid hA
    have HX := Lib.hid hX
    have HR := Lib.hid hR
    have HRX := Lib.hid hRX
    have HfitR := Lib.hid hfitR
    have Htame := Lib.hid htame
    clear hec ho hA hX hR hRX hfitR htame
    go_wp2_with fail
    refine (Version_GetTotalCodewords_c w10 pv 0 _ hpv3).mono ?_
    rintro e w11 ⟨rfl, rfl⟩
    go_wp2_with fail
    refine (getTotalEC_c w10 C o EB (ecL v l) Hec.out Htame.out).mono ?_
    rintro e w11 ⟨rfl, hm11⟩
    rw [show (ecL v l).1 * cntTo (ecL v l).2 (ecL v l).2.length = X from HX.out]
    have hf11 := Hf10.out.mod hm11 (fun f => f) (fun f => f)
    have hec11 := Hec.out.mod hm11 (fun f => f) (fun f => f)
    have hc11 := cell_mod hm11 (fun f => f) hpv3
    have N11 := mod_from0 HN10.out hm11
    clear hm11 hpv3
    have Hf11 := Lib.hid hf11
    have Hec11 := Lib.hid hec11
    have HN11 := Lib.hid N11
    clear hf11 hec11 N11
    go_wp2_with fail
    refine (terminate_c w11 fp fB10 fws10 _ Hf11.out R hRl (by rw [List.length_append, List.length_append, Hb4.out, beBits_length]; have := HfitR.out; rw [Hb4.out] at this; omega)).mono ?_
    rintro e w12 ⟨rfl, T, hTl, hT0, fB12, fws12, hf12, hfb12, hm12⟩
    have hs11 := HN11.out.size
    have hfB12 : w6.heap.size ≤ fB12 := by rcases hfb12 with e | e <;> omega
    obtain ⟨hb, hhb⟩ : ∃ hb, beBits m 4 ++ beBits s.size (ccB m) ++ encM m (chs s) ++ T = hb := ⟨_, rfl⟩
    rw [hhb] at hTl hf12
    have N12 := mod_from HN11.out hm12 (by rintro k (rfl | rfl); exact hfp; exact hfB10)
    clear hfb12
    have hver12 := Hver.out.old N12 (fun _ h => h)
    have hpv3 := hver12.c3
    rw [HA.out] at hpv3
    have hbs := blocks_some v hv8 hv1 l hl
    have hap := Hec11.out.ba hbs.1 (by have := Ho.out; omega) Hf11.out
    have hec12 := Hec11.out.mod hm12 (fun h => hap.1 (h.imp_right (fun e => e))) (fun h => hap.2 (h.imp_right (fun e => e)))
    have hsymB : ∃ T, hb = beBits (modeOf (chs s)) 4 ++ beBits (chs s).length (ccB (modeOf (chs s))) ++ encM (modeOf (chs s)) (chs s) ++ T ∧ ∀ j, j < 4 → j < T.length → T[j]? = some false := ⟨T, by rw [Hm.out, Hcs.out]; exact hhb.symm, hT0⟩
    clear hap hm12 hT0 hhb
    have Hf12 := Lib.hid hf12
    have HN12 := Lib.hid N12
    have Hver12 := Lib.hid hver12
    have Hec12 := Lib.hid hec12
    have HTl := Lib.hid hTl
    have HsymB := Lib.hid hsymB
    have Hbs := Lib.hid hbs
    clear hf12 N12 hver12 hec12 hTl hsymB hbs
    go_wp2_with fail
    refine (Version_GetTotalCodewords_c w12 pv 0 _ hpv3).mono ?_
    rintro e w13 ⟨rfl, rfl⟩
    go_wp2_with fail
    refine (getNumBlocks_c w12 C o EB (ecL v l).2 Hec12.out.2.1 Hec12.out.2.2 (fun x hx => (Htame.out.2.2 x hx).1) Hbs.out.2).mono ?_
    rintro e w13 ⟨rfl, hm13⟩
    rw [show cntTo (ecL v l).2 (ecL v l).2.length = nbV v l from rfl]
    have hf13 := Hf12.out.mod hm13 (fun f => f) (fun f => f)
    have N13 := mod_from0 HN12.out hm13
    obtain ⟨hsh, htot, hdat, hd1, hdn, hn1, hn30, _, _, _, htl⟩ := shape_all v hv8 hv1 l hl
    rw [HA.out] at htot
    rw [HR.out] at hdat
    clear hm13 hpv3
    have Hf13 := Lib.hid hf13
    have HN13 := Lib.hid N13
    have Hsh := Lib.hid hsh
    have Htot := Lib.hid htot
    have Hdat := Lib.hid hdat
    have Hd1 := Lib.hid hd1
    have Hdn := Lib.hid hdn
    have Hn1 := Lib.hid hn1
    have Hn30 := Lib.hid hn30
    have Htl := Lib.hid htl
    clear hf13 N13 hsh htot hdat hd1 hdn hn1 hn30 htl
    go_wp2_with fail
    refine (interleave_c w13 fp fB12 fws12 hb Hf13.out (nbV v l) (lgV v l) (dtV v l) (ecV v l) A R Hsh.out Htot.out Hdat.out Hd1.out Hdn.out Hn1.out Hn30.out HTl.out).mono ?_
    rintro e w14 ⟨q, Q, us, es, rfl, hq, hel, hecs, hqN, hQN, hm14⟩
    have hs13 := HN13.out.size
    have N14 := mod_from0 HN13.out hm14
    have hql := hq.head.lt
    have hQl := hq.words.lt
    have hsym : ∀ k, k < 8 → Sym (chs s) l v k hb es := fun k hk => ⟨hv1, hv8, hk, by rw [HR.out]; exact HTl.out, HsymB.out, hel, hecs⟩
    have hwl := (hsym 0 (by decide)).words hl
    obtain ⟨fb, hfb⟩ : ∃ fb, encB (symW l v hb es) = fb := ⟨_, rfl⟩
    have hq' : BA w14 q Q us fb := by rw [← hfb]; exact hq
    have hfl : fb.length = 8 * totV v := by rw [← hfb, encB_len, hwl]
    have hfl2 : fb.length ≤ 100000 := by have := Htl.out; omega
    clear hq hel hecs hm14 hwl
    have Hq' := Lib.hid hq'
    have HN14 := Lib.hid N14
    have Hsym := Lib.hid hsym
    have Hfb := Lib.hid hfb
    have Hfl := Lib.hid hfl
    have Hfl2 := Lib.hid hfl2
    clear hq' N14 hsym hfb hfl hfl2
    go_wp2_with fail
    refine ((newQR_c w14)).mono ?_
    rintro e w15 ⟨rfl, hqr, hm15, hsz15⟩
    have hq15 := Hq'.out.mod hm15 (fun f => f) (fun f => f)
    have N15 := mod_from0 HN14.out hm15
    have hs14 := HN14.out.size
    obtain ⟨q0, hq0⟩ : ∃ q0, w14.heap.size = q0 := ⟨_, rfl⟩
    rw [hq0] at hqr hsz15 ⊢
    have hq0N : w6.heap.size ≤ q0 := by omega
    clear hm15
    have Hqr := Lib.hid hqr
    have Hq15 := Lib.hid hq15
    have HN15 := Lib.hid N15
    clear hqr hq15 N15
    go_wp2_with fail
    refine (setLevel_c w15 q0 0 0 (.pointer none) (-1) (.pointer none) Hqr.out l).mono ?_
    rintro e w16 ⟨rfl, hqr16, hm16⟩
    have Hqr16 := Lib.hid hqr16
    have Hm16 := Lib.hid hm16
    clear hqr16 hm16
    go_wp2_with fail
    refine (setMode_c w16 q0 0 l (.pointer none) (-1) (.pointer none) Hqr16.out m).mono ?_
    rintro e w17 ⟨rfl, hqr17, hm17⟩
    have Hqr17 := Lib.hid hqr17
    have Hm17 := Lib.hid hm17
    clear hqr17 hm17
    go_wp2_with fail
    refine (setVersion_c w17 q0 m l (.pointer none) (-1) (.pointer none) Hqr17.out (some ⟨pv, 0, none⟩)).mono ?_
    rintro e w18 ⟨rfl, hqr18, hm18⟩
    have hmq := (Hm16.out.trans Hm17.out).trans hm18
    have N18 := mod_from HN15.out hmq (by rintro k rfl; exact hq0N)
    have hq18 := Hq15.out.mod hmq (fun e => by omega) (fun e => by omega)
    have hver18 := Hver.out.old N18 (fun _ h => h)
    have hpv0 := hver18.c0
    have hpvl := Hver.out.lt
    have hs18 := N18.size
    have hq0l : q0 < w18.heap.size := hqr18.lt
    have hql18 := hq18.head.lt
    have hQl18 := hq18.words.lt
    obtain ⟨d, hd⟩ : ∃ d, 17 + 4 * v = d := ⟨_, rfl⟩
    clear hmq hm18
    have Hqr18 := Lib.hid hqr18
    have HN18 := Lib.hid N18
    have Hq18 := Lib.hid hq18
    have Hver18 := Lib.hid hver18
    have Hd := Lib.hid hd
    clear hqr18 N18 hq18 hver18 hd
    go_wp2_with fail
    refine (getDim_c w18 pv v hv8 hpv0).mono ?_
    rintro e w19 ⟨rfl, rfl⟩
    rw [Hd.out]
    go_wp2_with fail
    refine (newGM_c w18 d (by have := Hd.out; omega) (by have := Hd.out; omega)).mono ?_
    rintro e w19 ⟨rfl, hgm, hm19⟩
    obtain ⟨T0, hT0⟩ : ∃ T0, w18.heap.size = T0 := ⟨_, rfl⟩
    rw [hT0] at hgm hs18 hq0l hql18 hQl18 ⊢
    have N19 := mod_from0 HN18.out hm19
    have hlk4 := lookup_none w19 b (map_old Hmap.out (M6.trans (N19.mono (fun k _ h => Nat.le_trans hs6 h)))) 11
    have hq19 := Hq18.out.mod hm19 (fun f => f) (fun f => f)
    have hqr19 := Hqr18.out.mod' hm19
    have hpv19 := cell_mod hm19 (fun f => f) hpv0
    clear hpv0 hm19
    have Hgm := Lib.hid hgm
    have HN19 := Lib.hid N19
    have Hq19 := Lib.hid hq19
    have Hqr19 := Lib.hid hqr19
    clear hgm N19 hq19 hqr19
    go_wp2_with fail
    clear hlk4
    refine (choose_c w19 T0 d _ Hgm.out (T0 + d + 1) rfl v hv1 hv8 Hd.out.symm pv hpv19 (by unfold GMb; omega) l hl q Q us fb Hq19.out (by unfold GMb; omega) (by unfold GMb; omega) (fun m' _ => qr_end v l m' fb hv1 hv8 Hfl.out) Hfl2.out).mono ?_
    rintro e w20 ⟨k, f, hk8, rfl, hgm20, hm20⟩
    have hq20 := Hq19.out.mod hm20 (by unfold GMb; omega) (by unfold GMb; omega)
    have hqr20 : QRAt w20 q0 m l (.pointer (some ⟨pv, 0, none⟩)) (-1) (.pointer none) := hm20.blk (by unfold GMb; omega) Hqr19.out
    have hpv20 := cell_mod hm20 (by unfold GMb; omega) hpv19
    have N20 := mod_from HN19.out hm20 (by unfold GMb; intro k hk; omega)
    clear hm20 hpv19
    have Hgm20 := Lib.hid hgm20
    have Hq20 := Lib.hid hq20
    have Hqr20 := Lib.hid hqr20
    have HN20 := Lib.hid N20
    clear hgm20 hq20 hqr20 N20
    go_wp2_with fail
    refine (setMask_c w20 q0 m l _ (-1) (.pointer none) Hqr20.out k).mono ?_
    rintro e w21 ⟨rfl, hqr21, hm21⟩
    have hq21 := Hq20.out.mod hm21 (by omega) (by omega)
    have hgm21 := Hgm20.out.mod hm21 (by intro j h1 h2; omega)
    have hpv21 := cell_mod hm21 (by omega) hpv20
    have N21 := mod_from HN20.out hm21 (by rintro k rfl; exact hq0N)
    clear hm21 hpv20
    have Hgm21 := Lib.hid hgm21
    have Hq21 := Lib.hid hq21
    have Hqr21 := Lib.hid hqr21
    have HN21 := Lib.hid N21
    clear hgm21 hq21 hqr21 N21
    go_wp2_with fail
    refine (build_c w21 T0 d f Hgm21.out (T0 + d + 1) rfl v hv1 hv8 Hd.out.symm pv hpv21 (by unfold GMb; omega) l k hl hk8 q Q us fb Hq21.out (by unfold GMb; omega) (by unfold GMb; omega) (qr_end v l k fb hv1 hv8 Hfl.out) Hfl2.out).mono ?_
    rintro e w22 ⟨rfl, hgm22, hm22⟩
    have hqr22 : QRAt w22 q0 m l (.pointer (some ⟨pv, 0, none⟩)) k (.pointer none) := hm22.blk (by unfold GMb; omega) Hqr21.out
    have hpv22 := cell_mod hm22 (by unfold GMb; omega) hpv21
    have N22 := mod_from HN21.out hm22 (by unfold GMb; intro k hk; omega)
    clear hm22 hpv21
    have Hgm22 := Lib.hid hgm22
    have Hqr22 := Lib.hid hqr22
    have HN22 := Lib.hid N22
    clear hgm22 hqr22 N22
    go_wp2_with fail
    refine (setMatrix_c w22 q0 m l _ k (.pointer none) Hqr22.out (some ⟨T0 + d + 1, 0, none⟩)).mono ?_
    rintro e w23 ⟨rfl, hqr23, hm23⟩
    have hgm23 := Hgm22.out.mod hm23 (by intro j h1 h2; omega)
    have hpv23 := cell_mod hm23 (by omega) hpv22
    have N23 := mod_from HN22.out hm23 (by rintro k rfl; exact hq0N)
    clear hm23 hpv22
    have Hgm23 := Lib.hid hgm23
    have Hqr23 := Lib.hid hqr23
    have HN23 := Lib.hid N23
    clear hgm23 hqr23 N23
    go_wp2_with fail
    go_ret2
    have hdE := Hd.out
    subst hdE
    exact ⟨q0, pv, T0, v, k, hb, es, m, rfl, Hqr23.out, hpv23, by rw [Hfb.out]; exact Hgm23.out, Hsym.out k hk8, mod_end (M6.trans (HN23.out.mono (fun k _ h => Nat.le_trans hs6 h)))⟩
end Go.Proofs.YtnpkihobbcglcaaGreatDoor
