/- Part 7 of the proof of FnPXQuick (a QR code that is written for a text says this text in a picture): parts of the road. No condition. -/
import Derived.Test.YtnpkihobbcglcaaGreatDoorG04
import Derived.Test.YtnpkihobbcglcaaGreatDoorG05
import Derived.Test.YtnpkihobbcglcaaGreatDoorG06
open Go Go.RowKit
namespace Go.Proofs.YtnpkihobbcglcaaGreatDoor
open Go.QZ

theorem lz32_c (w : World) (x : Nat) (hx : x ≤ 4294967295) : Calls Tryz.prog 243 #[.int .u32 x] w fun e w' => e = .returned (.int .i64 (32 - (Lib.bitLen x : Int))) ∧ w = w' := by
  have hl := Lib.bitLen_le x 32 (by omega) (by omega)
  go_enter Tryz.func243, Tryz.ntmps243
  go_wp2_with fail
  refine (bits_Len32 x w (by omega) (by omega)).mono ?_
  rintro e w1 ⟨rfl, rfl⟩
  rw [Int.toNat_natCast]
  go_wp2_with fail
  go_ret
  exact ⟨rfl, rfl⟩

theorem findMSB_c (w : World) (x : Nat) (hx : x ≤ 4294967295) : Calls Tryz.prog 212 #[.int .i64 x] w fun e w' => e = .returned (.int .i64 (Lib.bitLen x : Nat)) ∧ w = w' := by
  have hl := Lib.bitLen_le x 32 (by omega) (by omega)
  go_enter Tryz.func212, Tryz.ntmps212
  go_wp2_with fail
  refine (lz32_c w x hx).mono ?_
  rintro e w1 ⟨rfl, rfl⟩
  go_wp2_with fail
  go_ret
  refine ⟨?_, rfl⟩
  show Ending.returned (Value.int .i64 _) = _
  congr 2
  omega

/-- One step of the division; so many steps. -/
def bchS (m poly v : Nat) : Nat := if m ≤ Lib.bitLen v then v ^^^ (poly * 2 ^ (Lib.bitLen v - m)) else v
def bchI (m poly v : Nat) : Nat → Nat
  | 0 => v
  | i + 1 => bchS m poly (bchI m poly v i)

theorem bchS_still {m poly v : Nat} (h : Lib.bitLen v < m) : bchS m poly v = v := by unfold bchS; rw [if_neg (by omega)]
theorem bchI_still {m poly v i : Nat} (h : Lib.bitLen (bchI m poly v i) < m) : ∀ j, bchI m poly v (i + j) = bchI m poly v i := by
  intro j
  induction j with
  | zero => rfl
  | succ j ih =>
    show bchS m poly (bchI m poly v (i + j)) = _
    rw [ih, bchS_still h]
theorem xor_i64_nat (a b : Nat) (ha : a < 9223372036854775808) (hb : b < 9223372036854775808) : bits .xor .i64 (a : Int) (b : Int) = ((a ^^^ b : Nat) : Int) := by
  have h1 : (BitVec.ofInt 64 (a : Int)).toNat = a := by
    rw [BitVec.ofInt_natCast, BitVec.toNat_ofNat]; exact Nat.mod_eq_of_lt (by omega)
  have h2 : (BitVec.ofInt 64 (b : Int)).toNat = b := by
    rw [BitVec.ofInt_natCast, BitVec.toNat_ofNat]; exact Nat.mod_eq_of_lt (by omega)
  have h3 : a ^^^ b < 9223372036854775808 := Nat.xor_lt_two_pow (n := 63) ha hb
  show IntKind.i64.wrap ((BitVec.ofInt 64 (a : Int) ^^^ BitVec.ofInt 64 (b : Int)).toNat : Int) = _
  rw [BitVec.toNat_xor, h1, h2, IntKind.wrap_i64]
  omega

set_option maxHeartbeats 800000 in
theorem bch_c (w : World) (value poly m : Nat) (hp : poly ≤ 10000) (hp0 : 0 < poly) (hm : Lib.bitLen poly = m) (hm1 : 1 ≤ m) (hm13 : m ≤ 13) (_hv : value < 32) (hb : ∀ i, i ≤ 8 → bchI m poly (value * 2 ^ (m - 1)) i < 1048576) (hend : ∀ i, i ≤ 8 → m ≤ Lib.bitLen (bchI m poly (value * 2 ^ (m - 1)) i) → i < 8 ∧ bchI m poly (value * 2 ^ (m - 1)) (i + 1) < bchI m poly (value * 2 ^ (m - 1)) i) :
    Calls Tryz.prog 180 #[.int .i64 value, .int .i64 poly] w fun e w' => e = .returned (.tuple #[.int .i64 (bchI m poly (value * 2 ^ (m - 1)) 8), .nilIface]) ∧ w = w' := by
  have hsh : wrap64 ((value : Int) * 2 ^ (m - 1)) = ((value * 2 ^ (m - 1) : Nat) : Int) := by
    have := hb 0 (by omega)
    have e : (value : Int) * 2 ^ (m - 1) = ((value * 2 ^ (m - 1) : Nat) : Int) := by rw [Int.natCast_mul, pow_cast]
    rw [e]
    have h2 : value * 2 ^ (m - 1) < 1048576 := this
    unfold wrap64; omega
  have Hb := Lib.hid hb; have Hend := Lib.hid hend; have Hm := Lib.hid hm
  clear hb hend hm
  have hne : ((poly : Int) == 0) = false := by rw [beq_eq_false_iff_ne]; omega
  generalize value * 2 ^ (m - 1) = v0 at *
  go_enter Tryz.func180, Tryz.ntmps180
  go_wp2_with fail
  refine (findMSB_c w poly (by omega)).mono ?_
  rintro e w1 ⟨rfl, rfl⟩
  rw [Hm.out]
  go_wp2_with fail
  rw [hsh]
  clear hsh
  go_loop [0] (fun a => ∃ i : Nat, i ≤ 8 ∧ a = .int .i64 (bchI m poly v0 i : Nat)) (fun a => (intOf a).toNat)
  case atStart => exact ⟨0, by omega, rfl⟩
  case round =>
    obtain ⟨i, hi, rfl⟩ := hrel
    have hx := Hb.out i hi
    have Hd := Lib.hid (Hend.out i hi)
    have Hst : Hid (Lib.bitLen (bchI m poly v0 i) < m → bchI m poly v0 8 = bchI m poly v0 i) := fun h => by
      have := bchI_still h (8 - i)
      rwa [show i + (8 - i) = 8 by omega] at this
    have Hs : Hid (bchI m poly v0 (i + 1) = bchS m poly (bchI m poly v0 i)) := rfl
    generalize bchI m poly v0 i = x at *
    go_wp2_with fail
    refine (findMSB_c w x (by omega)).mono ?_
    rintro e w1 ⟨rfl, rfl⟩
    have hl20 := Lib.bitLen_le x 20 (by omega) (Nat.lt_of_lt_of_le hx (by decide))
    obtain ⟨L, hL⟩ : ∃ L, Lib.bitLen x = L := ⟨_, rfl⟩
    rw [hL] at hl20 Hst Hd
    have HL := Lib.hid hL
    clear hL
    rw [HL.out]
    by_cases hge : m ≤ L
    · obtain ⟨hi8, hdec⟩ := Hd.out hge
      have Hdec := Lib.hid hdec
      clear hdec
      have hpw : 2 ^ (L - m) ≤ 1048576 := Nat.le_trans (Nat.pow_le_pow_right (by decide) (show L - m ≤ 20 by omega)) (by decide)
      have hq : poly * 2 ^ (L - m) ≤ 10000 * 1048576 := Nat.mul_le_mul hp hpw
      have hsh2 : wrap64 ((poly : Int) * 2 ^ (L - m)) = ((poly * 2 ^ (L - m) : Nat) : Int) := by
        have e : (poly : Int) * 2 ^ (L - m) = ((poly * 2 ^ (L - m) : Nat) : Int) := by rw [Int.natCast_mul, pow_cast]
        rw [e]
        unfold wrap64; omega
      have hxr := xor_i64_nat x (poly * 2 ^ (L - m)) (by omega) (by omega)
      have Hbs : Hid (bchS m poly x = x ^^^ (poly * 2 ^ (L - m))) := by show bchS m poly x = _; unfold bchS; rw [HL.out, if_pos hge]
      generalize poly * 2 ^ (L - m) = q at *
      clear hpw
      go_wp2_with fail
      refine (findMSB_c w x (by omega)).mono ?_
      rintro e w1 ⟨rfl, rfl⟩
      rw [HL.out]
      go_wp2_with fail
      go_round
      case rel => exact ⟨i + 1, by omega, by rw [Hs.out, Hbs.out]⟩
      case measure => simp only [intOf, Int.toNat_natCast]; rw [← Hbs.out, ← Hs.out]; exact Hdec.out
    · go_wp2_with fail
      go_ret2
      exact ⟨by rw [Hst.out (by omega)]; rfl, rfl⟩
end Go.Proofs.YtnpkihobbcglcaaGreatDoor
open Go Go.RowKit
namespace Go.Proofs.YtnpkihobbcglcaaGreatDoor
open Go.QZ

theorem ecBits_c (w : World) (l : Int) : Calls Tryz.prog 16 #[.int .i64 l] w fun e w' => e = .returned (.int .i64 l) ∧ w = w' := by
  go_enter Tryz.func16, Tryz.ntmps16
  go_wp2
  go_ret
  exact ⟨rfl, rfl⟩
theorem validMask_c (w : World) (m : Nat) (hm : m < 8) : Calls Tryz.prog 59 #[.int .i64 m] w fun e w' => e = .returned (.bool true) ∧ w = w' := by
  have h8 : decide ((m : Int) < 8) = true := by simp; omega
  go_enter Tryz.func59, Tryz.ntmps59
  go_wp2
  go_ret
  exact ⟨rfl, rfl⟩

theorem bl1335 : Lib.bitLen 1335 = 11 := by decide
theorem bl7973 : Lib.bitLen 7973 = 13 := by decide
theorem ti_b : ∀ t, t < 32 → ∀ i, i < 9 → bchI 11 1335 (t * 2 ^ (11 - 1)) i < 1048576 := by decide +kernel
theorem ti_d : ∀ t, t < 32 → ∀ i, i < 9 → 11 ≤ Lib.bitLen (bchI 11 1335 (t * 2 ^ (11 - 1)) i) → i < 8 ∧ bchI 11 1335 (t * 2 ^ (11 - 1)) (i + 1) < bchI 11 1335 (t * 2 ^ (11 - 1)) i := by decide +kernel
theorem vi_b : ∀ i, i < 9 → bchI 13 7973 (7 * 2 ^ (13 - 1)) i < 1048576 := by decide +kernel
theorem vi_d : ∀ i, i < 9 → 13 ≤ Lib.bitLen (bchI 13 7973 (7 * 2 ^ (13 - 1)) i) → i < 8 ∧ bchI 13 7973 (7 * 2 ^ (13 - 1)) (i + 1) < bchI 13 7973 (7 * 2 ^ (13 - 1)) i := by decide +kernel

def tiCode (t : Nat) : Nat := bchI 11 1335 (t * 2 ^ (11 - 1)) 8
def viCode : Nat := bchI 13 7973 (7 * 2 ^ (13 - 1)) 8
def tiBits (l m : Nat) : List Bool := xorBits (beBits (8 * l + m) 5 ++ beBits (tiCode (8 * l + m)) 10) (beBits 21522 15)
def viBits : List Bool := beBits 7 6 ++ beBits viCode 12
theorem ti_or : ∀ l : Nat, l < 4 → ∀ m : Nat, m < 8 → bits .or .i64 ((l : Int) * 8) (m : Int) = ((8 * l + m : Nat) : Int) := by decide +kernel

theorem appendBitsI_c (w : World) (p B : Nat) (ws : List Nat) (bs : List Bool) (h : BA w p B ws bs) (hn : bs.length < 16777000) (V K : Int) (v k : Nat) (hV : V = v) (hK : K = k) (hv : v < 4294967296) (hk : k ≤ 32) :
    Calls Tryz.prog 83 #[.pointer (some ⟨p, 0, none⟩), .int .i64 V, .int .i64 K] w (Grew w p B ws.length (bs ++ beBits v k) .nilIface) := by
  subst hV; subst hK; exact appendBits_c w p B ws bs h hn v k hv hk

/-- What became of a BitArray, its room aside. -/
def Filled (w : World) (p B : Nat) (bs : List Bool) (v : Value) (e : Ending) (w' : World) : Prop :=
  e = .returned v ∧ ∃ B' ws', BA w' p B' ws' bs ∧ (B' = B ∨ w.heap.size ≤ B') ∧ QZ.Mod (fun k => k = p ∨ k = B) w w'

set_option maxHeartbeats 800000 in
theorem makeTI_c (w : World) (p B : Nat) (ws : List Nat) (h : BA w p B ws []) (hw1 : ws.length = 1) (l m : Nat) (hl : l < 4) (hm : m < 8) :
    Calls Tryz.prog 139 #[.int .i64 l, .int .i64 m, .pointer (some ⟨p, 0, none⟩)] w (Filled w p B (tiBits l m) .nilIface) := by
  have hor := ti_or l hl m hm
  have H := Lib.hid h; have HW := Lib.hid hw1
  have ht32 : 8 * l + m < 32 := by omega
  have hplt := h.head.lt
  have hBlt := h.words.lt
  clear h
  obtain ⟨t, htt⟩ : ∃ t, 8 * l + m = t := ⟨_, rfl⟩
  have HT := Lib.hid htt
  rw [htt] at hor ht32
  clear htt
  go_enter Tryz.func139, Tryz.ntmps139
  go_wp2_with fail
  refine (validMask_c w m hm).mono ?_
  rintro e w1 ⟨rfl, rfl⟩
  go_wp2_with fail
  refine (ecBits_c w _).mono ?_
  rintro e w1 ⟨rfl, rfl⟩
  go_wp2_with fail
  refine (appendBitsI_c w p B ws [] H.out (by simp) _ _ t 5 rfl rfl (by omega) (by decide)).mono ?_
  rintro e w1 ⟨rfl, B1, ws1, h1, hl1, hB1, hm1⟩
  have H1 := Lib.hid h1; have Hm1 := Lib.hid hm1
  have Hl1 := Lib.hid ((hl1 (by simp [beBits_length]; omega)).trans hw1)
  have HB1 := Lib.hid hB1
  clear h1 hm1 hl1 hB1
  go_wp2_with fail
  refine (bch_c w1 t 1335 11 (by decide) (by decide) bl1335 (by decide) (by decide) ht32 (fun i hi => ti_b t ht32 i (by omega)) (fun i hi => ti_d t ht32 i (by omega))).mono ?_
  rintro e w2 ⟨rfl, rfl⟩
  have hc : tiCode t < 1048576 := ti_b t ht32 8 (by omega)
  rw [show bchI 11 1335 (t * 2 ^ (11 - 1)) 8 = tiCode t from rfl]
  have HC : Hid (tiCode (8 * l + m) = tiCode t) := congrArg tiCode HT.out
  generalize tiCode t = c at *
  go_wp2_with fail
  refine (appendBitsI_c w1 p B1 ws1 _ H1.out (by simp [beBits_length]) _ _ c 10 rfl rfl (by omega) (by decide)).mono ?_
  rintro e w2 ⟨rfl, B2, ws2, h2, hl2, hB2, hm2⟩
  have H2 := Lib.hid h2; have Hm2 := Lib.hid hm2
  have Hl2 := Lib.hid ((hl2 (by simp [beBits_length, Hl1.out])).trans Hl1.out)
  have HB2 := Lib.hid hB2
  clear h2 hm2 hl2 hB2
  go_wp2_with fail
  refine (newBA_c w2).mono ?_
  rintro e w3 ⟨q, C, rfl, h3, hq, hC, hm3⟩
  have H3 := Lib.hid h3; have Hm3 := Lib.hid hm3; have Hq := Lib.hid hq; have HCq := Lib.hid hC
  clear h3 hm3 hq hC
  go_wp2_with fail
  refine (appendBitsI_c w3 q C [0] [] H3.out (by simp) _ _ 21522 15 rfl rfl (by decide) (by decide)).mono ?_
  rintro e w4 ⟨rfl, C4, us, h4, hl4, hC4, hm4⟩
  have H4 := Lib.hid h4; have Hm4 := Lib.hid hm4
  have Hl4 := Lib.hid (hl4 (by simp [beBits_length]))
  have HC4 := Lib.hid hC4
  clear h4 hm4 hl4 hC4
  have hp2 := H2.out.head.lt
  have hB2 := H2.out.words.lt
  have H2' := Lib.hid ((H2.out.mod Hm3.out (fun f => f) (fun f => f)).mod Hm4.out (by have := Hq.out; have := HCq.out; omega) (by have := Hq.out; have := HCq.out; omega))
  have hs3 := Hm3.out.size
  go_wp2_with fail
  refine (xor_c w4 p B2 ws2 _ H2'.out q C4 us _ H4.out (by have := Hq.out; omega) (by have := HCq.out; rcases HC4.out with e | e <;> omega) (by simp [beBits_length]) (by rw [Hl4.out, Hl2.out]; rfl)).mono ?_
  rintro e w5 ⟨rfl, ⟨vs, h5⟩, hm5⟩
  have H5 := Lib.hid h5; have Hm5 := Lib.hid hm5
  have c1 := h5.c1
  rw [xorBits_length] at c1
  simp only [List.nil_append, List.length_append, beBits_length] at c1
  clear h5 hm5
  go_wp2_with fail
  refine (BitArray_GetSize_c w5 p 0 _ c1).mono ?_
  rintro e w6 ⟨rfl, rfl⟩
  go_wp2_with fail
  go_ret
  have s1 := Hm1.out.size
  have s2 := Hm2.out.size
  have b1 := HB1.out
  have b2 := HB2.out
  have q1 := Hq.out
  have q2 := HCq.out
  have q3 := HC4.out
  refine ⟨rfl, B2, vs, ?_, by omega, ((((Hm1.out.then Hm2.out (fun k hk hs => by omega)).then Hm3.out (fun k hk hs => hs.elim)).then Hm4.out (fun k hk hs => by omega)).then Hm5.out (fun k hk hs => by omega))⟩
  have := H5.out
  unfold tiBits
  rw [HC.out, HT.out]
  simpa using this

set_option maxHeartbeats 800000 in
theorem makeVI_c (w : World) (p B : Nat) (ws : List Nat) (h : BA w p B ws []) (pv : Nat) (hpv : w.cell? ⟨pv, 0, none⟩ = some (.int .i64 7)) (hne : pv ≠ p ∧ pv ≠ B) :
    Calls Tryz.prog 142 #[.pointer (some ⟨pv, 0, none⟩), .pointer (some ⟨p, 0, none⟩)] w (Filled w p B viBits .nilIface) := by
  have H := Lib.hid h; have Hpv := Lib.hid hpv
  clear h
  go_enter Tryz.func142, Tryz.ntmps142
  go_wp2_with fail
  refine (Version_GetVersionNumber_c w pv 0 _ hpv).mono ?_
  rintro e w1 ⟨rfl, rfl⟩
  clear hpv
  go_wp2_with fail
  refine (appendBitsI_c w p B ws [] H.out (by simp) _ _ 7 6 rfl rfl (by omega) (by decide)).mono ?_
  rintro e w1 ⟨rfl, B1, ws1, h1, hl1, hB1, hm1⟩
  have H1 := Lib.hid h1; have Hm1 := Lib.hid hm1
  have HB1 := Lib.hid hB1
  have hpv1 := cell_mod hm1 (R := pv) (by omega) Hpv.out
  clear h1 hm1 hl1 hB1
  go_wp2_with fail
  refine (Version_GetVersionNumber_c w1 pv 0 _ hpv1).mono ?_
  rintro e w2 ⟨rfl, rfl⟩
  clear hpv1
  go_wp2_with fail
  have hb := bch_c w1 7 7973 13 (by decide) (by decide) bl7973 (by decide) (by decide) (by decide) (fun i hi => vi_b i (by omega)) (fun i hi => vi_d i (by omega))
  refine hb.mono ?_
  clear hb
  rintro e w2 ⟨rfl, rfl⟩
  have hc : viCode < 1048576 := vi_b 8 (by omega)
  rw [show bchI 13 7973 (7 * 2 ^ (13 - 1)) 8 = viCode from rfl]
  obtain ⟨c, hcc⟩ : ∃ c, viCode = c := ⟨_, rfl⟩
  rw [hcc] at hc ⊢
  have HV := Lib.hid hcc
  clear hcc
  go_wp2_with fail
  refine (appendBitsI_c w1 p B1 ws1 _ H1.out (by simp [beBits_length]) _ _ c 12 rfl rfl (by omega) (by decide)).mono ?_
  rintro e w2 ⟨rfl, B2, ws2, h2, hl2, hB2, hm2⟩
  have H2 := Lib.hid h2; have Hm2 := Lib.hid hm2
  have HB2 := Lib.hid hB2
  have c1 := h2.c1
  simp only [List.nil_append, List.length_append, beBits_length] at c1
  clear h2 hm2 hl2 hB2
  go_wp2_with fail
  refine (BitArray_GetSize_c w2 p 0 _ c1).mono ?_
  rintro e w6 ⟨rfl, rfl⟩
  go_wp2_with fail
  go_ret
  have s1 := Hm1.out.size
  have b1 := HB1.out
  have b2 := HB2.out
  refine ⟨rfl, B2, ws2, ?_, by omega, Hm1.out.then Hm2.out (fun k hk hs => by omega)⟩
  have := H2.out
  unfold viBits
  rw [HV.out]
  simpa using this
end Go.Proofs.YtnpkihobbcglcaaGreatDoor
open Go Go.RowKit
namespace Go.Proofs.YtnpkihobbcglcaaGreatDoor
open Go.QZ

def b2i (b : Bool) : Int := if b then 1 else 0
/-- One step of the format's bits; the first steps. -/
def tiS (bs : List Bool) (d : Nat) (g : Nat → Nat → Int) (i : Nat) : Nat → Nat → Int :=
  let b := b2i (bth bs (14 - i))
  let g1 := upd g (tget ticT i 0).toNat (tget ticT i 1).toNat b
  if i < 8 then upd g1 (d - 1 - i) 8 b else upd (upd g1 8 (d - 15 + i) b) 8 (d - 15 + i) b
def tiF (bs : List Bool) (d : Nat) (f : Nat → Nat → Int) : Nat → Nat → Nat → Int
  | 0 => f
  | k + 1 => tiS bs d (tiF bs d f k) k
theorem tic_ok : ∀ i, i < 15 → 0 ≤ tget ticT i 0 ∧ tget ticT i 0 < 21 ∧ 0 ≤ tget ticT i 1 ∧ tget ticT i 1 < 21 := by decide

theorem tiBits_length (l m : Nat) : (tiBits l m).length = 15 := by unfold tiBits; rw [xorBits_length, List.length_append, beBits_length, beBits_length]

set_option maxHeartbeats 1600000 in
theorem embedTI_c (w : World) (T d : Nat) (f : Nat → Nat → Int) (h : GM w T d f) (M : Nat) (hM : M = T + d + 1) (hd : 21 ≤ d) (l m : Nat) (hl : l < 4) (hm : m < 8) :
    Calls Tryz.prog 107 #[.int .i64 l, .int .i64 m, .pointer (some ⟨M, 0, none⟩)] w (Drawn w T d (tiF (tiBits l m) d f 15) .nilIface) := by
  have hs := h.small
  have H := Lib.hid h; have HM := Lib.hid hM
  have hTw := h.head.lt
  have HTl := Lib.hid (tiBits_length l m)
  clear h hM
  go_enter Tryz.func107, Tryz.ntmps107
  go_wp2_with fail
  refine (newBA_c w).mono ?_
  rintro e w1 ⟨p, B, rfl, h1, hp, hB, hm1⟩
  have H1 := Lib.hid h1; have Hm1 := Lib.hid hm1
  clear h1 hm1
  go_wp2_with fail
  refine (makeTI_c w1 p B [0] H1.out rfl l m hl hm).mono ?_
  rintro e w2 ⟨rfl, B2, ws2, h2, hB2, hm2⟩
  have hs1 := Hm1.out.size
  have hBB : w.heap.size ≤ B2 := by omega
  have H2 := Lib.hid h2
  have Hm2 := Lib.hid (Hm1.out.new hm2 (fun k hs => by omega))
  clear h2 hm2 hB2 hs1
  have Hg := Lib.hid (H.out.mod Hm2.out (fun k _ _ f => f))
  generalize tiBits l m = bs at *
  go_wp2_with fail
  go_loopw [9, 10, 11, 12, 13, 14, 15] (fun a _ _ _ _ _ _ wr => ∃ i : Nat, i ≤ 15 ∧ a = .int .i64 i ∧ GM wr T d (tiF bs d f i) ∧ QZ.Mod (GMb T d) w2 wr) (fun a _ _ _ _ _ _ _ => 15 - (intOf a).toNat)
  case atStart => exact ⟨0, by omega, rfl, Hg.out, QZ.Mod.refl _ _⟩
  case round =>
    obtain ⟨i, hi, rfl, hg, hm⟩ := hrel
    have H2i := Lib.hid (H2.out.mod hm (by unfold GMb; omega) (by unfold GMb; omega))
    have c1 := H2i.out.c1
    rw [HTl.out] at c1
    have Hn : Hid (tiF bs d f (i + 1) = tiS bs d (tiF bs d f i) i) := rfl
    have Hg1 := Lib.hid hg; have Hmm := Lib.hid hm
    clear hg hm
    generalize hgg : tiF bs d f i = g at *
    have Hgg := Lib.hid hgg
    clear hgg
    go_wp2_with fail
    refine (BitArray_GetSize_c wr p 0 _ c1).mono ?_
    rintro e w3 ⟨rfl, rfl⟩
    by_cases hlt : i < 15
    · go_wp2_with fail
      refine (BitArray_GetSize_c wr p 0 _ c1).mono ?_
      rintro e w3 ⟨rfl, rfl⟩
      go_wp2_with fail
      refine (getBA_c wr p B2 ws2 bs H2i.out _ (by omega) (by rw [HTl.out]; omega)).mono ?_
      rintro e w3 ⟨rfl, rfl⟩
      rw [show (14 - (i : Int)).toNat = 14 - i by omega]
      obtain ⟨b, hb⟩ : ∃ b, bth bs (14 - i) = b := ⟨_, rfl⟩
      rw [hb]
      have HB := Lib.hid hb
      clear hb c1
      go_wp2_with fail
      refine (tic_c wr).mono ?_
      rintro e w4 ⟨rfl, ht⟩
      have href := Table.row ht 2 (by decide) i (by show i < 15; omega) 15 rfl
      have hx := Table.int ht 2 (by decide) i 0 (by show i < 15; omega) (by decide)
      have hy := Table.int ht 2 (by decide) i 1 (by show i < 15; omega) (by decide)
      have hok := tic_ok i hlt
      have Hg2 := Lib.hid (Hg1.out.mod ht.mod (fun _ _ _ f => f))
      have Hm4 := Lib.hid (Hmm.out.then ht.mod (fun _ _ f => f.elim))
      have Hst : Hid (tiS bs d g i = let g1 := upd g (tget ticT i 0).toNat (tget ticT i 1).toNat (b2i b); if i < 8 then upd g1 (d - 1 - i) 8 (b2i b) else upd (upd g1 8 (d - 15 + i) (b2i b)) 8 (d - 15 + i) (b2i b)) := by
        show tiS bs d g i = _
        unfold tiS; rw [HB.out]
      generalize tget ticT i 0 = X at *
      generalize tget ticT i 1 = Y at *
      generalize wr.heap.size + 15 = A at *
      generalize wr.heap.size + i = R at *
      clear ht
      go_wp2_with fail
      clear href hx hy
      refine (gmSetBool_c w4 T d _ Hg2.out M HM.out _ _ (by omega) (by omega) (by omega) (by omega) b).mono ?_
      rintro e w5 ⟨rfl, hg, hm⟩
      have Hg5 := Lib.hid hg; have Hm5 := Lib.hid (Hm4.out.trans hm)
      clear hg hm
      by_cases h8 : i < 8
      · go_wp2_with fail
        refine (ByteMatrix_GetWidth_c w5 M 0 _ (Hg5.out.gw HM.out)).mono ?_
        rintro e w6 ⟨rfl, rfl⟩
        go_wp2_with fail
        refine (gmSetBool_c w5 T d _ Hg5.out M HM.out _ _ (by omega) (by omega) (by omega) (by omega) b).mono ?_
        rintro e w6 ⟨rfl, hg, hm⟩
        have Hg6 := Lib.hid hg; have Hm6 := Lib.hid (Hm5.out.trans hm)
        clear hg hm
        go_wp2_with fail
        go_roundw
        case rel => exact ⟨i + 1, by omega, by go_num, by
          rw [Hn.out, Hst.out]
          have := Hg6.out
          rw [show ((d : Int) - i - 1).toNat = d - 1 - i by omega, show (8 : Int).toNat = 8 from rfl] at this
          simp only [if_pos h8]
          exact this, Hm6.out⟩
        case measure => simp [intOf]; omega
      · go_wp2_with fail
        refine (ByteMatrix_GetHeight_c w5 M 0 _ (Hg5.out.gh HM.out)).mono ?_
        rintro e w6 ⟨rfl, rfl⟩
        go_wp2_with fail
        refine (gmSetBool_c w5 T d _ Hg5.out M HM.out _ _ (by omega) (by omega) (by omega) (by omega) b).mono ?_
        rintro e w6 ⟨rfl, hg, hm⟩
        have Hg6 := Lib.hid hg; have Hm6 := Lib.hid (Hm5.out.trans hm)
        clear hg hm
        go_wp2_with fail
        refine (gmSetBool_c w6 T d _ Hg6.out M HM.out _ _ (by omega) (by omega) (by omega) (by omega) b).mono ?_
        rintro e w7 ⟨rfl, hg, hm⟩
        have Hg7 := Lib.hid hg; have Hm7 := Lib.hid (Hm6.out.trans hm)
        clear hg hm
        go_wp2_with fail
        go_roundw
        case rel => exact ⟨i + 1, by omega, by go_num, by
          rw [Hn.out, Hst.out]
          have := Hg7.out
          rw [show ((d : Int) - 7 + (i - 8)).toNat = d - 15 + i by omega, show (8 : Int).toNat = 8 from rfl] at this
          simp only [if_neg h8]
          exact this, Hm7.out⟩
        case measure => simp [intOf]; omega
    · obtain rfl : i = 15 := by omega
      go_wp2_with fail
      go_ret
      exact ⟨rfl, by rw [Hgg.out]; exact Hg1.out, Hm2.out.none.trans Hmm.out⟩
end Go.Proofs.YtnpkihobbcglcaaGreatDoor
open Go Go.RowKit
namespace Go.Proofs.YtnpkihobbcglcaaGreatDoor
open Go.QZ

/-- One step of the version's bits; the first steps. -/
def viS (bs : List Bool) (d : Nat) (g : Nat → Nat → Int) (n : Nat) : Nat → Nat → Int :=
  let b := b2i (bth bs (17 - n))
  upd (upd g (n / 3) (d - 11 + n % 3) b) (d - 11 + n % 3) (n / 3) b
def viF (bs : List Bool) (d : Nat) (f : Nat → Nat → Int) : Nat → Nat → Nat → Int
  | 0 => f
  | k + 1 => viS bs d (viF bs d f k) k
def viA (v d : Nat) (f : Nat → Nat → Int) : Nat → Nat → Int := if v < 7 then f else viF viBits d f 18
theorem viBits_length : viBits.length = 18 := by unfold viBits; rw [List.length_append, beBits_length, beBits_length]

theorem embedVI1_c (w : World) (M : Value) (v : Nat) (hv : v < 7) (pv : Nat) (hpv : w.cell? ⟨pv, 0, none⟩ = some (.int .i64 v)) :
    Calls Tryz.prog 108 #[.pointer (some ⟨pv, 0, none⟩), M] w fun e w' => e = .returned .nilIface ∧ w = w' := by
  go_enter Tryz.func108, Tryz.ntmps108
  go_wp2_with fail
  refine (Version_GetVersionNumber_c w pv 0 _ hpv).mono ?_
  rintro e w1 ⟨rfl, rfl⟩
  go_wp2_with fail
  go_ret
  exact ⟨rfl, rfl⟩

set_option maxHeartbeats 1600000 in
theorem embedVI7_c (w : World) (T d : Nat) (f : Nat → Nat → Int) (h : GM w T d f) (M : Nat) (hM : M = T + d + 1) (hd : d = 45) (pv : Nat) (hpv : w.cell? ⟨pv, 0, none⟩ = some (.int .i64 7)) :
    Calls Tryz.prog 108 #[.pointer (some ⟨pv, 0, none⟩), .pointer (some ⟨M, 0, none⟩)] w (Drawn w T d (viF viBits d f 18) .nilIface) := by
  have hs := h.small
  have H := Lib.hid h; have HM := Lib.hid hM; have Hpv := Lib.hid hpv
  have hTw := h.head.lt
  have hpl := cell_lt hpv
  have HTl := Lib.hid viBits_length
  clear h hM
  go_enter Tryz.func108, Tryz.ntmps108
  go_wp2_with fail
  refine (Version_GetVersionNumber_c w pv 0 _ hpv).mono ?_
  rintro e w1 ⟨rfl, rfl⟩
  clear hpv
  go_wp2_with fail
  refine (newBA_c w).mono ?_
  rintro e w1 ⟨p, B, rfl, h1, hp, hB, hm1⟩
  have H1 := Lib.hid h1; have Hm1 := Lib.hid hm1
  clear h1 hm1
  go_wp2_with fail
  refine (makeVI_c w1 p B [0] H1.out pv (cell_mod Hm1.out (fun f => f) Hpv.out) (by omega)).mono ?_
  rintro e w2 ⟨rfl, B2, ws2, h2, hB2, hm2⟩
  have hs1 := Hm1.out.size
  have hBB : w.heap.size ≤ B2 := by omega
  have H2 := Lib.hid h2
  have Hm2 := Lib.hid (Hm1.out.new hm2 (fun k hs => by omega))
  clear h2 hm2 hB2 hs1
  have Hg := Lib.hid (H.out.mod Hm2.out (fun k _ _ f => f))
  generalize viBits = bs at *
  go_wp2_with fail
  go_loopw [8, 7, 9, 10] (fun a b _ _ wr => ∃ i : Nat, i ≤ 6 ∧ a = .int .i64 i ∧ b = .int .i64 (17 - 3 * (i : Int)) ∧ GM wr T d (viF bs d f (3 * i)) ∧ QZ.Mod (GMb T d) w2 wr) (fun a _ _ _ _ => 6 - (intOf a).toNat)
  case atStart => exact ⟨0, by omega, rfl, rfl, Hg.out, QZ.Mod.refl _ _⟩
  case round =>
    obtain ⟨i, hi, rfl, rfl, hg, hm⟩ := hrel
    have Hg1 := Lib.hid hg; have Hmm := Lib.hid hm
    clear hg hm
    by_cases hlt : i < 6
    · go_wp2_with fail
      generalize decide ((i : Int) < 6) = bb
      go_loopw [9, 7, 10] (fun a b _ wq => ∃ j : Nat, j ≤ 3 ∧ a = .int .i64 j ∧ b = .int .i64 (17 - 3 * (i : Int) - j) ∧ GM wq T d (viF bs d f (3 * i + j)) ∧ QZ.Mod (GMb T d) w2 wq) (fun a _ _ _ => 3 - (intOf a).toNat)
      case atStart => exact ⟨0, by omega, rfl, by go_num, Hg1.out, Hmm.out⟩
      case round =>
        obtain ⟨j, hj, rfl, rfl, hg, hm⟩ := hrel
        by_cases hjlt : j < 3
        · have H2i := Lib.hid (H2.out.mod hm (by unfold GMb; omega) (by unfold GMb; omega))
          have Hn : Hid (viF bs d f (3 * i + (j + 1)) = viS bs d (viF bs d f (3 * i + j)) (3 * i + j)) := rfl
          have Hg2 := Lib.hid hg; have Hm2' := Lib.hid hm
          clear hg hm
          generalize viF bs d f (3 * i + j) = g at *
          go_wp2_with fail
          refine (getBA_c wr p B2 ws2 bs H2i.out _ (by omega) (by rw [HTl.out]; omega)).mono ?_
          rintro e w3 ⟨rfl, rfl⟩
          rw [show (17 - 3 * (i : Int) - j).toNat = 17 - (3 * i + j) by omega]
          obtain ⟨b, hb⟩ : ∃ b, bth bs (17 - (3 * i + j)) = b := ⟨_, rfl⟩
          rw [hb]
          have HB := Lib.hid hb
          clear hb
          go_wp2_with fail
          refine (ByteMatrix_GetHeight_c wr M 0 _ (Hg2.out.gh HM.out)).mono ?_
          rintro e w6 ⟨rfl, rfl⟩
          go_wp2_with fail
          refine (gmSetBool_c wr T d _ Hg2.out M HM.out _ _ (by omega) (by omega) (by omega) (by omega) b).mono ?_
          rintro e w5 ⟨rfl, hg, hm⟩
          have Hg5 := Lib.hid hg; have Hm5 := Lib.hid (Hm2'.out.trans hm)
          clear hg hm
          go_wp2_with fail
          refine (ByteMatrix_GetHeight_c w5 M 0 _ (Hg5.out.gh HM.out)).mono ?_
          rintro e w6 ⟨rfl, rfl⟩
          go_wp2_with fail
          refine (gmSetBool_c w5 T d _ Hg5.out M HM.out _ _ (by omega) (by omega) (by omega) (by omega) b).mono ?_
          rintro e w6 ⟨rfl, hg, hm⟩
          have Hg6 := Lib.hid hg; have Hm6 := Lib.hid (Hm5.out.trans hm)
          clear hg hm
          go_wp2_with fail
          go_roundw
          case rel => exact ⟨j + 1, by omega, by go_num, by go_num, by
            rw [Hn.out]
            have := Hg6.out
            rw [show (34 + (j : Int)).toNat = d - 11 + j by omega, Int.toNat_natCast] at this
            unfold viS
            rw [HB.out, show (3 * i + j) / 3 = i by omega, show (3 * i + j) % 3 = j by omega]
            exact this, Hm6.out⟩
          case measure => simp [intOf]; omega
        · obtain rfl : j = 3 := by omega
          have Hg2 := Lib.hid hg; have Hm2' := Lib.hid hm
          clear hg hm
          go_wp2_with fail
          go_roundw
          case rel => exact ⟨i + 1, by omega, by go_num, by go_num, Hg2.out, Hm2'.out⟩
          case measure => simp [intOf]; omega
    · obtain rfl : i = 6 := by omega
      go_wp2_with fail
      go_ret
      exact ⟨rfl, Hg1.out, Hm2.out.none.trans Hmm.out⟩

theorem embedVI_c (w : World) (T d : Nat) (f : Nat → Nat → Int) (h : GM w T d f) (M : Nat) (hM : M = T + d + 1) (v : Nat) (hv : v < 8) (hd : d = 17 + 4 * v) (pv : Nat) (hpv : w.cell? ⟨pv, 0, none⟩ = some (.int .i64 v)) :
    Calls Tryz.prog 108 #[.pointer (some ⟨pv, 0, none⟩), .pointer (some ⟨M, 0, none⟩)] w (Drawn w T d (viA v d f) .nilIface) := by
  by_cases h7 : v < 7
  · unfold viA; rw [if_pos h7]
    refine (embedVI1_c w _ v h7 pv hpv).mono ?_
    rintro e w1 ⟨rfl, rfl⟩
    exact ⟨rfl, h, QZ.Mod.refl _ _⟩
  · obtain rfl : v = 7 := by omega
    unfold viA; rw [if_neg h7]
    exact embedVI7_c w T d f h M hM hd pv hpv
end Go.Proofs.YtnpkihobbcglcaaGreatDoor
open Go Go.RowKit
namespace Go.Proofs.YtnpkihobbcglcaaGreatDoor
open Go.QZ

/-- The mask's number that is 0 where a module is turned. -/
def maskN (m x y : Nat) : Nat :=
  if m = 0 then (y + x) % 2 else if m = 1 then y % 2 else if m = 2 then x % 3 else if m = 3 then (y + x) % 3 else if m = 4 then (y / 2 + x / 3) % 2
  else if m = 5 then (y * x) % 2 + (y * x) % 3 else if m = 6 then ((y * x) % 2 + (y * x) % 3) % 2 else ((y * x) % 3 + (y + x) % 2) % 2
def maskB (m x y : Nat) : Bool := decide (maskN m x y = 0)

theorem and1 (E : Int) (h0 : 0 ≤ E) (h1 : E ≤ 1000000000) : bits .and .i64 E 1 = E % 2 := by
  have := bits_mask .i64 63 (by decide) (fun n h0 h1 => by rw [IntKind.wrap_i64]; omega) 1 (by decide) E (by omega) (by omega)
  simpa using this
theorem beq0 (E : Int) (n : Nat) (h : E = n) : (E == 0) = decide (n = 0) := by
  subst h
  by_cases h : n = 0
  · subst h; rfl
  · rw [decide_eq_false h, beq_eq_false_iff_ne]; omega

theorem mask0_c (w : World) (x y : Nat) (hx : x < 1000) (hy : y < 1000) : Calls Tryz.prog 144 #[.int .i64 0, .int .i64 x, .int .i64 y] w fun e w' => e = .returned (.tuple #[.bool (maskB 0 x y), .nilIface]) ∧ w = w' := by
  have g0 := and1 ((y : Int) + x) (by omega) (by omega)
  have hB : Hid ((((y : Int) + x) % 2 == 0) = maskB 0 x y) := by
    show _ = maskB 0 x y
    unfold maskB maskN
    rw [if_pos rfl]
    exact beq0 _ _ (by omega)
  go_enter Tryz.func144, Tryz.ntmps144
  go_wp2
  go_ret2
  exact ⟨congrArg (fun b => Ending.returned (.tuple #[.bool b, .nilIface])) hB.out, rfl⟩

theorem mask1_c (w : World) (x y : Nat) (_hx : x < 1000) (hy : y < 1000) : Calls Tryz.prog 144 #[.int .i64 1, .int .i64 x, .int .i64 y] w fun e w' => e = .returned (.tuple #[.bool (maskB 1 x y), .nilIface]) ∧ w = w' := by
  have g0 := and1 (y : Int) (by omega) (by omega)
  have hB : Hid (((y : Int) % 2 == 0) = maskB 1 x y) := by
    show _ = maskB 1 x y
    unfold maskB maskN
    rw [if_neg (by decide), if_pos rfl]
    exact beq0 _ _ (by omega)
  go_enter Tryz.func144, Tryz.ntmps144
  go_wp2
  go_ret2
  exact ⟨congrArg (fun b => Ending.returned (.tuple #[.bool b, .nilIface])) hB.out, rfl⟩

theorem mask2_c (w : World) (x y : Nat) (hx : x < 1000) (_hy : y < 1000) : Calls Tryz.prog 144 #[.int .i64 2, .int .i64 x, .int .i64 y] w fun e w' => e = .returned (.tuple #[.bool (maskB 2 x y), .nilIface]) ∧ w = w' := by
  have hB : Hid (((x : Int) % 3 == 0) = maskB 2 x y) := by
    show _ = maskB 2 x y
    unfold maskB maskN
    rw [if_neg (by decide), if_neg (by decide), if_pos rfl]
    exact beq0 _ _ (by omega)
  go_enter Tryz.func144, Tryz.ntmps144
  go_wp2
  go_ret2
  exact ⟨congrArg (fun b => Ending.returned (.tuple #[.bool b, .nilIface])) hB.out, rfl⟩

theorem mask3_c (w : World) (x y : Nat) (hx : x < 1000) (hy : y < 1000) : Calls Tryz.prog 144 #[.int .i64 3, .int .i64 x, .int .i64 y] w fun e w' => e = .returned (.tuple #[.bool (maskB 3 x y), .nilIface]) ∧ w = w' := by
  have hB : Hid ((((y : Int) + x) % 3 == 0) = maskB 3 x y) := by
    show _ = maskB 3 x y
    unfold maskB maskN
    rw [if_neg (by decide), if_neg (by decide), if_neg (by decide), if_pos rfl]
    exact beq0 _ _ (by omega)
  go_enter Tryz.func144, Tryz.ntmps144
  go_wp2
  go_ret2
  exact ⟨congrArg (fun b => Ending.returned (.tuple #[.bool b, .nilIface])) hB.out, rfl⟩

theorem mask4_c (w : World) (x y : Nat) (hx : x < 1000) (hy : y < 1000) : Calls Tryz.prog 144 #[.int .i64 4, .int .i64 x, .int .i64 y] w fun e w' => e = .returned (.tuple #[.bool (maskB 4 x y), .nilIface]) ∧ w = w' := by
  have g0 := and1 ((y : Int) / 2 + (x : Int) / 3) (by omega) (by omega)
  have hB : Hid ((((y : Int) / 2 + (x : Int) / 3) % 2 == 0) = maskB 4 x y) := by
    show _ = maskB 4 x y
    unfold maskB maskN
    rw [if_neg (by decide), if_neg (by decide), if_neg (by decide), if_neg (by decide), if_pos rfl]
    exact beq0 _ _ (by omega)
  go_enter Tryz.func144, Tryz.ntmps144
  go_wp2
  go_ret2
  exact ⟨congrArg (fun b => Ending.returned (.tuple #[.bool b, .nilIface])) hB.out, rfl⟩

theorem mask5_c (w : World) (x y : Nat) (hx : x < 1000) (hy : y < 1000) : Calls Tryz.prog 144 #[.int .i64 5, .int .i64 x, .int .i64 y] w fun e w' => e = .returned (.tuple #[.bool (maskB 5 x y), .nilIface]) ∧ w = w' := by
  obtain ⟨z, hz⟩ : ∃ z, y * x = z := ⟨_, rfl⟩
  have hz1 : z ≤ 1000 * 1000 := by rw [← hz]; exact Nat.mul_le_mul (by omega) (by omega)
  have hzz : (y : Int) * (x : Int) = (z : Int) := by rw [← hz]; exact (Int.natCast_mul _ _).symm
  have g0 := and1 (z : Int) (by omega) (by omega)
  have hB : Hid (((z : Int) % 2 + (z : Int) % 3 == 0) = maskB 5 x y) := by
    show _ = maskB 5 x y
    unfold maskB maskN
    rw [if_neg (by decide), if_neg (by decide), if_neg (by decide), if_neg (by decide), if_neg (by decide), if_pos rfl, hz]
    exact beq0 _ _ (by omega)
  clear hz
  go_enter Tryz.func144, Tryz.ntmps144
  go_wp2
  go_ret2
  exact ⟨congrArg (fun b => Ending.returned (.tuple #[.bool b, .nilIface])) hB.out, rfl⟩

theorem mask6_c (w : World) (x y : Nat) (hx : x < 1000) (hy : y < 1000) : Calls Tryz.prog 144 #[.int .i64 6, .int .i64 x, .int .i64 y] w fun e w' => e = .returned (.tuple #[.bool (maskB 6 x y), .nilIface]) ∧ w = w' := by
  obtain ⟨z, hz⟩ : ∃ z, y * x = z := ⟨_, rfl⟩
  have hz1 : z ≤ 1000 * 1000 := by rw [← hz]; exact Nat.mul_le_mul (by omega) (by omega)
  have hzz : (y : Int) * (x : Int) = (z : Int) := by rw [← hz]; exact (Int.natCast_mul _ _).symm
  have g0 := and1 (z : Int) (by omega) (by omega)
  have g1 := and1 ((z : Int) % 2 + (z : Int) % 3) (by omega) (by omega)
  have hB : Hid ((((z : Int) + (z : Int) % 3) % 2 == 0) = maskB 6 x y) := by
    show _ = maskB 6 x y
    unfold maskB maskN
    rw [if_neg (by decide), if_neg (by decide), if_neg (by decide), if_neg (by decide), if_neg (by decide), if_neg (by decide), if_pos rfl, hz]
    exact beq0 _ _ (by omega)
  clear hz
  go_enter Tryz.func144, Tryz.ntmps144
  go_wp2
  go_ret2
  exact ⟨congrArg (fun b => Ending.returned (.tuple #[.bool b, .nilIface])) hB.out, rfl⟩

theorem mask7_c (w : World) (x y : Nat) (hx : x < 1000) (hy : y < 1000) : Calls Tryz.prog 144 #[.int .i64 7, .int .i64 x, .int .i64 y] w fun e w' => e = .returned (.tuple #[.bool (maskB 7 x y), .nilIface]) ∧ w = w' := by
  obtain ⟨z, hz⟩ : ∃ z, y * x = z := ⟨_, rfl⟩
  have hz1 : z ≤ 1000 * 1000 := by rw [← hz]; exact Nat.mul_le_mul (by omega) (by omega)
  have hzz : (y : Int) * (x : Int) = (z : Int) := by rw [← hz]; exact (Int.natCast_mul _ _).symm
  have g0 := and1 ((y : Int) + x) (by omega) (by omega)
  have g1 := and1 ((z : Int) % 3 + ((y : Int) + x) % 2) (by omega) (by omega)
  have hB : Hid ((((z : Int) % 3 + ((y : Int) + x)) % 2 == 0) = maskB 7 x y) := by
    show _ = maskB 7 x y
    unfold maskB maskN
    rw [if_neg (by decide), if_neg (by decide), if_neg (by decide), if_neg (by decide), if_neg (by decide), if_neg (by decide), if_neg (by decide), hz]
    exact beq0 _ _ (by omega)
  clear hz
  go_enter Tryz.func144, Tryz.ntmps144
  go_wp2
  go_ret2
  exact ⟨congrArg (fun b => Ending.returned (.tuple #[.bool b, .nilIface])) hB.out, rfl⟩

theorem mask_c (w : World) (m x y : Nat) (hm : m < 8) (hx : x < 1000) (hy : y < 1000) : Calls Tryz.prog 144 #[.int .i64 m, .int .i64 x, .int .i64 y] w fun e w' => e = .returned (.tuple #[.bool (maskB m x y), .nilIface]) ∧ w = w' := by
  rcases (show m = 0 ∨ m = 1 ∨ m = 2 ∨ m = 3 ∨ m = 4 ∨ m = 5 ∨ m = 6 ∨ m = 7 by omega) with rfl | rfl | rfl | rfl | rfl | rfl | rfl | rfl
  · exact mask0_c w x y hx hy
  · exact mask1_c w x y hx hy
  · exact mask2_c w x y hx hy
  · exact mask3_c w x y hx hy
  · exact mask4_c w x y hx hy
  · exact mask5_c w x y hx hy
  · exact mask6_c w x y hx hy
  · exact mask7_c w x y hx hy
end Go.Proofs.YtnpkihobbcglcaaGreatDoor
