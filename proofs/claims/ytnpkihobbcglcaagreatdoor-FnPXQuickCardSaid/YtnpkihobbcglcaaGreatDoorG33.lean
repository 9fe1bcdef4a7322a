/- Part 33 of the proof of FnPXQuick (a QR code that is written for a text says this text in a picture): parts of the road. No condition. -/
import Derived.Deep.RegionWith
import Derived.Laws.EntriesVeiled
import Derived.Test.YtnpkihobbcglcaaGreatDoorG17
import Derived.Test.YtnpkihobbcglcaaGreatDoorG19
import Derived.Test.YtnpkihobbcglcaaGreatDoorG20
import Derived.Test.YtnpkihobbcglcaaGreatDoorG22
import Derived.Test.YtnpkihobbcglcaaGreatDoorG32
/- The code words of a matrix are read. -/
open Go Go.RowKit
namespace Go.Proofs.YtnpkihobbcglcaaGreatDoor
open Go.QZ

/-- The words that are read up to a step, in memory. -/
def CwAt (w0 : World) (R tot : Nat) (s : List Nat × Nat × Nat) (o cu nb : Value) (wr : World) : Prop :=
  ∃ a b c : Nat, o = .int .i64 a ∧ cu = .int .i64 b ∧ nb = .int .i64 c ∧ s.1.length = a ∧ s.2.1 = b ∧ s.2.2 = c ∧ Blk wr R (cellsN .u8 (s.1 ++ List.replicate (tot - s.1.length) 0)) ∧ QZ.Mod (· = R) w0 wr

/-- The words were read, into a new block. -/
def GotCW (w : World) (P B tot : Nat) (ys : List Nat) (e : Ending) (w' : World) : Prop := ∃ R, e = .returned (.tuple #[.slice (some ⟨R, 0, none⟩) tot tot, .nilIface]) ∧ Blk w' R (cellsN .u8 ys) ∧ w.heap.size ≤ R ∧ QZ.Mod (fun k => k = P ∨ k = B) w w'

theorem nat_of {k : IntKind} {a b : Nat} (h : Value.int k (a : Int) = Value.int k (b : Int)) : a = b := by injection h with _ h; omega
theorem CwAt.miss {w0 wr : World} {R tot : Nat} {s s' : List Nat × Nat × Nat} {o cu nb : Value} (h : CwAt w0 R tot s o cu nb wr) (e : s' = s) : CwAt w0 R tot s' o cu nb wr := by rw [e]; exact h
theorem CwAt.step {w0 wr : World} {R tot a b c : Nat} {s s' : List Nat × Nat × Nat} {bit : Bool} (h : CwAt w0 R tot s (.int .i64 a) (.int .i64 b) (.int .i64 c) wr) (e : s' = rdStep s bit) (hc : ¬ c + 1 = 8) : CwAt w0 R tot s' (.int .i64 a) (.int .i64 (bitIn b bit : Nat)) (.int .i64 (c + 1 : Nat)) wr := by
  obtain ⟨a', b', c', h1, h2, h3, h4, h5, h6, h7, h8⟩ := h
  obtain rfl : a = a' := nat_of h1
  obtain rfl : b = b' := nat_of h2
  obtain rfl : c = c' := nat_of h3
  have e2 : s' = (s.1, bitIn s.2.1 bit, s.2.2 + 1) := by rw [e]; unfold rdStep; rw [if_neg (by omega)]
  rw [e2]
  exact ⟨a, _, _, rfl, rfl, rfl, h4, by rw [← h5], by rw [← h6], h7, h8⟩
theorem CwAt.full {w0 wr : World} {R tot a b c : Nat} {s s' : List Nat × Nat × Nat} {bit : Bool} (h : CwAt w0 R tot s (.int .i64 a) (.int .i64 b) (.int .i64 c) wr) (e : s' = rdStep s bit) (hc : c + 1 = 8) (ha : a < tot) : CwAt w0 R tot s' (.int .i64 (a + 1 : Nat)) (.int .i64 (0 : Nat)) (.int .i64 (0 : Nat)) (wr.setCell ⟨R, a, none⟩ (.int .u8 (bitIn b bit : Nat))) := by
  obtain ⟨a', b', c', h1, h2, h3, h4, h5, h6, h7, h8⟩ := h
  obtain rfl : a = a' := nat_of h1
  obtain rfl : b = b' := nat_of h2
  obtain rfl : c = c' := nat_of h3
  have e2 : s' = (s.1 ++ [bitIn s.2.1 bit], 0, 0) := by rw [e]; unfold rdStep; rw [if_pos (by omega)]
  rw [e2]
  refine ⟨a + 1, 0, 0, rfl, rfl, rfl, by simp [h4], rfl, rfl, ?_, h8.setCell (p := ⟨R, a, none⟩) (.inr rfl) _⟩
  have := h7.set a (.int .u8 (bitIn b bit : Nat))
  rw [cellsN_set, ← h4, fill_set _ _ _ (by omega), h5.symm] at this
  rw [← h4, ← h5]
  exact this
theorem CwAt.cells {w0 wr : World} {R tot a b c : Nat} {s : List Nat × Nat × Nat} (h : CwAt w0 R tot s (.int .i64 a) (.int .i64 b) (.int .i64 c) wr) (ha : a < tot) : (∃ x : Nat, wr.cell? ⟨R, a, none⟩ = some (.int .u8 x)) ∧ wr.frozen? ⟨R, a, none⟩ = false := by
  obtain ⟨a', b', c', h1, h2, h3, h4, h5, h6, h7, h8⟩ := h
  obtain rfl : a = a' := nat_of h1
  exact ⟨⟨_, (h7.cell a).trans (cellsN_get _ _ _ (by rw [List.length_append, List.length_replicate]; omega))⟩, h7.frozen a⟩

theorem CwAt.conv {w0 wr : World} {R tot : Nat} {s : List Nat × Nat × Nat} {o cu nb o' cu' nb' : Value} (h : CwAt w0 R tot s o cu nb wr) (e1 : o' = o) (e2 : cu' = cu) (e3 : nb' = nb) : CwAt w0 R tot s o' cu' nb' wr := by subst e1; subst e2; subst e3; exact h

theorem CwAt.mod {w0 wr : World} {R tot : Nat} {s : List Nat × Nat × Nat} {o cu nb : Value} (h : CwAt w0 R tot s o cu nb wr) : QZ.Mod (· = R) w0 wr := by
  obtain ⟨_, _, _, _, _, _, _, _, _, _, h⟩ := h; exact h
theorem step_le {d c r i : Nat} (ho : d % 2 = 1) (hr : r < d) (hi : i < 2) (hc : 2 * c + 1 < d) : 2 * d * c + 2 * r + i + 1 ≤ 2 * d * ((d - 1) / 2) := by
  have h1 : c + 1 ≤ (d - 1) / 2 := by omega
  have h2 := Nat.mul_le_mul_left (2 * d) h1
  rw [Nat.mul_succ] at h2
  generalize 2 * d * ((d - 1) / 2) = b at *
  generalize 2 * d * c = a at *
  omega

/-- What holds ahead of a pair of columns. -/
def CwOut (g : Nat → Nat → Bool) (f : Nat → Nat → Int) (m d : Nat) (w0 : World) (R tot : Nat) (a up o cu nb : Value) (wr : World) : Prop :=
  ∃ (c : Nat) (X : Int), 2 * c + 1 ≤ d ∧ (2 * c + 7 ≤ d → X = d - 1 - 2 * c) ∧ (d < 2 * c + 7 → X = d - 2 - 2 * c) ∧ a = .int .i64 X ∧ up = .bool (c % 2 == 0) ∧ CwAt w0 R tot (cwSt g f m d (2 * d * c)) o cu nb wr

set_option maxRecDepth 20000 in
set_option maxHeartbeats 6400000 in
theorem readCW_c (X : Nat → Prop) (w : World) (P p B d rs v l m qf : Nat) (ws : List Nat) (g : Nat → Nat → Bool) (h : PV X w P p v (.pointer (some ⟨qf, 0, none⟩))) (hfi : Blk w qf [.int .i64 l, .int .u8 m]) (hqP : qf ≠ P) (hpP : p ≠ P) (hBP : B ≠ P) (_hqB : qf ≠ B) (hb : BM w p B d d rs ws g) (hd : d = 17 + 4 * v) (hv1 : 1 ≤ v) (hv : v < 8) (hm8 : m < 8) (h7 : v = 7 → rdF g 0 (pV 45) = 31892) (hX : ∀ k, X k → k < w.heap.size) (hXP : X P) (hXB : X B) :
    Calls Tryz.prog 184 #[.pointer (some ⟨P, 0, none⟩)] w (GotCW w P B (totV v) (bytesFrom (readTo g (fnF v l m) m d (zzN v)) 0 (totV v))) := by
  have hdl : 21 ≤ d ∧ d ≤ 45 := by omega
  have hdodd : d % 2 = 1 := by omega
  obtain ⟨tot, htot⟩ : ∃ tot, totV v = tot := ⟨_, rfl⟩
  have htl : tot ≤ 200 := by have := (shape_all v hv hv1 0 (by decide)).2.2.2.2.2.2.2.2.2.2; omega
  have hroom := cnt_room v l m hv1 hv
  rw [htot] at hroom
  have Hall := Lib.hid (cwSt_all g v l m hv1 hv)
  rw [← hd, htot] at Hall
  rw [← hd] at hroom
  have Hzz : Hid (zzN v = 2 * d * ((d - 1) / 2)) := by show _ = _; unfold zzN; rw [hd]
  obtain ⟨f, hf⟩ : ∃ f, fnF v l m = f := ⟨_, rfl⟩
  rw [hf] at Hall hroom
  have Hfree : Hid (∀ x y, x < d → y < d → decide (f x y = -1) = !fpF v x y) := fun x y hx hy => by rw [← hf]; exact free_fp v l m x y hv1 hv (by omega) (by omega)
  rw [htot, hf]
  obtain ⟨ver, hp, hver⟩ := h
  have hqfl := hfi.lt
  have hpl := hb.head.lt
  have hBl := hb.words.lt
  have hPl := hp.head.lt
  have hmki := fun w => make_run (P := Tryz.prog) Tryz.underlying32 i32 rfl (tot : Int) (tot : Int) tot tot rfl rfl (Nat.le_refl _) (by omega) (by omega) w
  have Hmki := Lib.hid hmki
  have HBl := Lib.hid hBl
  have Hp := Lib.hid hp
  have Hver := Lib.hid hver
  have Hfi := Lib.hid hfi
  have Hb := Lib.hid hb
  have Hf := Lib.hid hf
  have H7 := Lib.hid h7
  have HX := Lib.hid hX
  have Hroom := Lib.hid hroom
  have Htot := Lib.hid htot
  have Hd := Lib.hid hd
  clear hp hver hfi hb hf h7 hX hroom htot hd
  clear hmki
  go_enter Tryz.func184, Tryz.ntmps184
  go_wp2_with fail
  refine (readFI2_c w P p qf ver Hp.out).mono ?_
  rintro e w1 ⟨rfl, rfl⟩
  go_wp2_with fail
  refine (readVersion_c X w P p B d rs v ws g _ ⟨ver, Hp.out, Hver.out⟩ HX.out Hb.out Hd.out hv1 hv H7.out hXP).mono ?_
  rintro e w1 ⟨q, rfl, hV, ⟨ver1, hP1, -⟩, hm1⟩
  have hb1 := Hb.out.mod hm1 hpP hBP
  have hfi1 := hm1.blk hqP Hfi.out
  have HV := Lib.hid hV
  have HP1 := Lib.hid hP1
  have Hm1 := Lib.hid hm1
  have Hb1 := Lib.hid hb1
  have Hfi1 := Lib.hid hfi1
  clear hV hP1 hm1 hb1 hfi1
  go_wp2_with fail
  refine (masks_c w1).mono ?_
  rintro e w2 ⟨⟨RM, rfl, hR⟩, hm2⟩
  have cfi := (Hfi1.out.mod' hm2).cell 1
  have hRm := hR m hm8
  unfold maskFn at hRm
  obtain ⟨K, hK⟩ : ∃ K, 230 + m = K := ⟨_, rfl⟩
  rw [hK] at hRm
  have HK := Lib.hid hK
  clear hK
  have Hm2 := Lib.hid hm2
  clear hm2
  go_wp2_with fail
  refine (FormatInformation_GetDataMask_c w2 qf 0 _ cfi).mono ?_
  rintro e w3 ⟨rfl, rfl⟩
  clear hR cfi
  have hm3 := (QZ.Mod.refl (fun _ => False) w2).alloc (.cells #[.func (.func K) #[] #[]] 303)
  have hbm := Blk.new w2 [.func (.func K) #[] #[]] 303
  have hb3 := (Hb1.out.mod Hm2.out (fun f => f) (fun f => f)).mod hm3 (fun f => f) (fun f => f)
  have cb1 := hb3.c1
  have hP3 := (HP1.out.mod Hm2.out (fun f => f)).mod hm3 (fun f => f)
  have cp0 := hP3.head.cell 0
  have cbm := hbm.cell 0
  have hpB : p ≠ B := hb3.ne
  have Hm3 := Lib.hid hm3
  have Hbm := Lib.hid hbm
  have Hb3 := Lib.hid hb3
  have HP3 := Lib.hid hP3
  clear hm3 hbm hb3 hP3
  go_wp2_with fail
  refine (BitMatrix_GetHeight_c _ p 0 _ cb1).mono ?_
  rintro e w3 ⟨rfl, rfl⟩
  clear hRm cb1
  generalize w2.alloc (.cells #[.func (.func K) #[] #[]] 303) = w3 at *
  obtain ⟨mk, hmk⟩ : ∃ mk, w2.heap.size = mk := ⟨_, rfl⟩
  rw [hmk] at cbm Hbm ⊢
  go_wp2_with fail
  have hld : w3.cell? ⟨mk, 0, none⟩ = some (.func (.func K) #[] #[]) ∧ w3.cell? ⟨P, 0, none⟩ = some (.pointer (some ⟨p, 0, none⟩)) := ⟨cbm, cp0⟩
  have hmkB : ¬ mk = B := by have := HBl.out; have := Hm2.out.size; have := Hm1.out.size; omega
  go_region_held3 (fun w' => w'.cell? ⟨mk, 0, none⟩ = some (.func (.func K) #[] #[]) ∧ w'.cell? ⟨P, 0, none⟩ = some (.pointer (some ⟨p, 0, none⟩))) (first | exact hld | exact hld5) (first | (go_at_call 192; rw [← HK.out]; refine (unmask_c _ p B d rs ws g ?_ m hm8).mono ?_; exact Hb3.out.mod (QZ.Mod.drew (QZ.Mod.refl (fun _ => False) w3)) (fun f => f) (fun f => f); rintro e w5 ⟨rfl, ⟨ws5, hb5⟩, hm5⟩; have hld5 := And.intro (cell_mod hm5 hmkB hld.1) (cell_mod hm5 (fun e => hBP e.symm) hld.2)))
  have hmB := (QZ.Mod.none (QZ.Mod.drew (QZ.Mod.refl (fun _ => False) w3)) : QZ.Mod (· = B) w3 w3.drew).trans hm5
  have hmall : QZ.Mod (fun k => k = P ∨ k = B) w w5 := (((Hm1.out.mono (fun k _ e => .inl e)).trans Hm2.out.none).trans Hm3.out.none).trans (hmB.mono (fun k _ e => .inr e))
  have hV5 := ((HV.out.new Hm2.out).new Hm3.out).mod hmB (fun k e => by rw [e]; exact hXB)
  have hP5 := HP3.out.mod hmB (fun e => hBP e.symm)
  have hdraw := hm5
  have Hb5 := Lib.hid hb5
  have Hmall := Lib.hid hmall
  have HV5 := Lib.hid hV5
  have HP5 := Lib.hid hP5
  clear hb5 hmall hV5 hP5
  clear hm5 hmB hdraw cbm cp0 HK Hm3 Hbm Hb3 HP3 Hb1 Hfi1 HP1 HV Hm1 Hm2
  go_wp2_with fail
  refine (buildFP_c X w5 q v HV5.out hv1 hv).mono ?_
  rw [← Hd.out]
  rintro e w6 ⟨q2, B2, rs2, ws2, rfl, hb6, hq2, hB2, hm6⟩
  have hmk6 := Hmki.out w6
  have cq := (HV5.out.new hm6).c3
  have hP6 := HP5.out.mod hm6 (fun f => f)
  rw [Htot.out] at cq
  have Hb6 := Lib.hid hb6
  have Hm6 := Lib.hid hm6
  have HP6 := Lib.hid hP6
  clear hb6 hm6 hP6
  go_wp2_with fail
  refine (Version_GetTotalCodewords_c w6 q 0 _ cq).mono ?_
  rintro e w7 ⟨rfl, rfl⟩
  have hm7 := (QZ.Mod.refl (fun _ => False) w6).alloc (zrow 5 (.int .u8 0) tot)
  have hR0 := Blk.made w6 5 (.int .u8 0) tot
  rw [show List.replicate tot (Value.int .u8 0) = cellsN .u8 (List.replicate tot 0) from cellsN_rep .u8 tot 0] at hR0
  have hs6 := Hm6.out.size
  have hs5 := Hmall.out.size
  have Hm7 := Lib.hid hm7
  have HR0 := Lib.hid hR0
  clear hm7 hR0
  go_wp2_with fail
  clear hmk6 cq
  generalize w6.alloc (zrow 5 (.int .u8 0) tot) = w7 at *
  obtain ⟨R, hR⟩ : ∃ R, w6.heap.size = R := ⟨_, rfl⟩
  rw [hR] at HR0 ⊢
  have hq2R : ¬ q2 = R := by have := Hb6.out.head.lt; omega
  have hB2R : ¬ B2 = R := by have := Hb6.out.words.lt; omega
  have hpR : ¬ p = R := by omega
  have hBR : ¬ B = R := by have := HBl.out; omega
  have hPR : ¬ P = R := by omega
  have hfp7 := Hb6.out.mod Hm7.out (fun f => f) (fun f => f)
  have hbm7 := (Hb5.out.mod Hm6.out (fun f => f) (fun f => f)).mod Hm7.out (fun f => f) (fun f => f)
  have cp7 := (HP6.out.mod Hm7.out (fun f => f)).head.cell 0
  have cq7 : w7.cell? ⟨q, 0 + 3, none⟩ = some (.int .i64 (tot : Nat)) := by have h := ((HV5.out.new Hm6.out).new Hm7.out).c3; rwa [Htot.out] at h
  have hqR : ¬ q = R := by have := (HV5.out).lt; omega
  have Hfp7 := Lib.hid hfp7
  have Hbm7 := Lib.hid hbm7
  have Hcp7 := Lib.hid cp7
  have Hcq7 := Lib.hid cq7
  clear hfp7 hbm7 cp7 cq7
  have Hst : Hid (CwAt w7 R tot (cwSt g f m d (2 * d * 0)) (.int .i64 (0 : Nat)) (.int .i64 (0 : Nat)) (.int .i64 (0 : Nat)) w7) := ⟨0, 0, 0, rfl, rfl, rfl, rfl, rfl, rfl, by simpa [cwSt, readTo, rdSt] using HR0.out, QZ.Mod.refl _ _⟩
  go_loopw [15, 10, 12, 13, 14, 16, 17, 18] (fun a up o cu nb _ _ _ wr => CwOut g f m d w7 R tot a up o cu nb wr) (fun a _ _ _ _ _ _ _ _ => edMo a)
  case atStart => exact ⟨0, (d : Int) - 1, by omega, fun _ => by omega, fun _ => by omega, by go_num, rfl, Hst.out⟩
  case round =>
    obtain ⟨c, X1, hc, hX1, hX2, rfl, rfl, hcw⟩ := hrel
    have Hcw := Lib.hid hcw
    clear hcw
    by_cases hlt : 2 * c + 1 < d
    · have hXp : 0 < X1 := by
        rcases Nat.lt_or_ge d (2 * c + 7) with h | h
        · rw [hX2 h]; omega
        · rw [hX1 h]; omega
      obtain ⟨x1, hx1⟩ : ∃ x1, zx d c = x1 := ⟨_, rfl⟩
      have hx1d : 1 ≤ x1 ∧ x1 < d := by rw [← hx1]; unfold zx; split <;> omega
      have hcase : ((X1 == 6) = true ∧ X1 - 1 = (x1 : Int)) ∨ ((X1 == 6) = false ∧ X1 = (x1 : Int)) := by
        rw [beq_iff_eq, beq_eq_false_iff_ne]
        rw [← hx1]; unfold zx
        rcases Nat.lt_trichotomy (2 * c + 7) d with h | h | h
        · rw [if_pos h, hX1 (by omega)]; right; omega
        · rw [if_neg (by omega), hX1 (by omega)]; left; omega
        · rw [if_neg (by omega), hX2 (by omega)]; right; omega
      have hXd : X1 ≤ d := by
        rcases Nat.lt_or_ge d (2 * c + 7) with h | h
        · rw [hX2 h]; omega
        · rw [hX1 h]; omega
      have HX1 := Lib.hid hX1; have HX2 := Lib.hid hX2; have Hx1 := Lib.hid hx1; have Hc := Lib.hid hlt
      have HXx : Hid ((x1 : Int) ≤ X1) := by show (x1 : Int) ≤ X1; rcases hcase with h | h <;> omega
      have Hcase := Lib.hid hcase
      obtain ⟨up, hup⟩ : ∃ up, (c % 2 == 0) = up := ⟨_, rfl⟩
      rw [hup]
      have Hup := Lib.hid hup
      clear hX1 hX2 hx1 hlt hc hcase hup
      rcases Hcase.out with ⟨h6, h1⟩ | ⟨h6, rfl⟩
      all_goals go_wp2_with fail
      all_goals (first | clear h6 h1 | clear h6)
      all_goals (go_loopw [16, 12, 13, 14, 17, 18] (fun b o cu nb _ _ wr => ∃ r : Nat, r ≤ d ∧ b = .int .i64 r ∧ CwAt w7 R tot (cwSt g f m d (2 * d * c + 2 * r)) o cu nb wr) (fun b _ _ _ _ _ _ => d - (intOf b).toNat))
      case atStart => exact ⟨0, by omega, rfl, Hcw.out⟩
      case atStart => exact ⟨0, by omega, rfl, Hcw.out⟩
      all_goals (
        obtain ⟨r, hr, rfl, hcr⟩ := hrel
        have Hcr := Lib.hid hcr
        clear hcr
        by_cases hrd : r < d
        · obtain ⟨y1, hy1⟩ : ∃ y1, zy d c r = y1 := ⟨_, rfl⟩
          have hyd : y1 < d := by rw [← hy1]; unfold zy; split <;> omega
          have Hy1 := Lib.hid hy1
          have hyy : (up = true ∧ (d : Int) - 1 - (r : Int) = (y1 : Int)) ∨ (up = false ∧ r = y1) := by
            rw [← hy1, ← Hup.out]; unfold zy
            rcases Nat.mod_two_eq_zero_or_one c with h | h
            · left; rw [if_pos h, h]; exact ⟨rfl, by omega⟩
            · right; rw [if_neg (by omega), h]; exact ⟨rfl, rfl⟩
          clear hy1
          have Hyy := Lib.hid hyy
          clear hyy
          rcases Hyy.out with ⟨rfl, h2⟩ | ⟨rfl, h2⟩
          · clear Hyy
            go_wp2_with fail
            try rw [h2]
            generalize decide ((r : Int) < (d : Int)) = qb
            go_loopw [18, 12, 13, 14] (fun a o cu nb wr => ∃ i : Nat, i ≤ 2 ∧ a = .int .i64 i ∧ CwAt w7 R tot (cwSt g f m d (2 * d * c + 2 * r + i)) o cu nb wr) (fun a _ _ _ _ => 2 - (intOf a).toNat)
            case atStart => exact ⟨0, by omega, rfl, Hcr.out⟩
            case round =>
              obtain ⟨i, hi, rfl, hci⟩ := hrel
              have Hci := Lib.hid hci
              clear hci
              by_cases hi2 : i < 2
              · obtain ⟨xi, hxi⟩ : ∃ xi, x1 - i = xi := ⟨_, rfl⟩
                have hxI : (x1 : Int) - (i : Int) = (xi : Int) := by omega
                have hxd : xi < d := by omega
                have HX : Hid (edX d (2 * d * c + 2 * r + i) = xi) := by show _ = _; rw [edX_at _ _ _ _ hrd hi2, Hx1.out, hxi]
                have HY : Hid (edY d (2 * d * c + 2 * r + i) = y1) := by show _ = _; rw [edY_at _ _ _ _ hrd hi2, Hy1.out]
                obtain ⟨ca, cb, cc, rfl, rfl, rfl, ha, hcb, hcc, -, -⟩ := Hci.out
                obtain ⟨l1, l2, l3⟩ := cwSt_few g f m d (2 * d * c + 2 * r + i)
                rw [ha] at l1
                rw [hcb] at l2
                rw [hcc] at l3
                clear hxi ha hcb hcc
                have hmr : QZ.Mod (· = R) w7 wr := Hci.out.mod
                have hfr := Hfree.out xi y1 hxd hyd
                have hfree : freeN f d (2 * d * c + 2 * r + i) = !fpF v xi y1 := by unfold freeN; rw [HX.out, HY.out]; exact hfr
                clear hfr
                have hfp := Hfp7.out.mod hmr hq2R hB2R
                cases hfv : fpF v xi y1
                · rw [hfv] at hfree
                  have Hn := Lib.hid (cwSt_hit (g := g) (m := m) hfree)
                  rw [HX.out, HY.out] at Hn
                  obtain ⟨bit, hbit⟩ : ∃ bit, (g xi y1 ^^ maskB m xi y1) = bit := ⟨_, rfl⟩
                  rw [hbit] at Hn
                  have Hbit := Lib.hid hbit
                  have Hfv := Lib.hid hfv
                  have hbmr := Hbm7.out.mod hmr hpR hBR
                  have cpr := cell_mod hmr hPR Hcp7.out
                  have hor := or1 cb (by omega)
                  have hlow : cc < 8 := by omega
                  have hbi0 : bitIn cb false = 2 * cb := rfl
                  have hbi1 : bitIn cb true = 2 * cb + 1 := rfl
                  have hfull : cc + 1 = 8 → ca < tot := fun e => by
                    have hc1 : cnt f d (2 * d * c + 2 * r + i + 1) = cnt f d (2 * d * c + 2 * r + i) + 1 := by
                      show _ + (if freeN f d _ = true then 1 else 0) = _
                      rw [hfree]; rfl
                    have hle : 2 * d * c + 2 * r + i + 1 ≤ zzN v := by rw [Hzz.out]; exact step_le hdodd hrd hi2 Hc.out
                    have hmono := cnt_mono f d (2 * d * c + 2 * r + i + 1) (zzN v - (2 * d * c + 2 * r + i + 1))
                    rw [show 2 * d * c + 2 * r + i + 1 + (zzN v - (2 * d * c + 2 * r + i + 1)) = zzN v by omega] at hmono
                    have := Hroom.out
                    omega
                  have Hfull := Lib.hid hfull
                  have Hfp := Lib.hid hfp
                  have Hbmr := Lib.hid hbmr
                  have Hmr := Lib.hid hmr
                  clear hfp hbmr hmr
                  clear hfree hfv hbit hfull l1 l3 hbi0 hbi1
                  go_wp2_with fail
                  refine (bmGet_c wr q2 B2 d d rs2 ws2 (fpF v) Hfp.out xi y1 hxd hyd).mono ?_
                  rintro e w8 ⟨rfl, rfl⟩
                  rw [Hfv.out]
                  go_wp2_with fail
                  refine (bmGet_c wr p B d d rs ws5 _ Hbmr.out xi y1 hxd hyd).mono ?_
                  rintro e w8 ⟨rfl, rfl⟩
                  dsimp only
                  rw [Hbit.out]
                  by_cases hc8 : cc + 1 = 8
                  · have t8 : ((cc : Int) + 1 == 8) = true := by rw [beq_iff_eq]; omega
                    have hat := Hfull.out hc8
                    obtain ⟨⟨old, cold⟩, cfr⟩ := Hci.out.cells hat
                    cases bit
                    · have Hs := Lib.hid (Hci.out.full Hn.out hc8 hat)
                      have hcv : ((bitIn cb false : Nat) : Int) = (cb : Int) * 2 := by show ((2 * cb : Nat) : Int) = _; omega
                      rw [hcv] at Hs
                      clear hcv
                      go_wp2_with fail
                      go_roundw
                      case rel => exact ⟨i + 1, by omega, by go_num, Hs.out.conv (by go_num) rfl rfl⟩
                      case measure => simp [intOf]; omega
                    · have Hs := Lib.hid (Hci.out.full Hn.out hc8 hat)
                      go_wp2_with fail
                      go_roundw
                      case rel => exact ⟨i + 1, by omega, by go_num, Hs.out.conv (by go_num) rfl rfl⟩
                      case measure => simp [intOf]; omega
                  · have t8 : ((cc : Int) + 1 == 8) = false := by rw [beq_eq_false_iff_ne]; omega
                    cases bit
                    · have Hs := Lib.hid (Hci.out.step Hn.out hc8)
                      go_wp2_with fail
                      go_roundw
                      case rel => exact ⟨i + 1, by omega, by go_num, Hs.out.conv rfl (congrArg (Value.int .i64) (by show _ = ((2 * cb : Nat) : Int); omega)) (by go_num)⟩
                      case measure => simp [intOf]; omega
                    · have Hs := Lib.hid (Hci.out.step Hn.out hc8)
                      go_wp2_with fail
                      go_roundw
                      case rel => exact ⟨i + 1, by omega, by go_num, Hs.out.conv rfl (congrArg (Value.int .i64) (by show _ = ((2 * cb + 1 : Nat) : Int); omega)) (by go_num)⟩
                      case measure => simp [intOf]; omega
                · rw [hfv] at hfree
                  have Hn := Lib.hid (cwSt_miss (g := g) (m := m) hfree)
                  have Hfv := Lib.hid hfv
                  have Hfp := Lib.hid hfp
                  clear hfp
                  clear hfree hfv l1 l2 l3 hmr
                  go_wp2_with fail
                  refine (bmGet_c wr q2 B2 d d rs2 ws2 (fpF v) Hfp.out xi y1 hxd hyd).mono ?_
                  rintro e w8 ⟨rfl, rfl⟩
                  rw [Hfv.out]
                  go_wp2_with fail
                  go_roundw
                  case rel => exact ⟨i + 1, by omega, by go_num, Hci.out.miss Hn.out⟩
                  case measure => simp [intOf]; omega
              · obtain rfl : i = 2 := by omega
                go_wp2_with fail
                go_roundw
                case rel => exact ⟨r + 1, by omega, by go_num, by rw [show 2 * d * c + 2 * (r + 1) = 2 * d * c + 2 * r + 2 by omega]; exact Hci.out⟩
                case measure => simp [intOf]; omega
          · clear Hyy
            subst h2
            go_wp2_with fail
            generalize decide ((r : Int) < (d : Int)) = qb
            go_loopw [18, 12, 13, 14] (fun a o cu nb wr => ∃ i : Nat, i ≤ 2 ∧ a = .int .i64 i ∧ CwAt w7 R tot (cwSt g f m d (2 * d * c + 2 * r + i)) o cu nb wr) (fun a _ _ _ _ => 2 - (intOf a).toNat)
            case atStart => exact ⟨0, by omega, rfl, Hcr.out⟩
            case round =>
              obtain ⟨i, hi, rfl, hci⟩ := hrel
              have Hci := Lib.hid hci
              clear hci
              by_cases hi2 : i < 2
              · obtain ⟨xi, hxi⟩ : ∃ xi, x1 - i = xi := ⟨_, rfl⟩
                have hxI : (x1 : Int) - (i : Int) = (xi : Int) := by omega
                have hxd : xi < d := by omega
                have HX : Hid (edX d (2 * d * c + 2 * r + i) = xi) := by show _ = _; rw [edX_at _ _ _ _ hrd hi2, Hx1.out, hxi]
                have HY : Hid (edY d (2 * d * c + 2 * r + i) = r) := by show _ = _; rw [edY_at _ _ _ _ hrd hi2, Hy1.out]
                obtain ⟨ca, cb, cc, rfl, rfl, rfl, ha, hcb, hcc, -, -⟩ := Hci.out
                obtain ⟨l1, l2, l3⟩ := cwSt_few g f m d (2 * d * c + 2 * r + i)
                rw [ha] at l1
                rw [hcb] at l2
                rw [hcc] at l3
                clear hxi ha hcb hcc
                have hmr : QZ.Mod (· = R) w7 wr := Hci.out.mod
                have hfr := Hfree.out xi r hxd hyd
                have hfree : freeN f d (2 * d * c + 2 * r + i) = !fpF v xi r := by unfold freeN; rw [HX.out, HY.out]; exact hfr
                clear hfr
                have hfp := Hfp7.out.mod hmr hq2R hB2R
                cases hfv : fpF v xi r
                · rw [hfv] at hfree
                  have Hn := Lib.hid (cwSt_hit (g := g) (m := m) hfree)
                  rw [HX.out, HY.out] at Hn
                  obtain ⟨bit, hbit⟩ : ∃ bit, (g xi r ^^ maskB m xi r) = bit := ⟨_, rfl⟩
                  rw [hbit] at Hn
                  have Hbit := Lib.hid hbit
                  have Hfv := Lib.hid hfv
                  have hbmr := Hbm7.out.mod hmr hpR hBR
                  have cpr := cell_mod hmr hPR Hcp7.out
                  have hor := or1 cb (by omega)
                  have hlow : cc < 8 := by omega
                  have hbi0 : bitIn cb false = 2 * cb := rfl
                  have hbi1 : bitIn cb true = 2 * cb + 1 := rfl
                  have hfull : cc + 1 = 8 → ca < tot := fun e => by
                    have hc1 : cnt f d (2 * d * c + 2 * r + i + 1) = cnt f d (2 * d * c + 2 * r + i) + 1 := by
                      show _ + (if freeN f d _ = true then 1 else 0) = _
                      rw [hfree]; rfl
                    have hle : 2 * d * c + 2 * r + i + 1 ≤ zzN v := by rw [Hzz.out]; exact step_le hdodd hrd hi2 Hc.out
                    have hmono := cnt_mono f d (2 * d * c + 2 * r + i + 1) (zzN v - (2 * d * c + 2 * r + i + 1))
                    rw [show 2 * d * c + 2 * r + i + 1 + (zzN v - (2 * d * c + 2 * r + i + 1)) = zzN v by omega] at hmono
                    have := Hroom.out
                    omega
                  have Hfull := Lib.hid hfull
                  have Hfp := Lib.hid hfp
                  have Hbmr := Lib.hid hbmr
                  have Hmr := Lib.hid hmr
                  clear hfp hbmr hmr
                  clear hfree hfv hbit hfull l1 l3 hbi0 hbi1
                  go_wp2_with fail
                  refine (bmGet_c wr q2 B2 d d rs2 ws2 (fpF v) Hfp.out xi r hxd hyd).mono ?_
                  rintro e w8 ⟨rfl, rfl⟩
                  rw [Hfv.out]
                  go_wp2_with fail
                  refine (bmGet_c wr p B d d rs ws5 _ Hbmr.out xi r hxd hyd).mono ?_
                  rintro e w8 ⟨rfl, rfl⟩
                  dsimp only
                  rw [Hbit.out]
                  by_cases hc8 : cc + 1 = 8
                  · have t8 : ((cc : Int) + 1 == 8) = true := by rw [beq_iff_eq]; omega
                    have hat := Hfull.out hc8
                    obtain ⟨⟨old, cold⟩, cfr⟩ := Hci.out.cells hat
                    cases bit
                    · have Hs := Lib.hid (Hci.out.full Hn.out hc8 hat)
                      have hcv : ((bitIn cb false : Nat) : Int) = (cb : Int) * 2 := by show ((2 * cb : Nat) : Int) = _; omega
                      rw [hcv] at Hs
                      clear hcv
                      go_wp2_with fail
                      go_roundw
                      case rel => exact ⟨i + 1, by omega, by go_num, Hs.out.conv (by go_num) rfl rfl⟩
                      case measure => simp [intOf]; omega
                    · have Hs := Lib.hid (Hci.out.full Hn.out hc8 hat)
                      go_wp2_with fail
                      go_roundw
                      case rel => exact ⟨i + 1, by omega, by go_num, Hs.out.conv (by go_num) rfl rfl⟩
                      case measure => simp [intOf]; omega
                  · have t8 : ((cc : Int) + 1 == 8) = false := by rw [beq_eq_false_iff_ne]; omega
                    cases bit
                    · have Hs := Lib.hid (Hci.out.step Hn.out hc8)
                      go_wp2_with fail
                      go_roundw
                      case rel => exact ⟨i + 1, by omega, by go_num, Hs.out.conv rfl (congrArg (Value.int .i64) (by show _ = ((2 * cb : Nat) : Int); omega)) (by go_num)⟩
                      case measure => simp [intOf]; omega
                    · have Hs := Lib.hid (Hci.out.step Hn.out hc8)
                      go_wp2_with fail
                      go_roundw
                      case rel => exact ⟨i + 1, by omega, by go_num, Hs.out.conv rfl (congrArg (Value.int .i64) (by show _ = ((2 * cb + 1 : Nat) : Int); omega)) (by go_num)⟩
                      case measure => simp [intOf]; omega
                · rw [hfv] at hfree
                  have Hn := Lib.hid (cwSt_miss (g := g) (m := m) hfree)
                  have Hfv := Lib.hid hfv
                  have Hfp := Lib.hid hfp
                  clear hfp
                  clear hfree hfv l1 l2 l3 hmr
                  go_wp2_with fail
                  refine (bmGet_c wr q2 B2 d d rs2 ws2 (fpF v) Hfp.out xi r hxd hyd).mono ?_
                  rintro e w8 ⟨rfl, rfl⟩
                  rw [Hfv.out]
                  go_wp2_with fail
                  go_roundw
                  case rel => exact ⟨i + 1, by omega, by go_num, Hci.out.miss Hn.out⟩
                  case measure => simp [intOf]; omega
              · obtain rfl : i = 2 := by omega
                go_wp2_with fail
                go_roundw
                case rel => exact ⟨r + 1, by omega, by go_num, by rw [show 2 * d * c + 2 * (r + 1) = 2 * d * c + 2 * r + 2 by omega]; exact Hci.out⟩
                case measure => simp [intOf]; omega
        · obtain rfl : d = r := by omega
          have hx1v : (2 * c + 7 < d → x1 = d - 1 - 2 * c) ∧ (d ≤ 2 * c + 7 → x1 = d - 2 - 2 * c) := by
            have := Hx1.out
            unfold zx at this
            constructor
            · intro h; rw [if_pos h] at this; omega
            · intro h; rw [if_neg (by omega)] at this; omega
          have Hx1v := Lib.hid hx1v
          clear hx1v
          have Hup2 : Hid ((!up) = ((c + 1) % 2 == 0)) := by
            show _ = _
            rw [← Hup.out]
            rcases Nat.mod_two_eq_zero_or_one c with h | h
            · rw [h, show (c + 1) % 2 = 1 by omega]; rfl
            · rw [h, show (c + 1) % 2 = 0 by omega]; rfl
          go_wp2_with fail
          go_roundw
          case rel => exact ⟨c + 1, (x1 : Int) - 2, by have := Hc.out; omega, fun h => by have := Hx1v.out; omega, fun h => by have := Hx1v.out; have := Hc.out; omega, by go_num, by rw [← Hup2.out], by rw [show 2 * d * (c + 1) = 2 * d * c + 2 * d by rw [Nat.mul_succ]]; exact Hcr.out⟩
          case measure => simp only [edMo, intOf]; have := HXx.out; omega)
    · obtain rfl : c = (d - 1) / 2 := by omega
      have hXn : X1 = -1 := by rw [hX2 (by omega)]; omega
      subst hXn
      have h0 := Hcw.out
      rw [← Hzz.out] at h0
      obtain ⟨ca, cb, cc, rfl, rfl, rfl, ha, -, -, hblk, hmr⟩ := h0
      rw [Hall.out] at ha hblk
      rw [bytesFrom_length] at ha hblk
      rw [Nat.sub_self, List.replicate_zero, List.append_nil] at hblk
      subst ha
      have cqr := cell_mod hmr hqR Hcq7.out
      have htt : (tot != tot) = false := by simp
      have hend : QZ.Mod (fun k => k = P ∨ k = B) w wr := (((Hmall.out.trans Hm6.out.none).trans Hm7.out.none)).then hmr (fun k hk e => by omega)
      have Hblk := Lib.hid hblk
      have Hend := Lib.hid hend
      clear hblk hend
      clear hmr hX1 hX2
      go_wp2_with fail
      refine (Version_GetTotalCodewords_c wr q 0 _ cqr).mono ?_
      rintro e w8 ⟨rfl, rfl⟩
      go_wp2_with fail
      go_ret2
      exact ⟨R, rfl, Hblk.out, by omega, Hend.out⟩
end Go.Proofs.YtnpkihobbcglcaaGreatDoor
