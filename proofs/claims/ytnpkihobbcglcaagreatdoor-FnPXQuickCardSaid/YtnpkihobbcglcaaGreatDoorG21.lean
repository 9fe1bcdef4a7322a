/- Part 21 of the proof of FnPXQuick (a QR code that is written for a text says this text in a picture): parts of the road. No condition. -/
import Derived.Lib.ConvBytes
import Derived.Test.YtnpkihobbcglcaaGreatDoorG06
import Derived.Test.YtnpkihobbcglcaaGreatDoorG13
import Derived.Test.YtnpkihobbcglcaaGreatDoorG16
/- The mode of a text. -/
open Go Go.RowKit
namespace Go.Proofs.YtnpkihobbcglcaaGreatDoor
open Go.QZ

def isDig (c : Nat) : Bool := decide (48 ≤ c) && decide (c ≤ 57)
/-- The bytes of a string. -/
def chs (s : ByteArray) : List Nat := s.data.toList.map UInt8.toNat
theorem chs_len (s : ByteArray) : (chs s).length = s.size := by simp [chs]
theorem chs_get (s : ByteArray) (i : Nat) (h : i < s.size) : (chs s)[i]? = some (s[i]).toNat := by
  unfold chs
  rw [List.getElem?_map, Array.getElem?_toList, Array.getElem?_eq_getElem (show i < s.data.size from h)]
  rfl
def modeOf (cs : List Nat) : Nat := if cs.any (fun c => alnOf c == 99) then 4 else if cs.any (fun c => !isDig c) then 2 else if cs.any isDig then 1 else 4
theorem any_take (cs : List Nat) (f : Nat → Bool) (i c : Nat) (h : cs[i]? = some c) : (cs.take (i + 1)).any f = ((cs.take i).any f || f c) := by
  rw [List.take_add_one, h]; simp
theorem any_of_get (cs : List Nat) (f : Nat → Bool) (i c : Nat) (h : cs[i]? = some c) (hf : f c = true) : cs.any f = true := List.any_eq_true.2 ⟨c, List.mem_of_getElem? h, hf⟩
theorem dig_aln (c : Nat) (h : isDig c = true) : (alnOf c == 99) = false := by
  have : ∀ c, c < 58 → isDig c = true → (alnOf c == 99) = false := by decide
  refine this c ?_ h
  simp [isDig] at h; omega

set_option maxHeartbeats 800000 in
theorem chooseMode_c (w : World) (s : ByteArray) (hs : s.size ≤ 1000) : Calls Tryz.prog 33 #[.string s] w fun e w' => e = .returned (.int .i64 (modeOf (chs s) : Nat)) ∧ QZ.Mod (fun _ => False) w w' := by
  go_enter Tryz.func33, Tryz.ntmps33
  go_wp2
  go_loopw [3, 4, 5, 6] (fun a b c _ wr => ∃ (i : Nat) (b1 b2 : Bool), i ≤ s.size ∧ c = .int .i64 i ∧ a = .bool b1 ∧ b = .bool b2 ∧ b1 = ((chs s).take i).any isDig ∧ b2 = ((chs s).take i).any (fun c => !isDig c) ∧ ((chs s).take i).any (fun c => alnOf c == 99) = false ∧ QZ.Mod (fun _ => False) w wr) (fun _ _ a _ _ => s.size - (intOf a).toNat)
  case atStart => exact ⟨0, _, _, by omega, rfl, rfl, rfl, rfl, rfl, rfl, QZ.Mod.refl _ _⟩
  case round =>
    obtain ⟨i, b1, b2, hi, rfl, rfl, rfl, hb1, hb2, hbad, hm⟩ := hrel
    have Hb1 := Lib.hid hb1
    have Hb2 := Lib.hid hb2
    have Hbad := Lib.hid hbad
    have Hm := Lib.hid hm
    clear hb1 hb2 hbad hm
    by_cases hlt : i < s.size
    · have hg := chs_get s i hlt
      have h256 : (s[i]).toNat < 256 := UInt8.toNat_lt _
      by_cases hd : isDig (s[i]).toNat = true
      · have t1 : decide ((48 : Int) ≤ ((s[i]).toNat : Int)) = true := by simp [isDig] at hd ⊢; omega
        have t2 : decide (((s[i]).toNat : Int) ≤ 57) = true := by simp [isDig] at hd ⊢; omega
        have ha := dig_aln _ hd
        have Hg := Lib.hid hg
        have Hd := Lib.hid hd
        have Ha := Lib.hid ha
        clear hg hd ha
        go_wp2_with fail
        go_roundw
        case rel => exact ⟨i + 1, true, b2, by omega, by go_num, rfl, rfl, by rw [any_take _ _ _ _ Hg.out, Hd.out]; simp, by rw [any_take _ _ _ _ Hg.out, Hd.out, ← Hb2.out]; simp, by rw [any_take _ _ _ _ Hg.out, Ha.out, Hbad.out]; rfl, Hm.out⟩
        case measure => simp [intOf] <;> omega
      · have hcs : (decide ((48 : Int) ≤ ((s[i]).toNat : Int)) = true ∧ decide (((s[i]).toNat : Int) ≤ 57) = false) ∨ decide ((48 : Int) ≤ ((s[i]).toNat : Int)) = false := by
          simp [isDig] at hd ⊢; omega
        have hd' : isDig (s[i]).toNat = false := by simpa using hd
        have hcode := code_c wr (s[i]).toNat h256
        have Hg := Lib.hid hg
        have Hd' := Lib.hid hd'
        have Hcode := Lib.hid hcode
        clear hg hd' hcode
        clear hd
        by_cases hal : alnOf (s[i]).toNat = 99
        · have hz : codeI (alnOf (s[i]).toNat) = -1 := by unfold codeI; rw [if_pos hal]
          have Hal := Lib.hid hal
          have Hz := Lib.hid hz
          clear hal hz
          rcases hcs with ⟨t1, t2⟩ | t1
          all_goals
            go_wp2_with fail
            refine Hcode.out.mono ?_
            rintro e w2 ⟨rfl, hm2⟩
            rw [Hz.out]
            have hm3 := Hm.out.trans hm2
            have Hm3 := Lib.hid hm3
            clear hm3
            clear hm2
            go_wp2_with fail
            go_ret
            refine ⟨?_, Hm3.out⟩
            rw [show modeOf (chs s) = 4 by unfold modeOf; rw [if_pos (any_of_get _ _ _ _ Hg.out (by rw [Hal.out]; rfl))]]
            rfl
        · have hz : codeI (alnOf (s[i]).toNat) = ((alnOf (s[i]).toNat : Nat) : Int) := by unfold codeI; rw [if_neg hal]
          have ha : (alnOf (s[i]).toNat == 99) = false := by simpa using hal
          obtain ⟨z, hzz⟩ : ∃ z, alnOf (s[i]).toNat = z := ⟨_, rfl⟩
          have hz : codeI (alnOf (s[i]).toNat) = (z : Int) := by rw [hz, hzz]
          have Ha := Lib.hid ha
          have Hz := Lib.hid hz
          have Hzz := Lib.hid hzz
          clear ha hz hzz
          have t3 : ((z : Int) == -1) = false := by rw [beq_eq_false_iff_ne]; omega
          rcases hcs with ⟨t1, t2⟩ | t1
          all_goals
            go_wp2_with fail
            refine Hcode.out.mono ?_
            rintro e w2 ⟨rfl, hm2⟩
            rw [Hz.out]
            have hm3 := Hm.out.trans hm2
            have Hm3 := Lib.hid hm3
            clear hm3
            clear hm2
            go_wp2_with fail
            go_roundw
            case rel => exact ⟨i + 1, b1, true, by omega, by go_num, rfl, rfl, by rw [any_take _ _ _ _ Hg.out, Hd'.out, ← Hb1.out]; simp, by rw [any_take _ _ _ _ Hg.out, Hd'.out]; simp, by rw [any_take _ _ _ _ Hg.out, Ha.out, Hbad.out]; rfl, Hm3.out⟩
            case measure => simp [intOf] <;> omega
    · obtain rfl : i = s.size := by omega
      have hfull : (chs s).take s.size = chs s := by rw [← chs_len, List.take_length]
      rw [hfull] at Hb1 Hb2 Hbad
      have fin : Hid ((if b2 then 2 else if b1 then 1 else 4) = modeOf (chs s)) := by
        show _ = _
        unfold modeOf
        rw [Hbad.out, ← Hb1.out, ← Hb2.out]; rfl
      clear hfull
      cases b2
      · cases b1
        all_goals
          go_wp2_with fail
          go_ret
          exact ⟨by rw [← fin.out]; rfl, Hm.out⟩
      · go_wp2_with fail
        go_ret
        exact ⟨by rw [← fin.out]; rfl, Hm.out⟩
end Go.Proofs.YtnpkihobbcglcaaGreatDoor
/- The bits of a character count; the bits needed; the version recommended. -/
open Go Go.RowKit
namespace Go.Proofs.YtnpkihobbcglcaaGreatDoor
open Go.QZ

/-- The bits of the character count, in the versions up to 9 (mode 1 numeric, 2 alphanumeric, 4 bytes). -/
def ccB (m : Nat) : Nat := if m = 1 then 10 else if m = 2 then 9 else 8
def Md (m : Nat) : Prop := m = 1 ∨ m = 2 ∨ m = 4

theorem ccTab_c (w : World) (m : Nat) (hm : Md m) : Calls Tryz.prog 127 #[.int .i64 m] w fun e w' => ∃ B, e = .returned (.slice (some ⟨B, 0, none⟩) 3 3) ∧ w'.cell? ⟨B, 0, none⟩ = some (.int .i64 (ccB m : Nat)) ∧ QZ.Mod (fun _ => False) w w' := by
  obtain rfl | rfl | rfl := hm
  · have hb := Blk.new w [.int .i64 10, .int .i64 12, .int .i64 14] 3
    have Hb := Lib.hid hb; clear hb
    go_enter Tryz.func127, Tryz.ntmps127
    go_wp2
    go_ret
    exact ⟨_, rfl, Hb.out.at 0 rfl, (QZ.Mod.refl _ _).alloc _⟩
  · have hb := Blk.new w [.int .i64 9, .int .i64 11, .int .i64 13] 3
    have Hb := Lib.hid hb; clear hb
    go_enter Tryz.func127, Tryz.ntmps127
    go_wp2
    go_ret
    exact ⟨_, rfl, Hb.out.at 0 rfl, (QZ.Mod.refl _ _).alloc _⟩
  · have hb := Blk.new w [.int .i64 8, .int .i64 16, .int .i64 16] 3
    have Hb := Lib.hid hb; clear hb
    go_enter Tryz.func127, Tryz.ntmps127
    go_wp2
    go_ret
    exact ⟨_, rfl, Hb.out.at 0 rfl, (QZ.Mod.refl _ _).alloc _⟩

theorem ccBits_c (w : World) (m v p : Nat) (hm : Md m) (hv : v < 8) (hp : w.cell? ⟨p, 0, none⟩ = some (.int .i64 v)) : Calls Tryz.prog 92 #[.int .i64 m, .pointer (some ⟨p, 0, none⟩)] w fun e w' => e = .returned (.int .i64 (ccB m : Nat)) ∧ QZ.Mod (fun _ => False) w w' := by
  have Hp := Lib.hid hp; have Hm := Lib.hid hm
  clear hp hm
  go_enter Tryz.func92, Tryz.ntmps92
  go_wp2_with fail
  refine ((Version_GetVersionNumber_c w p 0 _ Hp.out)).mono ?_
  rintro e w1 ⟨rfl, rfl⟩
  go_wp2_with fail
  refine (ccTab_c w m Hm.out).mono ?_
  rintro e w2 ⟨B, rfl, hc, hmm⟩
  have Hmm := Lib.hid hmm
  clear hmm
  go_wp2
  go_ret
  exact ⟨rfl, Hmm.out⟩
end Go.Proofs.YtnpkihobbcglcaaGreatDoor
/- What is appended to a BitArray, step by step. -/
open Go Go.RowKit
namespace Go.Proofs.YtnpkihobbcglcaaGreatDoor
open Go.QZ

/-- The BitArray p (its words at block B at first) holds bits now. -/
def Grown (w : World) (p B : Nat) (bs : List Bool) (w' : World) : Prop := ∃ B' ws', BA w' p B' ws' bs ∧ (B' = B ∨ w.heap.size ≤ B') ∧ QZ.Mod (fun k => k = p ∨ k = B) w w'
theorem Grown.start {w : World} {p B : Nat} {ws : List Nat} {bs : List Bool} (h : BA w p B ws bs) : Grown w p B bs w := ⟨B, ws, h, .inl rfl, QZ.Mod.refl _ _⟩
theorem Grown.mod {w w1 : World} {p B : Nat} {bs : List Bool} (h : Grown w p B bs w1) : QZ.Mod (fun k => k = p ∨ k = B) w w1 := by
  obtain ⟨_, _, _, _, h⟩ := h; exact h
theorem Grown.step {w w1 : World} {p B : Nat} {bs : List Bool} (h : Grown w p B bs w1) : ∃ B' ws', BA w1 p B' ws' bs ∧ ∀ L cs v e w2, Grew w1 p B' L cs v e w2 → e = .returned v ∧ Grown w p B cs w2 := by
  obtain ⟨B', ws', h1, h2, h3⟩ := h
  refine ⟨B', ws', h1, fun L cs v e w2 hg => ?_⟩
  obtain ⟨rfl, B2, us, g1, _, g3, g4⟩ := hg
  refine ⟨rfl, B2, us, g1, ?_, h3.then g4 (fun k hk hs => ?_)⟩
  · rcases g3 with e | e
    · rw [e]; exact h2
    · have := h3.size; right; omega
  · rcases hs with hs | hs
    · exact .inl hs
    · rcases h2 with e | e
      · exact .inr (hs.trans e)
      · omega
/-- New blocks beside change nothing. -/
theorem Grown.new {w w1 w2 : World} {p B : Nat} {bs : List Bool} (h : Grown w p B bs w1) (hm : QZ.Mod (fun _ => False) w1 w2) : Grown w p B bs w2 := by
  obtain ⟨B', ws', h1, h2, h3⟩ := h
  exact ⟨B', ws', h1.mod hm (fun f => f) (fun f => f), h2, h3.then hm (fun _ _ f => f.elim)⟩

theorem getBits_c (w : World) (m : Value) : Calls Tryz.prog 18 #[m] w fun e w' => e = .returned m ∧ w = w' := by
  go_enter Tryz.func18, Tryz.ntmps18
  go_wp2
  go_ret
  exact ⟨rfl, rfl⟩

theorem modeInfo_c (w : World) (p B : Nat) (ws : List Nat) (bs : List Bool) (h : BA w p B ws bs) (hn : bs.length < 16777000) (m : Nat) (hm : Md m) :
    Calls Tryz.prog 36 #[.int .i64 m, .pointer (some ⟨p, 0, none⟩)] w (Grew w p B ws.length (bs ++ beBits m 4) (.tuple #[])) := by
  have hm4 : m < 4294967296 := by rcases hm with h | h | h <;> omega
  have H := Lib.hid h
  clear h hm
  go_enter Tryz.func36, Tryz.ntmps36
  go_wp2_with fail
  refine ((getBits_c w (.int .i64 m))).mono ?_
  rintro e w1 ⟨rfl, rfl⟩
  go_wp2_with fail
  refine (appendBits_c w p B ws bs H.out hn m 4 hm4 (by decide)).mono ?_
  rintro e w2 ⟨rfl, hg⟩
  have Hg := Lib.hid hg
  clear hg
  go_wp2_with fail
  go_end0
  exact ⟨rfl, Hg.out⟩

set_option maxHeartbeats 800000 in
theorem lengthInfo_c (w : World) (p B : Nat) (ws : List Nat) (bs : List Bool) (h : BA w p B ws bs) (hn : bs.length < 16777000) (n m v pv : Nat) (hm : Md m) (hv : v < 8) (hpv : w.cell? ⟨pv, 0, none⟩ = some (.int .i64 v)) (hs : n < 256) :
    Calls Tryz.prog 46 #[.int .i64 n, .pointer (some ⟨pv, 0, none⟩), .int .i64 m, .pointer (some ⟨p, 0, none⟩)] w (fun e w' => e = .returned .nilIface ∧ Grown w p B (bs ++ beBits n (ccB m)) w') := by
  have hc : ∃ c, ccB m = c ∧ 8 ≤ c ∧ c ≤ 10 := by refine ⟨_, rfl, ?_⟩; unfold ccB; (repeat' split) <;> omega
  obtain ⟨c, hcc, hc1, hc2⟩ := hc
  have hp2 : ∀ c, c ≤ 10 → 8 ≤ c → 256 ≤ 2 ^ c ∧ 2 ^ c ≤ 1024 := by decide
  obtain ⟨p1, p2⟩ := hp2 c hc2 hc1
  have Hpv := Lib.hid hpv; have Hm := Lib.hid hm
  have Hcc := Lib.hid hcc
  clear hcc
  clear hpv hm hp2
  go_enter Tryz.func46, Tryz.ntmps46
  go_wp2_with fail
  refine ((ccBits_c w m v pv Hm.out hv Hpv.out)).mono ?_
  rintro e w1 ⟨rfl, hm1⟩
  rw [Hcc.out]
  have Hm1 := Lib.hid hm1
  clear hm1
  have t8 : decide ((256 : Int) ≤ (n : Int)) = false := by simp; omega
  have t9 : decide ((512 : Int) ≤ (n : Int)) = false := by simp; omega
  have t10 : decide ((1024 : Int) ≤ (n : Int)) = false := by simp; omega
  have hg0 := (Grown.start h).new Hm1.out
  obtain ⟨B', ws', hb1, hst⟩ := hg0.step
  have happ := fun c (hc : c ≤ 32) => appendBits_c w1 p B' ws' bs hb1 hn n c (by omega) hc
  have Happ := Lib.hid happ
  have Hst := Lib.hid hst
  clear happ hst
  clear hb1 hg0
  obtain rfl | rfl | rfl : c = 8 ∨ c = 9 ∨ c = 10 := by omega
  all_goals
    go_wp2_with fail
    refine (Happ.out _ (by decide)).mono ?_
    rintro e w2 hg
    obtain ⟨rfl, hg2⟩ := Hst.out _ _ _ _ _ hg
    have Hg2 := Lib.hid hg2
    clear hg2
    clear hg
    go_wp2_with fail
    go_ret
    exact ⟨rfl, Hcc.out ▸ Hg2.out⟩

end Go.Proofs.YtnpkihobbcglcaaGreatDoor
/- Bytes are appended. -/
open Go Go.RowKit
namespace Go.Proofs.YtnpkihobbcglcaaGreatDoor
open Go.QZ

theorem bytesWorld_mod (w : World) (s : ByteArray) : QZ.Mod (fun _ => False) w (Lib.bytesWorld w 5 s) := by
  refine ⟨rfl, rfl, rfl, ?_, fun k hk _ => Lib.bytesWorld_at_old w 5 s k hk⟩
  simp [Lib.bytesWorld, World.freeze, World.alloc, World.drew, -World.alloc_eq, -World.drew_eq]
theorem cv_run (w : World) (s : ByteArray) : (convert 9 32 (.string s)).run Tryz.prog w = .ok (.slice (some ⟨w.heap.size, 0, none⟩) s.size (grownCap w s.size 0 5)) (Lib.bytesWorld w 5 s) :=
  Lib.run_convert_string_bytes w 9 32 5 s (by kernel_rfl : _ = some .string) (by kernel_rfl) (by kernel_rfl)

theorem encB_step (cs : List Nat) (k c : Nat) (h : cs[k]? = some c) : encB (cs.take (k + 1)) = encB (cs.take k) ++ beBits c 8 := by
  unfold encB
  rw [List.take_add_one, h]; simp
theorem encB_take (cs : List Nat) (k : Nat) (hk : k ≤ 1000) : (encB (cs.take k)).length ≤ 8000 := by
  rw [encB_len, List.length_take]; omega
theorem Grown.old {w w0 w1 : World} {p B : Nat} {bs : List Bool} (hm : QZ.Mod (fun _ => False) w w0) (h : Grown w0 p B bs w1) : Grown w p B bs w1 := by
  obtain ⟨B', ws', h1, h2, h3⟩ := h
  exact ⟨B', ws', h1, h2.imp_right (fun h => Nat.le_trans hm.size h), (QZ.Mod.none hm).trans h3⟩

set_option maxHeartbeats 800000 in
theorem append8_c (w : World) (p B : Nat) (ws : List Nat) (bs : List Bool) (h : BA w p B ws bs) (hn : bs.length < 1000000) (s : ByteArray) (hs : s.size ≤ 1000) :
    Calls Tryz.prog 86 #[.string s, .pointer (some ⟨p, 0, none⟩)] w (fun e w' => e = .returned .nilIface ∧ Grown w p B (bs ++ encB (chs s)) w') := by
  have hp : p < w.heap.size := h.head.lt
  have hB : B < w.heap.size := h.words.lt
  have hcv := cv_run w s
  have Hbm := Lib.hid (bytesWorld_mod w s)
  have Hcell := Lib.hid (fun j (hj : j < s.size) => Lib.bytesWorld_cell w 5 s j hj)
  have hb0 := h.mod Hbm.out (fun f => f) (fun f => f)
  have Hh := Lib.hid h
  have Hb0 := Lib.hid hb0
  clear h hb0
  go_enter Tryz.func86, Tryz.ntmps86
  go_wp2_with fail
  clear hcv
  generalize Lib.bytesWorld w 5 s = w0 at *
  generalize hN : w.heap.size = N at *
  have HN := Lib.hid hN
  clear hN
  go_loopw [7, 12] (fun _ b wr => ∃ (k : Nat), k ≤ s.size ∧ b = .int .i64 k ∧ Grown w0 p B (bs ++ encB ((chs s).take k)) wr) (fun _ b _ => s.size - (intOf b).toNat)
  case atStart => exact ⟨0, by omega, rfl, by simpa [encB] using Grown.start Hb0.out⟩
  case round =>
    obtain ⟨k, hk, rfl, hg⟩ := hrel
    by_cases hlt : k < s.size
    · have c0 := cell_mod hg.mod (show ¬ (N = p ∨ N = B) by omega) (Hcell.out k hlt)
      obtain ⟨c, hc⟩ : ∃ c, (s.data.toList.getD k 0).toNat = c := ⟨_, rfl⟩
      have hget : (chs s)[k]? = some c := by
        rw [chs_get s k hlt, ← hc]
        rw [List.getD_eq_getElem?_getD, Array.getElem?_toList, Array.getElem?_eq_getElem (show k < s.data.size from hlt)]
        rfl
      have hc256 : c < 256 := by rw [← hc]; exact UInt8.toNat_lt _
      rw [hc] at c0
      clear hc
      obtain ⟨B', ws', hb1, hst⟩ := hg.step
      have hll := encB_take (chs s) k (by omega)
      have hes := encB_step _ _ _ hget
      have Hb1 := Lib.hid hb1
      have Hst := Lib.hid hst
      have Hg := Lib.hid hg
      have Hget := Lib.hid hget
      have Hes := Lib.hid hes
      clear hb1 hst hg hget hes
      go_wp2_with fail
      refine (appendBits_c wr p B' ws' _ Hb1.out (by rw [List.length_append]; omega) c 8 (by omega) (by decide)).mono ?_
      rintro e w2 hg
      obtain ⟨rfl, hg2⟩ := Hst.out _ _ _ _ _ hg
      rw [List.append_assoc, ← Hes.out] at hg2
      have Hg2 := Lib.hid hg2
      clear hg2
      clear hg
      go_wp2_with fail
      go_roundw
      case rel => exact ⟨k + 1, by omega, by go_num, Hg2.out⟩
      case measure => simp [intOf] <;> omega
    · obtain rfl : k = s.size := by omega
      have Hg := Lib.hid hg
      clear hg
      go_wp2_with fail
      go_ret
      have := Grown.old Hbm.out Hg.out
      rw [← chs_len, List.take_length] at this
      exact ⟨rfl, this⟩
end Go.Proofs.YtnpkihobbcglcaaGreatDoor
/- Digits are appended. -/
open Go Go.RowKit
namespace Go.Proofs.YtnpkihobbcglcaaGreatDoor
open Go.QZ

theorem dig_of (s : ByteArray) (hd : ∀ c ∈ chs s, isDig c = true) (i : Nat) (h : i < s.size) : 48 ≤ (s[i]).toNat ∧ (s[i]).toNat ≤ 57 := by
  have := hd _ (List.mem_of_getElem? (chs_get s i h))
  simpa [isDig] using this
theorem chs_drop (s : ByteArray) (i : Nat) (h : i < s.size) : (chs s).drop i = (s[i]).toNat :: (chs s).drop (i + 1) := by
  have hg := chs_get s i h
  have hl : i < (chs s).length := by rw [chs_len]; exact h
  rw [List.getElem?_eq_getElem hl] at hg
  rw [← Option.some.inj hg, List.drop_eq_getElem_cons hl]

set_option maxRecDepth 20000 in
set_option maxHeartbeats 3200000 in
theorem appendNum_c (w : World) (p B : Nat) (ws : List Nat) (bs : List Bool) (h : BA w p B ws bs) (hn : bs.length < 1000000) (s : ByteArray) (hs : s.size ≤ 1000) (hd : ∀ c ∈ chs s, isDig c = true) :
    Calls Tryz.prog 84 #[.string s, .pointer (some ⟨p, 0, none⟩)] w (fun e w' => e = .returned (.tuple #[]) ∧ Grown w p B (bs ++ encN (chs s)) w') := by
  have hel : (encN (chs s)).length ≤ 8000 := by have := encN_len (chs s); rw [chs_len] at this; omega
  have H := Lib.hid h
  have Hd := Lib.hid hd
  have Hel := Lib.hid hel
  clear h hd hel
  go_enter Tryz.func84, Tryz.ntmps84
  go_wp2_with fail
  go_loopw [5, 6, 7, 8, 9] (fun a _ _ _ _ wr => ∃ (i : Nat) (X : List Bool), i ≤ s.size ∧ a = .int .i64 i ∧ X ++ encN ((chs s).drop i) = encN (chs s) ∧ Grown w p B (bs ++ X) wr) (fun a _ _ _ _ _ => s.size - (intOf a).toNat)
  case atStart => exact ⟨0, [], by omega, rfl, rfl, by simpa using Grown.start H.out⟩
  case round =>
    obtain ⟨i, X, hi, rfl, hX, hg⟩ := hrel
    have hXl : X.length ≤ 8000 := by have := Hel.out; rw [← hX, List.length_append] at this; omega
    obtain ⟨B', ws', hb1, hst⟩ := hg.step
    have Hb1 := Lib.hid hb1
    have Hst := Lib.hid hst
    have Hg := Lib.hid hg
    clear hb1 hst hg
    by_cases hlt : i < s.size
    · obtain ⟨a1, a2⟩ := dig_of s Hd.out i hlt
      by_cases h2 : i + 2 < s.size
      · obtain ⟨b1, b2⟩ := dig_of s Hd.out (i + 1) (by omega)
        obtain ⟨c1, c2⟩ := dig_of s Hd.out (i + 2) h2
        have t2 : decide ((i : Int) + 2 < (s.size : Int)) = true := by simp; omega
        have hb : i + 1 < s.size := by omega
        rw [chs_drop s i hlt, chs_drop s (i + 1) hb, chs_drop s (i + 1 + 1) h2] at hX
        have hX2 : (X ++ beBits (((s[i]).toNat - 48) * 100 + ((s[i + 1]).toNat - 48) * 10 + ((s[i + 2]).toNat - 48)) 10) ++ encN ((chs s).drop (i + 3)) = encN (chs s) := by rw [List.append_assoc]; exact hX
        have HX2 := Lib.hid hX2
        clear hX2
        go_wp2_with fail
        rw [show (((s[i]).toNat : Int) - 48) * 100 + (((s[i + 1]).toNat : Int) - 48) * 10 + (((s[i + 2]).toNat : Int) - 48) = ((((s[i]).toNat - 48) * 100 + ((s[i + 1]).toNat - 48) * 10 + ((s[i + 2]).toNat - 48) : Nat) : Int) by omega]
        refine (appendBits_c wr p B' ws' _ Hb1.out (by rw [List.length_append]; omega) _ 10 (by omega) (by decide)).mono ?_
        rintro e w2 hg
        obtain ⟨rfl, hg2⟩ := Hst.out _ _ _ _ _ hg
        rw [List.append_assoc] at hg2
        have Hg2 := Lib.hid hg2
        clear hg2
        clear hg
        go_wp2_with fail
        go_roundw
        case rel => exact ⟨i + 3, _, by omega, by go_num, HX2.out, Hg2.out⟩
        case measure => simp [intOf] <;> omega
      · have t2 : decide ((i : Int) + 2 < (s.size : Int)) = false := by simp; omega
        by_cases h1 : i + 1 < s.size
        · obtain ⟨b1, b2⟩ := dig_of s Hd.out (i + 1) (by omega)
          have t1 : decide ((i : Int) + 1 < (s.size : Int)) = true := by simp; omega
          have hnil : (chs s).drop (i + 2) = [] := List.drop_eq_nil_of_le (by rw [chs_len]; omega)
          rw [chs_drop s i hlt, chs_drop s (i + 1) h1, hnil] at hX
          have hX2 : (X ++ beBits (((s[i]).toNat - 48) * 10 + ((s[i + 1]).toNat - 48)) 7) ++ encN ((chs s).drop (i + 2)) = encN (chs s) := by rw [hnil, List.append_assoc]; exact hX
          have HX2 := Lib.hid hX2
          clear hX2
          go_wp2_with fail
          rw [show (((s[i]).toNat : Int) - 48) * 10 + (((s[i + 1]).toNat : Int) - 48) = ((((s[i]).toNat - 48) * 10 + ((s[i + 1]).toNat - 48) : Nat) : Int) by omega]
          refine (appendBits_c wr p B' ws' _ Hb1.out (by rw [List.length_append]; omega) _ 7 (by omega) (by decide)).mono ?_
          rintro e w2 hg
          obtain ⟨rfl, hg2⟩ := Hst.out _ _ _ _ _ hg
          rw [List.append_assoc] at hg2
          have Hg2 := Lib.hid hg2
          clear hg2
          clear hg
          go_wp2_with fail
          go_roundw
          case rel => exact ⟨i + 2, _, by omega, by go_num, HX2.out, Hg2.out⟩
          case measure => simp [intOf] <;> omega
        · have t1 : decide ((i : Int) + 1 < (s.size : Int)) = false := by simp; omega
          have hnil : (chs s).drop (i + 1) = [] := List.drop_eq_nil_of_le (by rw [chs_len]; omega)
          rw [chs_drop s i hlt, hnil] at hX
          have hX2 : (X ++ beBits ((s[i]).toNat - 48) 4) ++ encN ((chs s).drop (i + 1)) = encN (chs s) := by rw [hnil, List.append_assoc]; exact hX
          have HX2 := Lib.hid hX2
          clear hX2
          go_wp2_with fail
          rw [show ((s[i]).toNat : Int) - 48 = (((s[i]).toNat - 48 : Nat) : Int) by omega]
          refine (appendBits_c wr p B' ws' _ Hb1.out (by rw [List.length_append]; omega) _ 4 (by omega) (by decide)).mono ?_
          rintro e w2 hg
          obtain ⟨rfl, hg2⟩ := Hst.out _ _ _ _ _ hg
          rw [List.append_assoc] at hg2
          have Hg2 := Lib.hid hg2
          clear hg2
          clear hg
          go_wp2_with fail
          go_roundw
          case rel => exact ⟨i + 1, _, by omega, by go_num, HX2.out, Hg2.out⟩
          case measure => simp [intOf] <;> omega
    · obtain rfl : i = s.size := by omega
      rw [← chs_len, List.drop_length] at hX
      have HX := Lib.hid hX
      clear hX
      go_wp2_with fail
      go_end0
      have := HX.out
      rw [show encN [] = [] from rfl, List.append_nil] at this
      exact ⟨rfl, this ▸ Hg.out⟩
end Go.Proofs.YtnpkihobbcglcaaGreatDoor
/- Alphanumeric characters are appended. -/
open Go Go.RowKit
namespace Go.Proofs.YtnpkihobbcglcaaGreatDoor
open Go.QZ

theorem aln_code (c : Nat) (hc : c < 256) (h : (alnOf c == 99) = false) : ∃ z : Nat, alnOf c = z ∧ codeI (alnOf c) = (z : Int) ∧ z < 45 ∧ ((z : Int) == -1) = false := by
  have h1 : alnOf c ≠ 99 := by simpa using h
  have := (aln_back c hc h1).1
  exact ⟨_, rfl, by unfold codeI; rw [if_neg h1], this, by rw [beq_eq_false_iff_ne]; omega⟩

set_option maxRecDepth 20000 in
set_option maxHeartbeats 3200000 in
theorem appendAln_c (w : World) (p B : Nat) (ws : List Nat) (bs : List Bool) (h : BA w p B ws bs) (hn : bs.length < 1000000) (s : ByteArray) (hs : s.size ≤ 1000) (hd : ∀ c ∈ chs s, (alnOf c == 99) = false) :
    Calls Tryz.prog 85 #[.string s, .pointer (some ⟨p, 0, none⟩)] w (fun e w' => e = .returned .nilIface ∧ Grown w p B (bs ++ encA (chs s)) w') := by
  have hel : (encA (chs s)).length ≤ 8000 := by have := encA_len (chs s); rw [chs_len] at this; omega
  have H := Lib.hid h
  have Hd := Lib.hid hd
  have Hel := Lib.hid hel
  clear h hd hel
  go_enter Tryz.func85, Tryz.ntmps85
  go_wp2_with fail
  go_loopw [6, 7, 8] (fun a _ _ wr => ∃ (i : Nat) (X : List Bool), i ≤ s.size ∧ a = .int .i64 i ∧ X ++ encA ((chs s).drop i) = encA (chs s) ∧ Grown w p B (bs ++ X) wr) (fun a _ _ _ => s.size - (intOf a).toNat)
  case atStart => exact ⟨0, [], by omega, rfl, rfl, by simpa using Grown.start H.out⟩
  case round =>
    obtain ⟨i, X, hi, rfl, hX, hg⟩ := hrel
    have hXl : X.length ≤ 8000 := by have := Hel.out; rw [← hX, List.length_append] at this; omega
    have Hg := Lib.hid hg
    clear hg
    by_cases hlt : i < s.size
    · obtain ⟨za, ha1, ha2, ha3, ha4⟩ := aln_code (s[i]).toNat (UInt8.toNat_lt _) (Hd.out _ (List.mem_of_getElem? (chs_get s i hlt)))
      have Ha1 := Lib.hid ha1
      have Ha2 := Lib.hid ha2
      clear ha1 ha2
      by_cases h1 : i + 1 < s.size
      · obtain ⟨zb, hb1, hb2, hb3, hb4⟩ := aln_code (s[i + 1]).toNat (UInt8.toNat_lt _) (Hd.out _ (List.mem_of_getElem? (chs_get s (i + 1) h1)))
        rw [chs_drop s i hlt, chs_drop s (i + 1) h1] at hX
        have hX2 : (X ++ beBits (za * 45 + zb) 11) ++ encA ((chs s).drop (i + 2)) = encA (chs s) := by rw [List.append_assoc, ← Ha1.out, ← hb1]; exact hX
        have t1 : decide ((i : Int) + 1 < (s.size : Int)) = true := by simp; omega
        have Hb1 := Lib.hid hb1
        have Hb2 := Lib.hid hb2
        have HX2 := Lib.hid hX2
        clear hb1 hb2 hX2
        clear hX
        go_wp2_with fail
        refine (code_c wr (s[i]).toNat (UInt8.toNat_lt _)).mono ?_
        rintro e w1 ⟨rfl, hm1⟩
        rw [Ha2.out]
        have hg1 := Hg.out.new hm1
        have Hg1 := Lib.hid hg1
        clear hg1
        clear hm1
        go_wp2_with fail
        refine (code_c w1 (s[i + 1]).toNat (UInt8.toNat_lt _)).mono ?_
        rintro e w2 ⟨rfl, hm2⟩
        rw [Hb2.out]
        have hg2 := Hg1.out.new hm2
        obtain ⟨B', ws', hq1, hst⟩ := hg2.step
        have Hq1 := Lib.hid hq1
        have Hst := Lib.hid hst
        clear hq1 hst
        clear hm2 hg2
        go_wp2_with fail
        rw [show ((za : Int) * 45 + (zb : Int)) = ((za * 45 + zb : Nat) : Int) by omega]
        refine (appendBits_c w2 p B' ws' _ Hq1.out (by rw [List.length_append]; omega) _ 11 (by omega) (by decide)).mono ?_
        rintro e w3 hg
        obtain ⟨rfl, hg2⟩ := Hst.out _ _ _ _ _ hg
        rw [List.append_assoc] at hg2
        have Hg2 := Lib.hid hg2
        clear hg2
        clear hg
        go_wp2_with fail
        go_roundw
        case rel => exact ⟨i + 2, _, by omega, by go_num, HX2.out, Hg2.out⟩
        case measure => simp [intOf] <;> omega
      · have hnil : (chs s).drop (i + 1) = [] := List.drop_eq_nil_of_le (by rw [chs_len]; omega)
        rw [chs_drop s i hlt, hnil] at hX
        have hX2 : (X ++ beBits za 6) ++ encA ((chs s).drop (i + 1)) = encA (chs s) := by rw [hnil, List.append_assoc, ← Ha1.out]; exact hX
        have t1 : decide ((i : Int) + 1 < (s.size : Int)) = false := by simp; omega
        have HX2 := Lib.hid hX2
        clear hX2
        clear hX hnil
        go_wp2_with fail
        refine (code_c wr (s[i]).toNat (UInt8.toNat_lt _)).mono ?_
        rintro e w1 ⟨rfl, hm1⟩
        rw [Ha2.out]
        have hg1 := Hg.out.new hm1
        obtain ⟨B', ws', hq1, hst⟩ := hg1.step
        have Hq1 := Lib.hid hq1
        have Hst := Lib.hid hst
        clear hq1 hst
        clear hm1 hg1
        go_wp2_with fail
        refine (appendBits_c w1 p B' ws' _ Hq1.out (by rw [List.length_append]; omega) za 6 (by omega) (by decide)).mono ?_
        rintro e w3 hg
        obtain ⟨rfl, hg2⟩ := Hst.out _ _ _ _ _ hg
        rw [List.append_assoc] at hg2
        have Hg2 := Lib.hid hg2
        clear hg2
        clear hg
        go_wp2_with fail
        go_roundw
        case rel => exact ⟨i + 1, _, by omega, by go_num, HX2.out, Hg2.out⟩
        case measure => simp [intOf] <;> omega
    · obtain rfl : i = s.size := by omega
      rw [← chs_len, List.drop_length] at hX
      have HX := Lib.hid hX
      clear hX
      go_wp2_with fail
      go_ret
      have := HX.out
      rw [show encA [] = [] from rfl, List.append_nil] at this
      exact ⟨rfl, this ▸ Hg.out⟩
end Go.Proofs.YtnpkihobbcglcaaGreatDoor
/- A text is appended. -/
open Go Go.RowKit
namespace Go.Proofs.YtnpkihobbcglcaaGreatDoor
open Go.QZ

/-- The bits of a text in a mode. -/
def encM (m : Nat) (cs : List Nat) : List Bool := if m = 1 then encN cs else if m = 2 then encA cs else encB cs
theorem mode_md (cs : List Nat) : Md (modeOf cs) := by unfold modeOf Md; (repeat' split) <;> omega
theorem mode_1 (cs : List Nat) (h : modeOf cs = 1) : ∀ c ∈ cs, isDig c = true := by
  unfold modeOf at h
  split at h
  · omega
  · split at h
    · omega
    · rename_i h2
      intro c hc
      simp only [List.any_eq_true, not_exists, not_and] at h2
      simpa using h2 c hc
theorem mode_2 (cs : List Nat) (h : modeOf cs = 2) : ∀ c ∈ cs, (alnOf c == 99) = false := by
  unfold modeOf at h
  split at h
  · omega
  · rename_i h2
    intro c hc
    simp only [List.any_eq_true, not_exists, not_and] at h2
    exact (Bool.not_eq_true _).mp (h2 c hc)
theorem encM_len (m : Nat) (cs : List Nat) : (encM m cs).length ≤ 8 * cs.length := by
  unfold encM
  split
  · exact encN_len cs
  · split
    · exact encA_len cs
    · exact Nat.le_of_eq (encB_len cs)

theorem appendBytes_c (w : World) (p B : Nat) (ws : List Nat) (bs : List Bool) (h : BA w p B ws bs) (hn : bs.length < 1000000) (s : ByteArray) (hs : s.size ≤ 1000) (m : Nat) (hm : modeOf (chs s) = m) :
    Calls Tryz.prog 37 #[.string s, .int .i64 m, .pointer (some ⟨p, 0, none⟩)] w (fun e w' => e = .returned .nilIface ∧ Grown w p B (bs ++ encM m (chs s)) w') := by
  have hmd := mode_md (chs s)
  rw [hm] at hmd
  obtain rfl | rfl | rfl := hmd
  · have hd := mode_1 _ hm
    have Hh := Lib.hid h
    have Hd := Lib.hid hd
    have Hm := Lib.hid hm
    clear h hd hm
    go_enter Tryz.func37, Tryz.ntmps37
    go_wp2_with fail
    refine (appendNum_c w p B ws bs Hh.out hn s hs Hd.out).mono ?_
    rintro e w1 ⟨rfl, hg⟩
    have Hg := Lib.hid hg
    clear hg
    go_wp2_with fail
    go_ret
    exact ⟨rfl, Hg.out⟩
  · have hd := mode_2 _ hm
    have Hh := Lib.hid h
    have Hd := Lib.hid hd
    have Hm := Lib.hid hm
    clear h hd hm
    go_enter Tryz.func37, Tryz.ntmps37
    go_wp2_with fail
    refine (appendAln_c w p B ws bs Hh.out hn s hs Hd.out).mono ?_
    rintro e w1 ⟨rfl, hg⟩
    have Hg := Lib.hid hg
    clear hg
    go_wp2_with fail
    go_ret
    exact ⟨rfl, Hg.out⟩
  · have Hh := Lib.hid h
    have Hm := Lib.hid hm
    clear h hm
    go_enter Tryz.func37, Tryz.ntmps37
    go_wp2_with fail
    refine (append8_c w p B ws bs Hh.out hn s hs).mono ?_
    rintro e w1 ⟨rfl, hg⟩
    have Hg := Lib.hid hg
    clear hg
    go_wp2_with fail
    go_ret
    exact ⟨rfl, Hg.out⟩
end Go.Proofs.YtnpkihobbcglcaaGreatDoor
/- The bits needed; the version recommended. -/
open Go Go.RowKit
namespace Go.Proofs.YtnpkihobbcglcaaGreatDoor
open Go.QZ

theorem bitsNeeded_c (w : World) (m v p h1 B1 d1 D1 : Nat) (ws1 ws2 : List Nat) (hs ds : List Bool) (hm : Md m) (hv : v < 8) (hp : w.cell? ⟨p, 0, none⟩ = some (.int .i64 v))
    (hh : BA w h1 B1 ws1 hs) (hd : BA w d1 D1 ws2 ds) (hl1 : hs.length ≤ 10000) (hl2 : ds.length ≤ 10000) :
    Calls Tryz.prog 41 #[.int .i64 m, .pointer (some ⟨h1, 0, none⟩), .pointer (some ⟨d1, 0, none⟩), .pointer (some ⟨p, 0, none⟩)] w fun e w' => e = .returned (.int .i64 (hs.length + ccB m + ds.length : Nat)) ∧ QZ.Mod (fun _ => False) w w' := by
  have hc : ccB m ≤ 10 := by unfold ccB; (repeat' split) <;> omega
  have H1 := Lib.hid hh.c1; have H2 := Lib.hid hd.c1; have Hp := Lib.hid hp; have Hm := Lib.hid hm
  clear hh hd hp hm
  generalize hs.length = a at *
  generalize ds.length = b at *
  go_enter Tryz.func41, Tryz.ntmps41
  go_wp2_with fail
  refine ((BitArray_GetSize_c w h1 0 _ H1.out)).mono ?_
  rintro e w1 ⟨rfl, rfl⟩
  go_wp2_with fail
  refine (ccBits_c w m v p Hm.out hv Hp.out).mono ?_
  rintro e w2 ⟨rfl, hmm⟩
  have H3 := Lib.hid (cell_mod hmm (fun f => f) H2.out)
  have Hmm := Lib.hid hmm
  clear hmm
  obtain ⟨c, hce⟩ : ∃ c, ccB m = c := ⟨_, rfl⟩
  rw [hce]
  rw [hce] at hc
  have Hce := Lib.hid hce
  clear hce
  go_wp2_with fail
  refine (BitArray_GetSize_c w2 d1 0 _ H3.out).mono ?_
  rintro e w3 ⟨rfl, rfl⟩
  go_wp2_with fail
  go_ret
  refine ⟨?_, Hmm.out⟩
  show Ending.returned (.int .i64 ((a : Int) + c + b)) = _
  rw [show ((a : Int) + c + b) = ((a + c + b : Nat) : Int) by omega, Hce.out]

theorem Ver.num {X : Nat → Prop} {w : World} {p v : Nat} (h : Ver X w p v) : w.cell? ⟨p, 0, none⟩ = some (.int .i64 v) := by
  obtain ⟨A, C, hb, _⟩ := h
  exact hb.at 0 rfl

set_option maxHeartbeats 800000 in
theorem recommend_c (w : World) (l m v h1 B1 d1 D1 : Nat) (ws1 ws2 : List Nat) (hs ds : List Bool) (hm : Md m) (hl : l < 4)
    (hh : BA w h1 B1 ws1 hs) (hd : BA w d1 D1 ws2 ds) (hl1 : hs.length ≤ 10000) (hl2 : ds.length ≤ 10000) (hf : Fits (hs.length + ccB m + ds.length) l v) :
    Calls Tryz.prog 43 #[.int .i64 l, .int .i64 m, .pointer (some ⟨h1, 0, none⟩), .pointer (some ⟨d1, 0, none⟩)] w (GotVer2 w v) := by
  have hv := hf.2.1
  have hn : hs.length + ccB m + ds.length ≤ 100000 := by
    have hc : ccB m ≤ 10 := by unfold ccB; (repeat' split) <;> omega
    omega
  have Hh := Lib.hid hh
  have Hd := Lib.hid hd
  have Hm := Lib.hid hm
  have Hf := Lib.hid hf
  have Hn := Lib.hid hn
  clear hh hd hm hf hn
  go_enter Tryz.func43, Tryz.ntmps43
  go_wp2_with fail
  refine (getVersion_c w 1 (by decide) (by decide)).mono ?_
  rintro e w1 ⟨p, rfl, hp, hm1⟩
  have hp0 := hp.num
  have Hp := Lib.hid hp
  have Hm1 := Lib.hid hm1
  have Hp0 := Lib.hid hp0
  clear hp hm1 hp0
  go_wp2_with fail
  refine (bitsNeeded_c w1 m 1 p h1 B1 d1 D1 ws1 ws2 hs ds Hm.out (by decide) Hp0.out (Hh.out.mod Hm1.out (fun f => f) (fun f => f)) (Hd.out.mod Hm1.out (fun f => f) (fun f => f)) hl1 hl2).mono ?_
  rintro e w2 ⟨rfl, hm2⟩
  have hm2' := Hm1.out.trans hm2
  have Hm2' := Lib.hid hm2'
  clear hm2'
  clear hm2
  go_wp2_with fail
  refine (chooseVersion_c w2 _ l v Hf.out hl Hn.out).mono ?_
  rintro e w3 ⟨q, rfl, hq, hm3⟩
  have hq0 := hq.num
  have hm3' := Hm2'.out.trans hm3
  have Hq0 := Lib.hid hq0
  have Hm3' := Lib.hid hm3'
  clear hq0 hm3'
  clear hm3 hq
  go_wp2_with fail
  refine (bitsNeeded_c w3 m v q h1 B1 d1 D1 ws1 ws2 hs ds Hm.out hv Hq0.out (Hh.out.mod Hm3'.out (fun f => f) (fun f => f)) (Hd.out.mod Hm3'.out (fun f => f) (fun f => f)) hl1 hl2).mono ?_
  rintro e w4 ⟨rfl, hm4⟩
  have hm4' := Hm3'.out.trans hm4
  have Hm4' := Lib.hid hm4'
  clear hm4'
  clear hm4
  go_wp2_with fail
  refine (chooseVersion_c w4 _ l v Hf.out hl Hn.out).mono ?_
  rintro e w5 ⟨r, rfl, hr, hm5⟩
  have hm5' := Hm4'.out.trans hm5
  have hr' := hr.weak (Y := fun k => k < w.heap.size) (fun k hk => by have := Hm4'.out.size; omega)
  have Hr' := Lib.hid hr'
  have Hm5' := Lib.hid hm5'
  clear hr' hm5'
  clear hm5 hr
  go_wp2_with fail
  go_ret2
  exact ⟨r, rfl, Hr'.out, Hm5'.out⟩
end Go.Proofs.YtnpkihobbcglcaaGreatDoor
/- Look-ups in an empty map; what stays when only new blocks are written. -/
open Go Go.RowKit
namespace Go.Proofs.YtnpkihobbcglcaaGreatDoor
open Go.QZ

theorem lookup_none (w : World) (b : Nat) (h : w.heap[b]? = some (.map #[] 0)) (k : Int) : (Instr.lookup 40 (.map (some b)) (.int .i64 k) true).run Tryz.prog w = .ok (.tuple #[.nilIface, .bool false]) w := by
  have hu : Tryz.prog.underlying 40 = some (.map 41 20) := by kernel_rfl
  have hz : (zeroValue 20).run Tryz.prog w = .ok .nilIface w := by kernel_rfl
  have hk : (Instr.checkKey true 10000 41 (.int .i64 k)).run Tryz.prog w = .ok () w := by kernel_rfl
  have hf : (Instr.findKey 41 (.int .i64 k) []).run Tryz.prog w = .ok none w := by kernel_rfl
  simp [Instr.lookup, run_underlying hu, MapKept.run_getObj_map h, hk, hf, hz, Result.andThen]

theorem map_kept {S : Nat → Prop} {w w' : World} {b : Nat} {o : Obj} (h : w.heap[b]? = some o) (hm : QZ.Mod S w w') (hS : ¬ S b) : w'.heap[b]? = some o := by
  have hb : b < w.heap.size := by
    rcases Nat.lt_or_ge b w.heap.size with h1 | h1
    · exact h1
    · rw [Array.getElem?_eq_none h1] at h; cases h
  rw [hm.block b hb hS]; exact h

theorem _root_.Go.QZ.cell_old {S : Nat → Prop} {w w' : World} {R j : Nat} {v : Value} (hm : QZ.Mod S w w') (hS : ∀ k, S k → w.heap.size ≤ k) (hc : w.cell? ⟨R, j, none⟩ = some v) : w'.cell? ⟨R, j, none⟩ = some v :=
  cell_mod hm (fun s => by have := hS _ s; have := cell_lt hc; omega) hc
theorem BA.old {S : Nat → Prop} {w w' : World} {p B : Nat} {ws : List Nat} {bs : List Bool} (h : BA w p B ws bs) (hm : QZ.Mod S w w') (hS : ∀ k, S k → w.heap.size ≤ k) : BA w' p B ws bs :=
  h.mod hm (fun s => by have := hS _ s; have := h.head.lt; omega) (fun s => by have := hS _ s; have := h.words.lt; omega)
theorem EC.old {S : Nat → Prop} {w w' : World} {C o B : Nat} {e : Nat × List (Nat × Nat)} (h : EC w C o B e) (hm : QZ.Mod S w w') (hS : ∀ k, S k → w.heap.size ≤ k) : EC w' C o B e :=
  ⟨cell_old hm hS h.1, cell_old hm hS h.2.1, fun j hj => ⟨cell_old hm hS (h.2.2 j hj).1, cell_old hm hS (h.2.2 j hj).2⟩⟩
theorem Ver.old {X S : Nat → Prop} {w w' : World} {p v : Nat} (h : Ver X w p v) (hm : QZ.Mod S w w') (hS : ∀ k, S k → w.heap.size ≤ k) : Ver X w' p v := by
  obtain ⟨A, C, hb, ha, he, hp, hA, hC⟩ := h
  refine ⟨A, C, hm.blk (fun s => by have := hS _ s; have := hb.lt; omega) hb, fun j hj => cell_old hm hS (ha j hj), fun l hl => ?_, hp, hA, hC⟩
  obtain ⟨B, h, hB⟩ := he l hl
  exact ⟨B, h.old hm hS, hB⟩
theorem mod_from {S : Nat → Prop} {N : Nat} {w w1 w2 : World} (h1 : QZ.Mod (fun k => N ≤ k) w w1) (h2 : QZ.Mod S w1 w2) (hS : ∀ k, S k → N ≤ k) : QZ.Mod (fun k => N ≤ k) w w2 := h1.trans (h2.mono (fun k _ s => hS k s))
theorem mod_from0 {N : Nat} {w w1 w2 : World} (h1 : QZ.Mod (fun k => N ≤ k) w w1) (h2 : QZ.Mod (fun _ => False) w1 w2) : QZ.Mod (fun k => N ≤ k) w w2 := mod_from h1 h2 (fun _ f => f.elim)
theorem mod_start (N : Nat) (w : World) : QZ.Mod (fun k => N ≤ k) w w := QZ.Mod.refl _ _
theorem EC.ba {w : World} {C o B p Q : Nat} {e : Nat × List (Nat × Nat)} {ws : List Nat} {bs : List Bool} (h : EC w C o B e) (he : 0 < e.2.length) (ho : o = 0 ∨ 2 ≤ o) (hb : BA w p Q ws bs) : ¬ (C = p ∨ C = Q) ∧ ¬ (B = p ∨ B = Q) := by
  obtain ⟨h1, h2, h3⟩ := h
  have hp := (h3 0 he).1
  rw [Nat.zero_mul] at hp
  refine ⟨fun hc => ?_, fun hc => ?_⟩
  · rcases hc with rfl | rfl
    · rw [hb.head.cell] at h1
      rcases ho with rfl | ho
      · simp at h1
      · rw [List.getElem?_eq_none (by simp; omega)] at h1; cases h1
    · rw [hb.words.cell] at h1
      rcases Nat.lt_or_ge o ws.length with hl | hl
      · rw [cellsN_get _ _ _ hl] at h1; simp at h1
      · rw [List.getElem?_eq_none (by rw [cellsN_length]; exact hl)] at h1; cases h1
  · rcases hc with rfl | rfl
    · rw [hb.head.cell] at hp; simp at hp
    · rw [hb.words.cell] at hp
      rcases Nat.lt_or_ge 0 ws.length with hl | hl
      · rw [cellsN_get _ _ _ hl] at hp; simp at hp
      · rw [List.getElem?_eq_none (by rw [cellsN_length]; exact hl)] at hp; cases hp
theorem map_old {w w' : World} {b : Nat} {o : Obj} (h : w.heap[b]? = some o) (hm : QZ.Mod (fun k => w.heap.size ≤ k) w w') : w'.heap[b]? = some o := by
  have hb : b < w.heap.size := by
    rcases Nat.lt_or_ge b w.heap.size with h1 | h1
    · exact h1
    · rw [Array.getElem?_eq_none h1] at h; cases h
  exact map_kept h hm (by omega)
theorem mod_end {w w' : World} (hm : QZ.Mod (fun k => w.heap.size ≤ k) w w') : QZ.Mod (fun _ => False) w w' := (QZ.Mod.refl _ w).new hm (fun _ h => h)
end Go.Proofs.YtnpkihobbcglcaaGreatDoor
