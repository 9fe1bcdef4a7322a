/- Part 40 of the proof of FnPXQuick (a QR code that is written for a text says this text in a picture): parts of the road. No condition. -/
import Derived.Lib.SlBytesRow
import Derived.Deep.LoopGhost
import Derived.Test.YtnpkihobbcglcaaGreatDoorG21
import Derived.Test.YtnpkihobbcglcaaGreatDoorG39
/- A stream of bytes is decoded. (Written by gen_wk.py.) -/
open Go Go.RowKit
namespace Go.Proofs.YtnpkihobbcglcaaGreatDoor
open Go.QZ

/-- The list of segments: empty, or one list of bytes. -/
def SegsOK (b : Nat) (w : World) (sg : Value) : Prop := (∃ a c, sg = .slice a 0 c) ∨ ∃ S sc X c, sg = .slice (some ⟨S, 0, none⟩) 1 sc ∧ w.cell? ⟨S, 0, none⟩ = some (.slice (some ⟨X, 0, none⟩) c c) ∧ (∀ j, j < c → ∃ b : Nat, w.cell? ⟨X, j, none⟩ = some (.int .u8 b)) ∧ 1 ≤ c ∧ c ≤ 1000 ∧ b ≤ S ∧ b ≤ X
theorem SegsOK.old {b : Nat} {S : Nat → Prop} {w w' : World} {sg : Value} (h : SegsOK b w sg) (hm : QZ.Mod S w w') (hS : ∀ k, b ≤ k → k < w.heap.size → ¬ S k) : SegsOK b w' sg := by
  rcases h with h | ⟨S, sc, X, c, h1, h2, h3, h4, h5, h6, h7⟩
  · exact .inl h
  · obtain ⟨b0, hb0⟩ := h3 0 (by omega)
    exact .inr ⟨S, sc, X, c, h1, cell_mod hm (hS S h6 (cell_lt h2)) h2, fun j hj => by
      obtain ⟨b, hb⟩ := h3 j hj
      exact ⟨b, cell_mod hm (hS X h7 (cell_lt hb0)) hb⟩, h4, h5, h6, h7⟩
theorem SegsOK.low {b b' : Nat} {w : World} {sg : Value} (h : SegsOK b w sg) (hb : b' ≤ b) : SegsOK b' w sg := by
  rcases h with h | ⟨S, sc, X, c, h1, h2, h3, h4, h5, h6, h7⟩
  · exact .inl h
  · exact .inr ⟨S, sc, X, c, h1, h2, h3, h4, h5, by omega, by omega⟩
theorem _root_.Go.QZ.Own.shape_empty {S : Nat → Prop} {w w' : World} {base : Nat} {sv : Value} (h : Own w base 32 sv []) (_hm : QZ.Mod S w w') (_ : True ∨ True) : SegsOK base w' sv := by
  rcases h.either with h | ⟨g, cap, h, _⟩
  · exact .inl ⟨none, 0, h.1⟩
  · exact .inl ⟨some ⟨g, 0, none⟩, cap, h⟩

/-- How far the stream is decoded: k = 2: nothing yet; k = 1: the text. -/
def DecPh (k : Nat) (w0 : World) (base q D N cap : Nat) (ys : List Nat) (m : Nat) (cs : List Nat) (T : List Bool) (r s : Value) (wr : World) : Prop :=
  (k = 2 ∧ Own wr base 5 r [] ∧ Own wr base 32 s [] ∧ Rd wr q D N cap ys (beBits m 4 ++ (beBits cs.length (ccB m) ++ (encM m cs ++ T))) ∧ QZ.Mod (fun j => j = q ∨ base ≤ j) w0 wr) ∨
  (k = 1 ∧ Own wr base 5 r (cellsN .u8 cs) ∧ SegsOK base wr s ∧ Rd wr q D N cap ys T ∧ QZ.Mod (fun j => j = q ∨ base ≤ j) w0 wr)

/-- What the decoder says. -/
def Decoded (w : World) (s : ByteArray) (D N cap : Nat) (e : Ending) (w' : World) : Prop :=
  ∃ r sg lv, e = .returned (.tuple #[.pointer (some ⟨r, 0, none⟩), .nilIface]) ∧ Blk w' r [.slice (some ⟨D, 0, none⟩) N cap, .int .i64 (8 * N : Nat), .string s, sg, .string lv, .int .i64 0, .int .i64 0, .nilIface, .int .i64 (-1), .int .i64 (-1), .int .i64 1] ∧ SegsOK w.heap.size w' sg ∧ QZ.Mod (fun _ => False) w w'

theorem mode4 (cs : List Nat) (m : Nat) (hm : modeOf cs = m) : (m = 1 → ∀ c ∈ cs, 48 ≤ c ∧ c ≤ 57) ∧ (m = 2 → ∀ c ∈ cs, alnOf c ≠ 99) := by
  refine ⟨fun h c hc => ?_, fun h c hc e => ?_⟩
  · have := mode_1 cs (hm.trans h) c hc
    unfold isDig at this
    simpa using this
  · have := mode_2 cs (hm.trans h) c hc
    rw [e] at this; simp at this

theorem encM1 (cs : List Nat) : encM 1 cs = encN cs := rfl
theorem encM2 (cs : List Nat) : encM 2 cs = encA cs := rfl
theorem encM4 (cs : List Nat) : encM 4 cs = encB cs := rfl
theorem split0 (T : List Bool) (h4 : 4 ≤ T.length) (hT : ∀ j, j < 4 → j < T.length → T[j]? = some false) : T = beBits 0 4 ++ T.drop 4 := by
  match T, h4, hT with
  | a :: b :: c :: d :: T, _, hT =>
    have h0 := hT 0 (by omega) (by simp)
    have h1 := hT 1 (by omega) (by simp)
    have h2 := hT 2 (by omega) (by simp)
    have h3 := hT 3 (by omega) (by simp)
    simp at h0 h1 h2 h3
    subst h0; subst h1; subst h2; subst h3
    rfl
  | [], h, _ => simp at h
  | [_], h, _ => simp at h
  | [_, _], h, _ => simp at h
  | [_, _, _], h, _ => simp at h
set_option maxRecDepth 20000 in
set_option maxHeartbeats 3200000 in
theorem decodeStream_c (w : World) (s : ByteArray) (D N cap pv v l m : Nat) (ys : List Nat) (T : List Bool) (x3 : Value) (hm : modeOf (chs s) = m) (hs1 : 1 ≤ s.size) (hs60 : s.size ≤ 60)
    (hD : ∀ j, j < N → w.cell? ⟨D, j, none⟩ = some (.int .u8 (nth ys j : Nat))) (hDl : D < w.heap.size) (hN : N ≤ 1000) (hys : ∀ x ∈ ys, x < 256) (hL : Left ys N 0 (beBits m 4 ++ (beBits (chs s).length (ccB m) ++ (encM m (chs s) ++ T)))) (hT : ∀ j, j < 4 → j < T.length → T[j]? = some false)
    (hv : v < 8) (hpv : w.cell? ⟨pv, 0, none⟩ = some (.int .i64 v)) (hl : l < 4) :
    Calls Tryz.prog 189 #[.slice (some ⟨D, 0, none⟩) N cap, .pointer (some ⟨pv, 0, none⟩), .int .i64 l, x3] w (Decoded w s D N cap) := by
  obtain ⟨cs, hcs⟩ : ∃ cs, chs s = cs := ⟨_, rfl⟩
  have hlen : cs.length = s.size := by rw [← hcs]; exact chs_len s
  rw [hcs] at hL hm
  have hb256 : ∀ x ∈ cs, x < 256 := fun x hx => by
    rw [← hcs] at hx
    obtain ⟨u, _, rfl⟩ := List.mem_map.1 hx
    exact UInt8.toNat_lt u
  obtain ⟨hnum, haln0⟩ := mode4 cs m hm
  have haln : m = 2 → ∀ c ∈ cs, c < 256 ∧ alnOf c ≠ 99 := fun h c hc => ⟨hb256 c hc, haln0 h c hc⟩
  have hmd := mode_md cs
  rw [hm] at hmd
  have hmd3 : (m = 1 ∧ ∀ c ∈ cs, 48 ≤ c ∧ c ≤ 57) ∨ (m = 2 ∧ ∀ c ∈ cs, c < 256 ∧ alnOf c ≠ 99) ∨ m = 4 := by
    obtain h | h | h := hmd
    · exact .inl ⟨h, hnum h⟩
    · exact .inr (.inl ⟨h, haln h⟩)
    · exact .inr (.inr h)
  clear hnum haln haln0 hmd
  have hcs1 : 1 ≤ cs.length := by omega
  have hcw1 : cs.length < 2 ^ 10 := Nat.lt_of_le_of_lt (by omega : cs.length ≤ 60) (by decide)
  have hcw2 : cs.length < 2 ^ 9 := Nat.lt_of_le_of_lt (by omega : cs.length ≤ 60) (by decide)
  have hcw4 : cs.length < 2 ^ 8 := Nat.lt_of_le_of_lt (by omega : cs.length ≤ 60) (by decide)
  have hpl : pv < w.heap.size := cell_lt hpv
  have hmk1 := fun w => make_run (P := Tryz.prog) Tryz.underlying32 i32 rfl (0 : Int) (50 : Int) 0 50 rfl rfl (by decide) (by decide) (by decide) w
  have hmk2 := fun w => make_run (P := Tryz.prog) Tryz.underlying33 i32' rfl (0 : Int) (1 : Int) 0 1 rfl rfl (by decide) (by decide) (by decide) w
  have hcl : cs.length ≤ 60 := by omega
  have hcl2 : cs.length ≤ 1000 := by omega
  have Hlen := Lib.hid hlen
  clear hlen
  have HD := Lib.hid hD
  have HL := Lib.hid hL
  have Hcs := Lib.hid hcs
  have HT := Lib.hid hT
  have Hmd3 := Lib.hid hmd3
  clear hD hL hcs hT hmd3
  go_enter Tryz.func189, Tryz.ntmps189
  go_wp2_with fail
  refine (newSrc_c w D N cap ys HD.out hDl (by omega)).mono ?_
  rintro e w1 ⟨rfl, hsr, hm1⟩
  have mk1 := hmk1 w1
  have mk2 := hmk2 (w1.alloc (zrow 5 (.int .u8 0) 50))
  clear hmk1 hmk2
  have hql := hsr.head.lt
  have hsz1 := hm1.size
  obtain ⟨q, hq0⟩ : ∃ q, w.heap.size = q := ⟨_, rfl⟩
  rw [hq0] at hsr hql hsz1 ⊢
  have hO1 : Own ((w1.alloc (zrow 5 (.int .u8 0) 50)).alloc (zrow 32 (.slice none 0 0) 1)) w1.heap.size 5 (.slice (some ⟨w1.heap.size, 0, none⟩) 0 50) [] := (Own.of_blk w1 w1.heap.size 5 50 (List.replicate 50 (.int .u8 0)) (Nat.le_refl _) (by decide) (by rw [List.length_replicate])).alloc (zrow 32 (.slice none 0 0) 1)
  have hO2 : Own ((w1.alloc (zrow 5 (.int .u8 0) 50)).alloc (zrow 32 (.slice none 0 0) 1)) w1.heap.size 32 (.slice (some ⟨(w1.alloc (zrow 5 (.int .u8 0) 50)).heap.size, 0, none⟩) 0 1) [] := Own.of_blk (w1.alloc (zrow 5 (.int .u8 0) 50)) w1.heap.size 32 1 (List.replicate 1 (.slice none 0 0)) (by rw [World.size_alloc]; omega) (by decide) (by rw [List.length_replicate])
  have hmA := ((QZ.Mod.refl (fun _ => False) w1).alloc (zrow 5 (.int .u8 0) 50)).alloc (zrow 32 (.slice none 0 0) 1)
  have hRA : Rd w1 q D N cap ys (beBits m 4 ++ (beBits cs.length (ccB m) ++ (encM m cs ++ T))) := ⟨0, 0, hsr, HL.out⟩
  have hRB := hRA.mod hmA (fun f => f) (fun f => f)
  have hsA : w1.heap.size ≤ ((w1.alloc (zrow 5 (.int .u8 0) 50)).alloc (zrow 32 (.slice none 0 0) 1)).heap.size := hmA.size
  have HO1 := Lib.hid hO1
  have HO2 := Lib.hid hO2
  have HmA := Lib.hid hmA
  have HRB := Lib.hid hRB
  have Hm1 := Lib.hid hm1
  clear hO1 hO2 hmA hRB hm1
  clear hRA hsr
  go_wp2_with fail
  clear mk1 mk2
  generalize hwA : (w1.alloc (zrow 5 (.int .u8 0) 50)).alloc (zrow 32 (.slice none 0 0) 1) = wA at *
  rw [show (w1.alloc (zrow 5 (.int .u8 0) 50)).heap.size = w1.heap.size + 1 from World.size_alloc _ _] at HO2
  clear hwA
  obtain ⟨base, hbase⟩ : ∃ base, w1.heap.size = base := ⟨_, rfl⟩
  rw [hbase] at HO1 HO2 hql hsA ⊢
  have hq : q < base := hql
  have hDb : D < base := by omega
  have hwb : w.heap.size ≤ base := by omega
  have hmw : QZ.Mod (fun _ => False) w wA := Hm1.out.trans HmA.out
  have hpvA : wA.cell? ⟨pv, 0, none⟩ = some (.int .i64 v) := cell_mod hmw (fun f => f) hpv
  have Hpv := Lib.hid hpvA
  have Hmw := Lib.hid hmw
  have hpl2 : pv < q := by omega
  clear Hm1 HmA hmw hpvA hpv
  go_loopg [11, 12, 13, 14, 16, 17, 18, 19] 2 (fun k r sg x13 x14 x16 x17 x18 x19 wr => x13 = .int .i64 (-1) ∧ x14 = .int .i64 (-1) ∧ x16 = .pointer none ∧ x17 = .bool false ∧ x18 = .bool false ∧ x19 = .bool false ∧ DecPh k wA base q D N cap ys m cs T r sg wr)
  case atStart => exact ⟨rfl, rfl, rfl, rfl, rfl, rfl, .inl ⟨rfl, HO1.out, HO2.out, HRB.out, QZ.Mod.refl _ _⟩⟩
  case round =>
    obtain ⟨rfl, rfl, rfl, rfl, rfl, rfl, hrel⟩ := hrel
    rcases hrel with ⟨rfl, ho, hs, hR, hM⟩ | ⟨rfl, ho, hs, hR, hM⟩
    · have hD := hDb
      have hbw : base ≤ wr.heap.size := Nat.le_trans hsA hM.size
      obtain ⟨rfl, hcN⟩ | ⟨rfl, hcN⟩ | rfl := Hmd3.out
      · have hRm : Rd wr q D N cap ys (beBits 1 4 ++ (beBits cs.length 10 ++ (encM 1 cs ++ T))) := hR
        have hLen : ∃ AL, (beBits 1 4 ++ (beBits cs.length 10 ++ (encM 1 cs ++ T))).length = AL ∧ 4 ≤ AL := ⟨_, rfl, by rw [List.length_append, beBits_length]; omega⟩
        obtain ⟨AL, hAL, hAL4⟩ := hLen
        have tA : decide ((AL : Int) < 4) = false := by simp <;> omega
        have HRm := Lib.hid hRm
        have HAL := Lib.hid hAL
        have Ho := Lib.hid ho
        have Hs := Lib.hid hs
        have HM := Lib.hid hM
        clear hRm hAL ho hs hM
        clear hR
        go_wp2_with fail
        refine (rdAvail_c wr q D N cap ys _ HRm.out).mono ?_
        rintro e w2 ⟨rfl, kk, rfl⟩
        rw [HAL.out]
        have hR2 := HRm.out.mod (mod_drewN (fun _ => False) wr kk) (fun f => f) (fun f => f)
        have ho2 := Ho.out.mod (mod_drewN (fun _ => False) wr kk) (fun _ _ f => f)
        have hs2 := Hs.out.mod (mod_drewN (fun _ => False) wr kk) (fun _ _ f => f)
        have hM2 := HM.out.trans (mod_drewN (fun j => j = q ∨ base ≤ j) wr kk)
        generalize wr.drewN kk = w2 at *
        have HR2 := Lib.hid hR2
        have Ho2 := Lib.hid ho2
        have Hs2 := Lib.hid hs2
        have HM2 := Lib.hid hM2
        clear hR2 ho2 hs2 hM2
        go_wp2_with fail
        refine (rd_c w2 q D N cap 4 1 ys _ HR2.out hys (by omega) (by decide)).mono ?_
        rintro e w3 ⟨rfl, hR3, hm3⟩
        have ho3 := Ho2.out.mod hm3 (fun k hk e => by have := Ho2.out.block k hk; omega)
        have hs3 := Hs2.out.mod hm3 (fun k hk e => by have := Hs2.out.block k hk; omega)
        have hM3 := HM2.out.trans (hm3.mono (fun k _ e => .inl e))
        clear hm3
        have HR3 := Lib.hid hR3
        have Ho3 := Lib.hid ho3
        have Hs3 := Lib.hid hs3
        have HM3 := Lib.hid hM3
        clear hR3 ho3 hs3 hM3
        go_wp2_with fail
        refine (modeBits_c w3 1 (by omega)).mono ?_
        rintro e w4 ⟨rfl, rfl⟩
        have hpv3 : w3.cell? ⟨pv, 0, none⟩ = some (.int .i64 v) := cell_mod HM3.out (by omega) Hpv.out
        go_wp2_with fail
        refine (ccBits_c w3 1 v pv (by unfold Md; omega) hv hpv3).mono ?_
        rintro e w4 ⟨rfl, hm4⟩
        rw [show ccB 1 = 10 from rfl]
        have hR4 := HR3.out.mod hm4 (fun f => f) (fun f => f)
        have ho4 := Ho3.out.mod hm4 (fun _ _ f => f)
        have hs4 := Hs3.out.mod hm4 (fun _ _ f => f)
        have hM4 := HM3.out.trans hm4.none
        clear hm4 hpv3
        have HR4 := Lib.hid hR4
        have Ho4 := Lib.hid ho4
        have Hs4 := Lib.hid hs4
        have HM4 := Lib.hid hM4
        clear hR4 ho4 hs4 hM4
        go_wp2_with fail
        refine (rd_c w4 q D N cap 10 cs.length ys _ HR4.out hys (by omega) hcw1).mono ?_
        rintro e w5 ⟨rfl, hR5, hm5⟩
        have ho5 := Ho4.out.mod hm5 (fun k hk e => by have := Ho4.out.block k hk; omega)
        have hs5 := Hs4.out.mod hm5 (fun k hk e => by have := Hs4.out.block k hk; omega)
        have hM5 := HM4.out.trans (hm5.mono (fun k _ e => .inl e))
        have hb5 : base ≤ w5.heap.size := Nat.le_trans hsA hM5.size
        clear hm5
        have HR5 := Lib.hid hR5
        have Ho5 := Lib.hid ho5
        have Hs5 := Lib.hid hs5
        have HM5 := Lib.hid hM5
        clear hR5 ho5 hs5 hM5
        go_wp2_with fail
        have hR5' : Rd w5 q D N cap ys (encN cs ++ T) := by have h := HR5.out; rw [encM1] at h; exact h
        have hseg := numSeg_c w5 base _ q D N cap ys [] cs T hR5' hys hcN Ho5.out hq hD hb5 hcl2 (Nat.zero_le _)
        clear hR5'
        refine hseg.mono ?_
        rintro e w6 ⟨v6, rfl, ho6, hR6, hm6⟩
        rw [List.nil_append] at ho6
        have hs6 := Hs5.out.shape_empty hm6 (.inl trivial)
        have hM6 := HM5.out.trans hm6
        have Ho6 := Lib.hid ho6
        have HR6 := Lib.hid hR6
        have Hs6 := Lib.hid hs6
        have HM6 := Lib.hid hM6
        clear ho6 hR6 hs6 hM6
        go_wp2_with fail
        go_roundg 1
        case measure => omega
        case rel => exact ⟨rfl, rfl, rfl, rfl, rfl, rfl, .inr ⟨rfl, Ho6.out, Hs6.out, HR6.out, HM6.out⟩⟩
      · have hRm : Rd wr q D N cap ys (beBits 2 4 ++ (beBits cs.length 9 ++ (encM 2 cs ++ T))) := hR
        have hLen : ∃ AL, (beBits 2 4 ++ (beBits cs.length 9 ++ (encM 2 cs ++ T))).length = AL ∧ 4 ≤ AL := ⟨_, rfl, by rw [List.length_append, beBits_length]; omega⟩
        obtain ⟨AL, hAL, hAL4⟩ := hLen
        have tA : decide ((AL : Int) < 4) = false := by simp <;> omega
        have HRm := Lib.hid hRm
        have HAL := Lib.hid hAL
        have Ho := Lib.hid ho
        have Hs := Lib.hid hs
        have HM := Lib.hid hM
        clear hRm hAL ho hs hM
        clear hR
        go_wp2_with fail
        refine (rdAvail_c wr q D N cap ys _ HRm.out).mono ?_
        rintro e w2 ⟨rfl, kk, rfl⟩
        rw [HAL.out]
        have hR2 := HRm.out.mod (mod_drewN (fun _ => False) wr kk) (fun f => f) (fun f => f)
        have ho2 := Ho.out.mod (mod_drewN (fun _ => False) wr kk) (fun _ _ f => f)
        have hs2 := Hs.out.mod (mod_drewN (fun _ => False) wr kk) (fun _ _ f => f)
        have hM2 := HM.out.trans (mod_drewN (fun j => j = q ∨ base ≤ j) wr kk)
        generalize wr.drewN kk = w2 at *
        have HR2 := Lib.hid hR2
        have Ho2 := Lib.hid ho2
        have Hs2 := Lib.hid hs2
        have HM2 := Lib.hid hM2
        clear hR2 ho2 hs2 hM2
        go_wp2_with fail
        refine (rd_c w2 q D N cap 4 2 ys _ HR2.out hys (by omega) (by decide)).mono ?_
        rintro e w3 ⟨rfl, hR3, hm3⟩
        have ho3 := Ho2.out.mod hm3 (fun k hk e => by have := Ho2.out.block k hk; omega)
        have hs3 := Hs2.out.mod hm3 (fun k hk e => by have := Hs2.out.block k hk; omega)
        have hM3 := HM2.out.trans (hm3.mono (fun k _ e => .inl e))
        clear hm3
        have HR3 := Lib.hid hR3
        have Ho3 := Lib.hid ho3
        have Hs3 := Lib.hid hs3
        have HM3 := Lib.hid hM3
        clear hR3 ho3 hs3 hM3
        go_wp2_with fail
        refine (modeBits_c w3 2 (by omega)).mono ?_
        rintro e w4 ⟨rfl, rfl⟩
        have hpv3 : w3.cell? ⟨pv, 0, none⟩ = some (.int .i64 v) := cell_mod HM3.out (by omega) Hpv.out
        go_wp2_with fail
        refine (ccBits_c w3 2 v pv (by unfold Md; omega) hv hpv3).mono ?_
        rintro e w4 ⟨rfl, hm4⟩
        rw [show ccB 2 = 9 from rfl]
        have hR4 := HR3.out.mod hm4 (fun f => f) (fun f => f)
        have ho4 := Ho3.out.mod hm4 (fun _ _ f => f)
        have hs4 := Hs3.out.mod hm4 (fun _ _ f => f)
        have hM4 := HM3.out.trans hm4.none
        clear hm4 hpv3
        have HR4 := Lib.hid hR4
        have Ho4 := Lib.hid ho4
        have Hs4 := Lib.hid hs4
        have HM4 := Lib.hid hM4
        clear hR4 ho4 hs4 hM4
        go_wp2_with fail
        refine (rd_c w4 q D N cap 9 cs.length ys _ HR4.out hys (by omega) hcw2).mono ?_
        rintro e w5 ⟨rfl, hR5, hm5⟩
        have ho5 := Ho4.out.mod hm5 (fun k hk e => by have := Ho4.out.block k hk; omega)
        have hs5 := Hs4.out.mod hm5 (fun k hk e => by have := Hs4.out.block k hk; omega)
        have hM5 := HM4.out.trans (hm5.mono (fun k _ e => .inl e))
        have hb5 : base ≤ w5.heap.size := Nat.le_trans hsA hM5.size
        clear hm5
        have HR5 := Lib.hid hR5
        have Ho5 := Lib.hid ho5
        have Hs5 := Lib.hid hs5
        have HM5 := Lib.hid hM5
        clear hR5 ho5 hs5 hM5
        go_wp2_with fail
        have hR5' : Rd w5 q D N cap ys (encA cs ++ T) := by have h := HR5.out; rw [encM2] at h; exact h
        have hseg := alnSeg_c w5 base _ q D N cap ys [] cs T hR5' hys hcN Ho5.out hq hD hb5 hcl2 (Nat.zero_le _)
        clear hR5'
        refine hseg.mono ?_
        rintro e w6 ⟨v6, rfl, ho6, hR6, hm6⟩
        rw [List.nil_append] at ho6
        have hs6 := Hs5.out.shape_empty hm6 (.inl trivial)
        have hM6 := HM5.out.trans hm6
        have Ho6 := Lib.hid ho6
        have HR6 := Lib.hid hR6
        have Hs6 := Lib.hid hs6
        have HM6 := Lib.hid hM6
        clear ho6 hR6 hs6 hM6
        go_wp2_with fail
        go_roundg 1
        case measure => omega
        case rel => exact ⟨rfl, rfl, rfl, rfl, rfl, rfl, .inr ⟨rfl, Ho6.out, Hs6.out, HR6.out, HM6.out⟩⟩
      · have hRm : Rd wr q D N cap ys (beBits 4 4 ++ (beBits cs.length 8 ++ (encM 4 cs ++ T))) := hR
        have hLen : ∃ AL, (beBits 4 4 ++ (beBits cs.length 8 ++ (encM 4 cs ++ T))).length = AL ∧ 4 ≤ AL := ⟨_, rfl, by rw [List.length_append, beBits_length]; omega⟩
        obtain ⟨AL, hAL, hAL4⟩ := hLen
        have tA : decide ((AL : Int) < 4) = false := by simp <;> omega
        have HRm := Lib.hid hRm
        have HAL := Lib.hid hAL
        have Ho := Lib.hid ho
        have Hs := Lib.hid hs
        have HM := Lib.hid hM
        clear hRm hAL ho hs hM
        clear hR
        go_wp2_with fail
        refine (rdAvail_c wr q D N cap ys _ HRm.out).mono ?_
        rintro e w2 ⟨rfl, kk, rfl⟩
        rw [HAL.out]
        have hR2 := HRm.out.mod (mod_drewN (fun _ => False) wr kk) (fun f => f) (fun f => f)
        have ho2 := Ho.out.mod (mod_drewN (fun _ => False) wr kk) (fun _ _ f => f)
        have hs2 := Hs.out.mod (mod_drewN (fun _ => False) wr kk) (fun _ _ f => f)
        have hM2 := HM.out.trans (mod_drewN (fun j => j = q ∨ base ≤ j) wr kk)
        generalize wr.drewN kk = w2 at *
        have HR2 := Lib.hid hR2
        have Ho2 := Lib.hid ho2
        have Hs2 := Lib.hid hs2
        have HM2 := Lib.hid hM2
        clear hR2 ho2 hs2 hM2
        go_wp2_with fail
        refine (rd_c w2 q D N cap 4 4 ys _ HR2.out hys (by omega) (by decide)).mono ?_
        rintro e w3 ⟨rfl, hR3, hm3⟩
        have ho3 := Ho2.out.mod hm3 (fun k hk e => by have := Ho2.out.block k hk; omega)
        have hs3 := Hs2.out.mod hm3 (fun k hk e => by have := Hs2.out.block k hk; omega)
        have hM3 := HM2.out.trans (hm3.mono (fun k _ e => .inl e))
        clear hm3
        have HR3 := Lib.hid hR3
        have Ho3 := Lib.hid ho3
        have Hs3 := Lib.hid hs3
        have HM3 := Lib.hid hM3
        clear hR3 ho3 hs3 hM3
        go_wp2_with fail
        refine (modeBits_c w3 4 (by omega)).mono ?_
        rintro e w4 ⟨rfl, rfl⟩
        have hpv3 : w3.cell? ⟨pv, 0, none⟩ = some (.int .i64 v) := cell_mod HM3.out (by omega) Hpv.out
        go_wp2_with fail
        refine (ccBits_c w3 4 v pv (by unfold Md; omega) hv hpv3).mono ?_
        rintro e w4 ⟨rfl, hm4⟩
        rw [show ccB 4 = 8 from rfl]
        have hR4 := HR3.out.mod hm4 (fun f => f) (fun f => f)
        have ho4 := Ho3.out.mod hm4 (fun _ _ f => f)
        have hs4 := Hs3.out.mod hm4 (fun _ _ f => f)
        have hM4 := HM3.out.trans hm4.none
        clear hm4 hpv3
        have HR4 := Lib.hid hR4
        have Ho4 := Lib.hid ho4
        have Hs4 := Lib.hid hs4
        have HM4 := Lib.hid hM4
        clear hR4 ho4 hs4 hM4
        go_wp2_with fail
        refine (rd_c w4 q D N cap 8 cs.length ys _ HR4.out hys (by omega) hcw4).mono ?_
        rintro e w5 ⟨rfl, hR5, hm5⟩
        have ho5 := Ho4.out.mod hm5 (fun k hk e => by have := Ho4.out.block k hk; omega)
        have hs5 := Hs4.out.mod hm5 (fun k hk e => by have := Hs4.out.block k hk; omega)
        have hM5 := HM4.out.trans (hm5.mono (fun k _ e => .inl e))
        have hb5 : base ≤ w5.heap.size := Nat.le_trans hsA hM5.size
        clear hm5
        have HR5 := Lib.hid hR5
        have Ho5 := Lib.hid ho5
        have Hs5 := Lib.hid hs5
        have HM5 := Lib.hid hM5
        clear hR5 ho5 hs5 hM5
        go_wp2_with fail
        refine (byteSeg_c w5 base _ _ q D N cap ys [] cs T (.pointer none) _ HR5.out hys hb256 Ho5.out Hs5.out hq hD hb5 hcs1 hcl2 (Nat.zero_le _)).mono ?_
        rintro e w6 ⟨v6, S, sc, X, rfl, ho6, hS6, hX6, hR6, hm6, hSb6, hXb6⟩
        rw [List.nil_append] at ho6
        have hs6 : SegsOK base w6 (.slice (some ⟨S, 0, none⟩) 1 sc) := .inr ⟨S, sc, X, cs.length, rfl, hS6, fun j hj => ⟨_, hX6 j hj⟩, hcs1, by omega, hSb6, hXb6⟩
        have hM6 := HM5.out.trans hm6
        have Ho6 := Lib.hid ho6
        have HR6 := Lib.hid hR6
        have Hs6 := Lib.hid hs6
        have HM6 := Lib.hid hM6
        clear ho6 hR6 hs6 hM6
        clear hS6 hX6 hSb6 hXb6
        go_wp2_with fail
        go_roundg 1
        case measure => omega
        case rel => exact ⟨rfl, rfl, rfl, rfl, rfl, rfl, .inr ⟨rfl, Ho6.out, Hs6.out, HR6.out, HM6.out⟩⟩
    · have hMw := Hmw.out.new hM (fun k hk => by obtain rfl | hk := hk <;> omega)
      obtain ⟨g, rc, rfl, hgb, hgl, hgc, hgcell⟩ := ho.full (by rw [cellsN_length]; exact hcs1)
      rw [cellsN_length, Hlen.out] at hgc ⊢
      have hby : Lib.Bytes wr g 0 s := fun i hi => by
        rw [Nat.zero_add]
        refine hgcell i _ ?_
        rw [cellsN_get _ _ _ (by rw [Hlen.out]; exact hi)]
        have h1 := chs_get s i hi
        rw [Hcs.out] at h1
        unfold nth
        rw [List.getD_eq_getElem?_getD, h1]; rfl
      clear ho hgcell hM
      by_cases hT4 : T.length < 4
      · obtain ⟨AL, hAL⟩ : ∃ AL, T.length = AL := ⟨_, rfl⟩
        rw [hAL] at hT4
        have tA : decide ((AL : Int) < 4) = true := by simp <;> omega
        have HR := Lib.hid hR
        have Hs := Lib.hid hs
        have HMw := Lib.hid hMw
        have Hby := Lib.hid hby
        have HAL := Lib.hid hAL
        clear hR hs hMw hby hAL
        go_wp2_with fail
        refine (rdAvail_c wr q D N cap ys _ HR.out).mono ?_
        rintro e w2 ⟨rfl, kk, rfl⟩
        rw [HAL.out]
        have hs2 := Hs.out.old (mod_drewN (fun _ => False) wr kk) (fun _ _ _ f => f)
        have hM2 := HMw.out.trans (mod_drewN (fun _ => False) wr kk)
        have hby2 := Hby.out.drewN kk
        generalize wr.drewN kk = w2 at *
        have hs3 := hs2
        obtain ⟨sa, sc, rfl⟩ | ⟨S, sc, X, c, rfl, -, -, -, -, -, -⟩ := hs2
        · have Hs3 := Lib.hid hs3
          have HM2 := Lib.hid hM2
          clear hs3 hM2
          have hcv := Lib.run_convert_whole (P := Tryz.prog) w2.drew 32 5 9 (by kernel_rfl : Tryz.prog.underlying 32 = some (.slice 5)) (by kernel_rfl : Tryz.prog.underlying 5 = some (.int .u8)) (by kernel_rfl : Tryz.prog.underlying 9 = some .string) g 0 s hby2 rc
          first | clear HR Hs HMw Hby | skip
          clear hby2
          go_wp2_with fail
          go_region_with (first | (go_at_call 229; refine (lvlStr_c _ l hl).mono ?_; rintro e w5 ⟨⟨lv, rfl⟩, rfl⟩) | (go_at_call 228; refine (newResult_c _ (some ⟨D, 0, none⟩) N cap s lv (.slice none 0 0) (-1) (-1) 1 (by omega) ⟨_, _, _, rfl⟩).mono ?_; rintro e w6 ⟨rfl, hb6, hm6⟩))
          all_goals
            go_wp2_with fail
            go_ret2
            have hmd := QZ.Mod.drew (QZ.Mod.refl (fun _ => False) w2)
            exact ⟨_, .slice none 0 0, lv, rfl, hb6, .inl ⟨none, 0, rfl⟩, (HM2.out.trans hmd).trans hm6⟩
        · have Hs3 := Lib.hid hs3
          have HM2 := Lib.hid hM2
          clear hs3 hM2
          have hcv := Lib.run_convert_whole (P := Tryz.prog) w2.drew 32 5 9 (by kernel_rfl : Tryz.prog.underlying 32 = some (.slice 5)) (by kernel_rfl : Tryz.prog.underlying 5 = some (.int .u8)) (by kernel_rfl : Tryz.prog.underlying 9 = some .string) g 0 s hby2 rc
          first | clear HR Hs HMw Hby | skip
          clear hby2
          go_wp2_with fail
          go_region_with (first | (go_at_call 229; refine (lvlStr_c _ l hl).mono ?_; rintro e w5 ⟨⟨lv, rfl⟩, rfl⟩) | (go_at_call 228; refine (newResult_c _ (some ⟨D, 0, none⟩) N cap s lv (.slice (some ⟨S, 0, none⟩) 1 sc) (-1) (-1) 1 (by omega) ⟨_, _, _, rfl⟩).mono ?_; rintro e w6 ⟨rfl, hb6, hm6⟩))
          all_goals
            go_wp2_with fail
            go_ret2
            have hmd := QZ.Mod.drew (QZ.Mod.refl (fun _ => False) w2)
            exact ⟨_, .slice (some ⟨S, 0, none⟩) 1 sc, lv, rfl, hb6, ((Hs3.out.old hmd (fun _ _ _ f => f)).old hm6 (fun _ _ _ f => f)).low hwb, (HM2.out.trans hmd).trans hm6⟩
      · obtain ⟨AL, hAL⟩ : ∃ AL, T.length = AL := ⟨_, rfl⟩
        rw [hAL] at hT4
        have tA : decide ((AL : Int) < 4) = false := by simp <;> omega
        have hTT := split0 T (by omega) HT.out
        have HR := Lib.hid hR
        have Hs := Lib.hid hs
        have HMw := Lib.hid hMw
        have Hby := Lib.hid hby
        have HAL := Lib.hid hAL
        have HTT := Lib.hid hTT
        clear hR hs hMw hby hAL hTT
        go_wp2_with fail
        refine (rdAvail_c wr q D N cap ys _ HR.out).mono ?_
        rintro e w2 ⟨rfl, kk, rfl⟩
        rw [HAL.out]
        have hR2 := HR.out.mod (mod_drewN (fun _ => False) wr kk) (fun f => f) (fun f => f)
        rw [HTT.out] at hR2
        have hs2 := Hs.out.old (mod_drewN (fun _ => False) wr kk) (fun _ _ _ f => f)
        have hM2 := HMw.out.trans (mod_drewN (fun _ => False) wr kk)
        have hby2 := Hby.out.drewN kk
        generalize wr.drewN kk = w2 at *
        have HR2 := Lib.hid hR2
        have Hs2 := Lib.hid hs2
        have HM2 := Lib.hid hM2
        have Hby2 := Lib.hid hby2
        clear hR2 hs2 hM2 hby2
        clear HR Hs HMw Hby
        go_wp2_with fail
        refine (rd_c w2 q D N cap 4 0 ys _ HR2.out hys (by omega) (by decide)).mono ?_
        rintro e w3 ⟨rfl, -, hm3⟩
        have hqw : w.heap.size ≤ q := by omega
        have hs3 := Hs2.out.old hm3 (fun k h _ e => by omega)
        have hM3 := HM2.out.new hm3 (fun k e => by omega)
        have hby3 : Lib.Bytes w3 g 0 s := fun i hi => cell_mod hm3 (by omega) (Hby2.out i hi)
        clear hm3
        have Hs3 := Lib.hid hs3
        have HM3 := Lib.hid hM3
        have Hby3 := Lib.hid hby3
        clear hs3 hM3 hby3
        go_wp2_with fail
        refine (modeBits_c w3 0 (by omega)).mono ?_
        rintro e w4 ⟨rfl, rfl⟩
        have hs2 := Hs3.out
        have hM2 := HM3.out
        have hby2 := Hby3.out
        clear Hs3 HM3 Hby3 Hs2 HM2 Hby2 HR2
        generalize w3 = w2 at *
        have hs3 := hs2
        obtain ⟨sa, sc, rfl⟩ | ⟨S, sc, X, c, rfl, -, -, -, -, -, -⟩ := hs2
        · have Hs3 := Lib.hid hs3
          have HM2 := Lib.hid hM2
          clear hs3 hM2
          have hcv := Lib.run_convert_whole (P := Tryz.prog) w2.drew 32 5 9 (by kernel_rfl : Tryz.prog.underlying 32 = some (.slice 5)) (by kernel_rfl : Tryz.prog.underlying 5 = some (.int .u8)) (by kernel_rfl : Tryz.prog.underlying 9 = some .string) g 0 s hby2 rc
          first | clear HR Hs HMw Hby | skip
          clear hby2
          go_wp2_with fail
          go_region_with (first | (go_at_call 229; refine (lvlStr_c _ l hl).mono ?_; rintro e w5 ⟨⟨lv, rfl⟩, rfl⟩) | (go_at_call 228; refine (newResult_c _ (some ⟨D, 0, none⟩) N cap s lv (.slice none 0 0) (-1) (-1) 1 (by omega) ⟨_, _, _, rfl⟩).mono ?_; rintro e w6 ⟨rfl, hb6, hm6⟩))
          all_goals
            go_wp2_with fail
            go_ret2
            have hmd := QZ.Mod.drew (QZ.Mod.refl (fun _ => False) w2)
            exact ⟨_, .slice none 0 0, lv, rfl, hb6, .inl ⟨none, 0, rfl⟩, (HM2.out.trans hmd).trans hm6⟩
        · have Hs3 := Lib.hid hs3
          have HM2 := Lib.hid hM2
          clear hs3 hM2
          have hcv := Lib.run_convert_whole (P := Tryz.prog) w2.drew 32 5 9 (by kernel_rfl : Tryz.prog.underlying 32 = some (.slice 5)) (by kernel_rfl : Tryz.prog.underlying 5 = some (.int .u8)) (by kernel_rfl : Tryz.prog.underlying 9 = some .string) g 0 s hby2 rc
          first | clear HR Hs HMw Hby | skip
          clear hby2
          go_wp2_with fail
          go_region_with (first | (go_at_call 229; refine (lvlStr_c _ l hl).mono ?_; rintro e w5 ⟨⟨lv, rfl⟩, rfl⟩) | (go_at_call 228; refine (newResult_c _ (some ⟨D, 0, none⟩) N cap s lv (.slice (some ⟨S, 0, none⟩) 1 sc) (-1) (-1) 1 (by omega) ⟨_, _, _, rfl⟩).mono ?_; rintro e w6 ⟨rfl, hb6, hm6⟩))
          all_goals
            go_wp2_with fail
            go_ret2
            have hmd := QZ.Mod.drew (QZ.Mod.refl (fun _ => False) w2)
            exact ⟨_, .slice (some ⟨S, 0, none⟩) 1 sc, lv, rfl, hb6, ((Hs3.out.old hmd (fun _ _ _ f => f)).old hm6 (fun _ _ _ f => f)).low hwb, (HM2.out.trans hmd).trans hm6⟩
end Go.Proofs.YtnpkihobbcglcaaGreatDoor
