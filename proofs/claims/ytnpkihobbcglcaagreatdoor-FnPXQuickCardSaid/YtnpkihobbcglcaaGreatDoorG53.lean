/- Part 53 of the proof of FnPXQuick (a QR code that is written for a text says this text in a picture): parts of the road. No condition. -/
import Derived.Test.YtnpkihobbcglcaaGreatDoorG24
import Derived.Test.YtnpkihobbcglcaaGreatDoorG42
import Derived.Test.YtnpkihobbcglcaaGreatDoorG43
import Derived.Test.YtnpkihobbcglcaaGreatDoorG45
import Derived.Test.YtnpkihobbcglcaaGreatDoorG52
/- A QR code that is written for a text says this text in a picture. -/
open Go Go.RowKit
namespace Go.Proofs.YtnpkihobbcglcaaGreatDoor
open Go.QZ

set_option maxRecDepth 20000 in
set_option maxHeartbeats 3200000 in
theorem fnPXQuick_c (w : World) (t : ByteArray) (kd lv sc a0 a1 a2 a3 L0 L2 : Nat) (hkd : kd < 256) (hlv : lv < 256) (hsc : sc < 256) (h0 : a0 < 256) (h1 : a1 < 256) (h2 : a2 < 256) (h3 : a3 < 256) (hL0 : L0 < 256) (hL2 : L2 < 256) :
    Calls Tryz.prog 3 #[.string t, .int .u8 kd, .int .u8 lv, .int .u8 sc, .agg #[.int .u8 a0, .int .u8 a1, .int .u8 a2, .int .u8 a3], .int .u8 L0, .int .u8 L2] w fun e w' => e = .returned (.bool true) ∧ QZ.Mod (fun _ => False) w w' := by
  have hm1 := (QZ.Mod.refl (fun _ => False) w).alloc (.cells #[.int .u8 a0, .int .u8 a1, .int .u8 a2, .int .u8 a3] 22)
  have hb1 := Blk.new w [.int .u8 a0, .int .u8 a1, .int .u8 a2, .int .u8 a3] 22
  have Hm1 := Lib.hid hm1
  have Hb1 := Lib.hid hb1
  clear hm1 hb1
  by_cases ht : t.size ≤ 2147483647
  · have t1 : decide ((t.size : Int) > 2147483647) = false := by simp <;> omega
    have t2 : decide ((2147483647 : Int) < (t.size : Int)) = false := by simp <;> omega
    go_enter Tryz.func3, Tryz.ntmps3
    go_wp2_with fail
    refine (qrAscii_c _ t kd hkd ht).mono ?_
    rintro e w2 ⟨s, rfl, hs1, hs60, hm2⟩
    obtain ⟨bx, hbx⟩ : ∃ bx, w.heap.size = bx := ⟨_, rfl⟩
    rw [hbx] at Hb1 ⊢
    have hM2 := Hm1.out.trans hm2
    have hb2 := Hb1.out.mod' hm2
    have HM2 := Lib.hid hM2
    have Hb2 := Lib.hid hb2
    clear hM2 hb2
    clear hm2 Hm1 Hb1 hbx
    obtain ⟨l, hl⟩ : ∃ l, lv % 4 = l := ⟨_, rfl⟩
    have hl4 : l < 4 := by omega
    go_wp2_with fail
    refine (qrLevel_c w2 lv hlv).mono ?_
    rw [hl]
    rintro e w3 ⟨rfl, rfl⟩
    clear hl
    go_wp2_with fail
    refine (qrEncode_c w2 s hs60 l hl4).mono ?_
    rintro e w3 ⟨v, k, hb, es, m, R, cap, rfl, hR, hy, hm3⟩
    have v8 := hy.v8
    have v1 := hy.v1
    obtain ⟨n, hn⟩ : ∃ n, 17 + 4 * v = n := ⟨_, rfl⟩
    have Hn := Lib.hid hn
    have hn45 : n ≤ 45 := by omega
    have hn1 : 1 ≤ n := by omega
    rw [hn] at hR ⊢
    have hmA := (QZ.Mod.refl (fun _ => False) w3).alloc (.cells #[.int .i64 v, .int .i64 k, .int .i64 l, .int .i64 m, .slice (some ⟨R, 0, none⟩) n cap] 26)
    have hbA := Blk.new w3 [.int .i64 v, .int .i64 k, .int .i64 l, .int .i64 m, .slice (some ⟨R, 0, none⟩) n cap] 26
    have hb3 := (Hb2.out.mod' hm3).mod' hmA
    have hR3 := hR.new hmA
    have hM3 := (HM2.out.trans hm3).trans hmA
    have x0 := hb3.cell 0
    have x1 := hb3.cell 1
    have x2 := hb3.cell 2
    have x3 := hb3.cell 3
    have y4 := hbA.cell 4
    have HR3 := Lib.hid hR3
    have HM3 := Lib.hid hM3
    have Hy := Lib.hid hy
    clear hR3 hM3 hy
    clear hm3 hmA hb3 hn hR hbA Hb2 HM2
    go_wp2_with fail
    refine (seen_c _ R n cap _ HR3.out hn1 hn45 sc a0 a1 a2 a3 L0 L2 h0 h1 h2 h3 hsc hL0 hL2).mono ?_
    rintro e w5 ⟨R2, cap2, rfl, hR5, hm5⟩
    have hM5 := HM3.out.trans hm5
    have hg : ∀ x y, x < n → y < n → modF l v k hb es x y = decide (qrF v l k (encB (symW l v hb es)) x y = 1) := fun x y _ _ => rfl
    have HR5 := Lib.hid hR5
    have HM5 := Lib.hid hM5
    have Hg := Lib.hid hg
    clear hR5 hM5 hg
    clear hm5 x0 x1 x2 x3 y4 HR3 HM3
    go_wp2_with fail
    refine (qrDecode_c w5 R2 n cap2 v l k (modF l v k hb es) s hb es HR5.out Hn.out.symm Hy.out Hg.out hl4 hs1 hs60).mono ?_
    rintro e w6 ⟨⟨A1, n1, c1, A2, n2, c2, lv', rfl⟩, hm6⟩
    have hM6 := HM5.out.trans hm6
    have hmE := hM6.alloc (.cells #[.string s, .slice A1 n1 c1, .slice A2 n2 c2, .string lv', .int .i64 0, .int .i64 (-1), .int .i64 (-1), .int .i64 1] 35)
    have HmE := Lib.hid hmE
    clear hmE
    clear hm6 hM6
    go_wp2_with fail
    go_ret
    exact ⟨rfl, HmE.out⟩
  · have t1 : decide ((t.size : Int) > 2147483647) = true := by simp <;> omega
    have t2 : decide ((2147483647 : Int) < (t.size : Int)) = true := by simp <;> omega
    go_enter Tryz.func3, Tryz.ntmps3
    go_wp2_with fail
    go_ret
    exact ⟨rfl, Hm1.out⟩
end Go.Proofs.YtnpkihobbcglcaaGreatDoor
