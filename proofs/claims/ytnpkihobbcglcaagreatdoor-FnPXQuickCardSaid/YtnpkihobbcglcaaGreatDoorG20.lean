/- Part 20 of the proof of FnPXQuick (a QR code that is written for a text says this text in a picture): parts of the road. No condition. -/
import Derived.Test.YtnpkihobbcglcaaGreatDoorG09
import Derived.Test.YtnpkihobbcglcaaGreatDoorG13
import Derived.Test.YtnpkihobbcglcaaGreatDoorG14
/- The decoder's picture of what is no data is built. -/
open Go Go.RowKit
namespace Go.Proofs.YtnpkihobbcglcaaGreatDoor
open Go.QZ

def alGo (mx x y : Nat) : Bool := (x == 0 && (y == 0 || y == mx - 1)) || (x == mx - 1 && y == 0)
def alS (al : List Nat) (f : Nat → Nat → Bool) (x y : Nat) : Nat → Nat → Bool := if alGo al.length x y = true then f else regF f (nth al y - 2) (nth al x - 2) 5 5
def alR (al : List Nat) (f : Nat → Nat → Bool) (x : Nat) : Nat → Nat → Nat → Bool
  | 0 => f
  | y + 1 => alS al (alR al f x y) x y
def alA (al : List Nat) (f : Nat → Nat → Bool) : Nat → Nat → Nat → Bool
  | 0 => f
  | x + 1 => alR al (alA al f x) x al.length
def fp0 (d : Nat) : Nat → Nat → Bool := regF (regF (regF (fun _ _ => false) 0 0 9 9) (d - 8) 0 8 9) 0 (d - 8) 9 8
def fp1 (v : Nat) : Nat → Nat → Bool := regF (regF (alA (alD v) (fp0 (17 + 4 * v)) (alD v).length) 6 9 1 (17 + 4 * v - 17)) 9 6 (17 + 4 * v - 17) 1
def fpW (v : Nat) : Nat → Nat → Bool := if 6 < v then regF (regF (fp1 v) (17 + 4 * v - 11) 0 3 6) 0 (17 + 4 * v - 11) 6 3 else fp1 v
theorem fpW_all : ∀ v, v < 8 → 1 ≤ v → ∀ x, x < 17 + 4 * v → ∀ y, y < 17 + 4 * v → fpW v x y = fpF v x y := by decide +kernel
theorem alD_few : ∀ v, v < 8 → 1 ≤ v → (alD v).length ≤ 3 ∧ ∀ a ∈ alD v, 6 ≤ a ∧ a + 3 ≤ 17 + 4 * v := by decide

theorem newSq_c (w : World) (d : Nat) (h1 : 1 ≤ d) (h2 : d ≤ 1000) : Calls Tryz.prog 244 #[.int .i64 d] w (NewBM w d d) := by
  go_enter Tryz.func244, Tryz.ntmps244
  go_wp2_with fail
  refine ((newBM_c w d d h1 h1 h2 h2)).mono ?_
  rintro e w1 ⟨p, B, rs, ws, rfl, hb, hp, hB, hm⟩
  have Hb := Lib.hid hb
  have Hp := Lib.hid hp
  have HB := Lib.hid hB
  have Hm := Lib.hid hm
  clear hb hp hB hm
  go_wp2_with fail
  go_ret2
  exact ⟨p, B, rs, ws, rfl, Hb.out, Hp.out, HB.out, Hm.out⟩

set_option maxRecDepth 20000 in
set_option maxHeartbeats 3200000 in
theorem buildFP_c (X : Nat → Prop) (w : World) (P v : Nat) (hV : Ver X w P v) (hv1 : 1 ≤ v) (hv : v < 8) :
    Calls Tryz.prog 213 #[.pointer (some ⟨P, 0, none⟩)] w (Parsed w (17 + 4 * v) (17 + 4 * v) (fpF v)) := by
  obtain ⟨d, hd⟩ : ∃ d, 17 + 4 * v = d := ⟨_, rfl⟩
  obtain ⟨d8, hd8⟩ : ∃ d8, d - 8 = d8 := ⟨_, rfl⟩
  obtain ⟨d17, hd17⟩ : ∃ d17, d - 17 = d17 := ⟨_, rfl⟩
  obtain ⟨d11, hd11⟩ : ∃ d11, d - 11 = d11 := ⟨_, rfl⟩
  have i8 : (d : Int) - 8 = (d8 : Int) := by omega
  have i17 : (d : Int) - 17 = (d17 : Int) := by omega
  have i11 : (d : Int) - 11 = (d11 : Int) := by omega
  obtain ⟨hal3, halb⟩ := alD_few v hv hv1
  have Hfin : Hid (∀ x y, x < d → y < d → fpW v x y = fpF v x y) := fun x y hx hy => fpW_all v hv hv1 x (by omega) y (by omega)
  have HfpE : Hid (fpW v = if 6 < v then regF (regF (fp1 v) d11 0 3 6) 0 d11 6 3 else fp1 v) := by show _ = _; unfold fpW; rw [hd, hd11]
  have HfqE : Hid (fp1 v = regF (regF (alA (alD v) (fp0 d) (alD v).length) 6 9 1 d17) 9 6 d17 1) := by show _ = _; unfold fp1; rw [hd, hd17]
  have HfrE : Hid (fp0 d = regF (regF (regF (fun _ _ => false) 0 0 9 9) d8 0 8 9) 0 d8 9 8) := by show _ = _; unfold fp0; rw [hd8]
  obtain ⟨A, C, hb, ha, _, _, _, _⟩ := hV
  rw [hd]
  have hd1 : 21 ≤ d ∧ d ≤ 45 := by omega
  have c0 := hb.cell 0
  have c1 := hb.cell 1
  change _ = some (Value.slice _ _ _) at c1
  obtain ⟨al, hal⟩ : ∃ al, alD v = al := ⟨_, rfl⟩
  rw [hal] at c1 ha hal3 halb
  obtain ⟨mx, hmx⟩ : ∃ mx, al.length = mx := ⟨_, rfl⟩
  rw [hmx] at c1 hal3
  have hbA : ∀ j, j < mx → 6 ≤ nth al j ∧ nth al j + 3 ≤ d := fun j hj => by
    have := halb (nth al j) (by unfold nth; rw [List.getD_eq_getElem?_getD, List.getElem?_eq_getElem (by omega)]; exact List.getElem_mem _)
    omega
  have hPl := hb.lt
  have hAl : ∀ j, j < mx → w.cell? ⟨A, j, none⟩ = some (.int .i64 (nth al j : Nat)) := fun j hj => by have := ha j (by omega); rwa [Nat.zero_add] at this
  rw [hal] at HfqE
  have Hd := Lib.hid hd
  have Halb := Lib.hid halb
  have HbA := Lib.hid hbA
  have HAl := Lib.hid hAl
  have Hmx := Lib.hid hmx
  have Hal := Lib.hid hal
  have Hd8 := Lib.hid hd8
  have Hd17 := Lib.hid hd17
  have Hd11 := Lib.hid hd11
  clear halb hbA hAl hmx hal hd8 hd17 hd11
  clear ha hb hd
  go_enter Tryz.func213, Tryz.ntmps213
  go_wp2_with fail
  refine (getDim_c w P v hv c0).mono ?_
  rintro e w1 ⟨rfl, rfl⟩
  rw [Hd.out]
  go_wp2_with fail
  refine ((newSq_c w d (by omega) (by omega))).mono ?_
  rintro e w1 ⟨q, B, rs, ws, rfl, hb, hq, hB, hm⟩
  have c01 := cell_mod hm (fun f => f) c0
  have c11 := cell_mod hm (fun f => f) c1
  clear c0 c1
  have Hb := Lib.hid hb
  have Hm := Lib.hid hm
  clear hb hm
  go_wp2_with fail
  refine ((setRegion_c w1 q B d d rs ws _ Hb.out 0 0 9 9 (by omega) (by omega) (by omega) (by omega))).mono ?_
  rintro e w2 ⟨rfl, ⟨ws2, hb2⟩, hm2⟩
  have Hb2 := Lib.hid hb2
  have Hm2 := Lib.hid hm2
  clear hb2 hm2
  go_wp2_with fail
  try rw [i8]
  refine (setRegion_c w2 q B d d rs ws2 _ Hb2.out d8 0 8 9 (by omega) (by omega) (by omega) (by omega)).mono ?_
  rintro e w3 ⟨rfl, ⟨ws3, hb3⟩, hm3⟩
  have hm3' := Hm2.out.trans hm3
  have Hb3 := Lib.hid hb3
  have Hm3' := Lib.hid hm3'
  clear hb3 hm3'
  clear hm3
  go_wp2_with fail
  try rw [i8]
  refine (setRegion_c w3 q B d d rs ws3 _ Hb3.out 0 d8 9 8 (by omega) (by omega) (by omega) (by omega)).mono ?_
  rintro e w4 ⟨rfl, ⟨ws4, hb4⟩, hm4⟩
  have hm4' := Hm3'.out.trans hm4
  rw [← HfrE.out] at hb4
  have hBP : ¬ P = B := by omega
  have c14 := cell_mod hm4' hBP c11
  have Hb4 := Lib.hid hb4
  have Hm4' := Lib.hid hm4'
  clear hb4 hm4'
  clear hm4
  go_wp2_with fail
  clear c14
  go_loopw [8, 9, 10] (fun a _ _ wr => ∃ x : Nat, x ≤ mx ∧ a = .int .i64 x ∧ (∃ ws, BM wr q B d d rs ws (alA al (fp0 d) x)) ∧ QZ.Mod (· = B) w1 wr) (fun a _ _ _ => mx - (intOf a).toNat)
  case atStart => exact ⟨0, by omega, rfl, ⟨ws4, Hb4.out⟩, Hm4'.out⟩
  case round =>
    obtain ⟨x, hx, rfl, ⟨us, hbx⟩, hmx⟩ := hrel
    have Hbx := Lib.hid hbx
    have Hmx2 := Lib.hid hmx
    clear hbx hmx
    have c1r := cell_mod Hmx2.out hBP c11
    by_cases hlt : x < mx
    · have hAB : ¬ A = B := by have := cell_lt (HAl.out x hlt); omega
      have cx := cell_mod Hmx2.out hAB (cell_mod Hm.out (fun f => f) (HAl.out x hlt))
      obtain ⟨hxa, hxb⟩ := HbA.out x hlt
      obtain ⟨ax, hax⟩ : ∃ ax, nth al x - 2 = ax := ⟨_, rfl⟩
      have hax2 : nth al x = ax + 2 := by omega
      rw [hax2] at cx hxa hxb
      have Hax := Lib.hid hax
      have Hax2 := Lib.hid hax2
      clear hax hax2
      go_wp2_with fail
      clear cx c1r
      generalize decide ((x : Int) < (mx : Int)) = bb
      have hsub : ((ax + 2 : Nat) : Int) - 2 = (ax : Int) := by omega
      try rw [hsub]
      clear hsub
      go_loopw [10] (fun b wr2 => ∃ y : Nat, y ≤ mx ∧ b = .int .i64 y ∧ (∃ ws, BM wr2 q B d d rs ws (alR al (alA al (fp0 d) x) x y)) ∧ QZ.Mod (· = B) w1 wr2) (fun b _ => mx - (intOf b).toNat)
      case atStart => exact ⟨0, by omega, rfl, ⟨us, Hbx.out⟩, Hmx2.out⟩
      case round =>
        obtain ⟨y, hy, rfl, ⟨us2, hby⟩, hmy⟩ := hrel
        have Hby := Lib.hid hby
        have Hmy := Lib.hid hmy
        clear hby hmy
        have c1r := cell_mod Hmy.out hBP c11
        by_cases hylt : y < mx
        · have cy := cell_mod Hmy.out hAB (cell_mod Hm.out (fun f => f) (HAl.out y hylt))
          obtain ⟨hya, hyb⟩ := HbA.out y hylt
          obtain ⟨ay, hay⟩ : ∃ ay, nth al y - 2 = ay := ⟨_, rfl⟩
          have hay2 : nth al y = ay + 2 := by omega
          rw [hay2] at cy hya hyb
          have hsub : ((ay + 2 : Nat) : Int) - 2 = (ay : Int) := by omega
          have Hstep : Hid (alR al (alA al (fp0 d) x) x (y + 1) = if alGo mx x y = true then alR al (alA al (fp0 d) x) x y else regF (alR al (alA al (fp0 d) x) x y) ay ax 5 5) := by
            show alS _ _ _ _ = _
            unfold alS
            rw [Hmx.out, hay, Hax.out]
          have e1 : ((x : Int) == 0) = (x == 0) := by rw [Bool.eq_iff_iff, beq_iff_eq, beq_iff_eq]; omega
          have e2 : ((y : Int) == 0) = (y == 0) := by rw [Bool.eq_iff_iff, beq_iff_eq, beq_iff_eq]; omega
          have e3 : ((y : Int) == (mx : Int) - 1) = (y == mx - 1) := by rw [Bool.eq_iff_iff, beq_iff_eq, beq_iff_eq]; omega
          have e4 : ((x : Int) == (mx : Int) - 1) = (x == mx - 1) := by rw [Bool.eq_iff_iff, beq_iff_eq, beq_iff_eq]; omega
          have HgoE : Hid (alGo mx x y = ((x == 0 && (y == 0 || y == mx - 1)) || (x == mx - 1 && y == 0))) := rfl
          have Hay := Lib.hid hay
          have Hay2 := Lib.hid hay2
          clear hay hay2
          generalize (x == 0) = b1 at *
          generalize (y == 0) = b2 at *
          generalize (y == mx - 1) = b3 at *
          generalize (x == mx - 1) = b4 at *
          generalize alR al (alA al (fp0 d) x) x y = F at *
          cases b1 <;> cases b2 <;> cases b3 <;> cases b4
          all_goals
            first
            | (have Hn : Hid (alR al (alA al (fp0 d) x) x (y + 1) = F) := by show _ = _; rw [Hstep.out, HgoE.out]; rfl
               clear Hstep HgoE
               go_wp2_with fail
               go_roundw
               case rel => exact ⟨y + 1, by omega, by go_num, ⟨us2, by rw [Hn.out]; exact Hby.out⟩, Hmy.out⟩
               case measure => simp [intOf]; omega)
            | (have Hn : Hid (alR al (alA al (fp0 d) x) x (y + 1) = regF F ay ax 5 5) := by show _ = _; rw [Hstep.out, HgoE.out]; rfl
               clear Hstep HgoE
               go_wp2_with fail
               try rw [hsub]
               refine (setRegion_c wr q B d d rs us2 _ Hby.out ay ax 5 5 (by omega) (by omega) (by omega) (by omega)).mono ?_
               rintro e w5 ⟨rfl, ⟨ws5, hb5⟩, hm5⟩
               have hm5' := Hmy.out.trans hm5
               rw [← Hn.out] at hb5
               have Hb5 := Lib.hid hb5
               have Hm5' := Lib.hid hm5'
               clear hb5 hm5'
               clear hm5
               go_wp2_with fail
               go_roundw
               case rel => exact ⟨y + 1, by omega, by go_num, ⟨ws5, Hb5.out⟩, Hm5'.out⟩
               case measure => simp [intOf]; omega)
        · obtain rfl : mx = y := by omega
          have Hn : Hid (alA al (fp0 d) (x + 1) = alR al (alA al (fp0 d) x) x mx) := by show alR _ _ _ _ = _; rw [Hmx.out]
          go_wp2_with fail
          go_roundw
          case rel => exact ⟨x + 1, by omega, by go_num, ⟨us2, by rw [Hn.out]; exact Hby.out⟩, Hmy.out⟩
          case measure => simp [intOf]; omega
    · obtain rfl : mx = x := by omega
      have c0r := cell_mod Hmx2.out hBP c01
      clear c1r
      go_wp2_with fail
      try rw [i17]
      refine (setRegion_c wr q B d d rs us _ Hbx.out 6 9 1 d17 (by omega) (by omega) (by omega) (by omega)).mono ?_
      rintro e w5 ⟨rfl, ⟨ws5, hb5⟩, hm5⟩
      have hm5' := Hmx2.out.trans hm5
      have Hb5 := Lib.hid hb5
      have Hm5' := Lib.hid hm5'
      clear hb5 hm5'
      clear hm5 c0r
      go_wp2_with fail
      try rw [i17]
      refine (setRegion_c w5 q B d d rs ws5 _ Hb5.out 9 6 d17 1 (by omega) (by omega) (by omega) (by omega)).mono ?_
      rintro e w6 ⟨rfl, ⟨ws6, hb6⟩, hm6⟩
      have hm6' := Hm5'.out.trans hm6
      rw [← Hmx.out, ← HfqE.out] at hb6
      have c06 := cell_mod hm6' hBP c01
      have Hb6 := Lib.hid hb6
      have Hm6' := Lib.hid hm6'
      clear hb6 hm6'
      clear hm6
      by_cases h6 : 6 < v
      · have t6 : decide ((v : Int) > 6) = true := by simp <;> omega
        have t6' : decide ((6 : Int) < (v : Int)) = true := by simp <;> omega
        go_wp2_with fail
        try rw [i11]
        refine (setRegion_c w6 q B d d rs ws6 _ Hb6.out d11 0 3 6 (by omega) (by omega) (by omega) (by omega)).mono ?_
        rintro e w7 ⟨rfl, ⟨ws7, hb7⟩, hm7⟩
        have hm7' := Hm6'.out.trans hm7
        have Hb7 := Lib.hid hb7
        have Hm7' := Lib.hid hm7'
        clear hb7 hm7'
        clear hm7 c06
        go_wp2_with fail
        try rw [i11]
        refine (setRegion_c w7 q B d d rs ws7 _ Hb7.out 0 d11 6 3 (by omega) (by omega) (by omega) (by omega)).mono ?_
        rintro e w8 ⟨rfl, ⟨ws8, hb8⟩, hm8⟩
        have hm8' := Hm.out.new (Hm7'.out.trans hm8) (fun k hk => by rw [hk]; exact hB)
        have hb9 := hb8.congr (g := fpF v) (fun x y hx hy => by have h := Hfin.out x y hx hy; rw [HfpE.out, if_pos h6] at h; exact h)
        have Hb9 := Lib.hid hb9
        have Hm8' := Lib.hid hm8'
        clear hb9 hm8'
        clear hm8 hb8
        go_wp2_with fail
        go_ret2
        exact ⟨q, B, rs, ws8, rfl, Hb9.out, hq, hB, Hm8'.out⟩
      · have t6 : decide ((v : Int) > 6) = false := by simp <;> omega
        have t6' : decide ((6 : Int) < (v : Int)) = false := by simp <;> omega
        have hm8' := Hm.out.new Hm6'.out (fun k hk => by rw [hk]; exact hB)
        have hb9 := Hb6.out.congr (g := fpF v) (fun x y hx hy => by have h := Hfin.out x y hx hy; rw [HfpE.out, if_neg h6] at h; exact h)
        have Hb9 := Lib.hid hb9
        have Hm8' := Lib.hid hm8'
        clear hb9 hm8'
        go_wp2_with fail
        go_ret2
        exact ⟨q, B, rs, ws6, rfl, Hb9.out, hq, hB, Hm8'.out⟩
end Go.Proofs.YtnpkihobbcglcaaGreatDoor
