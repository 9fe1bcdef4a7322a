/- Part 50 of the proof of FnPXQuick (a QR code that is written for a text says this text in a picture): parts of the road. No condition. -/
import Derived.Test.YtnpkihobbcglcaaGreatDoorG47
import Derived.Test.YtnpkihobbcglcaaGreatDoorG49
/- The dark pixels of a picture, by the hybrid binarizer. -/
open Go Go.RowKit
namespace Go.Proofs.YtnpkihobbcglcaaGreatDoor
open Go.QZ

theorem meth_width (w : World) (p : Addr) : (method 510 226 (.pointer (some p)) "GetWidth").run Tryz.prog w = .ok (308, .pointer (some p)) w := by kernel_rfl
theorem meth_height (w : World) (p : Addr) : (method 510 226 (.pointer (some p)) "GetHeight").run Tryz.prog w = .ok (305, .pointer (some p)) w := by kernel_rfl
theorem meth_black (w : World) (p : Addr) : (method 510 235 (.pointer (some p)) "GetBlackMatrix").run Tryz.prog w = .ok (325, .pointer (some p)) w := by kernel_rfl
theorem cf_width (w : World) (a : Value) : (callFunc 308 #[a]).run Tryz.prog w = .ok (.enter 308 #[a]) w := by kernel_rfl
theorem cf_height (w : World) (a : Value) : (callFunc 305 #[a]).run Tryz.prog w = .ok (.enter 305 #[a]) w := by kernel_rfl
theorem cf_black (w : World) (a : Value) : (callFunc 325 #[a]).run Tryz.prog w = .ok (.enter 325 #[a]) w := by kernel_rfl

theorem newGHB_c (w : World) (s : Value) : Calls Tryz.prog 112 #[.iface 226 s] w fun e w' => ∃ g, e = .returned (.iface 232 (.pointer (some ⟨g, 0, none⟩))) ∧ w'.cell? ⟨g, 0, none⟩ = some (.iface 226 s) ∧ w.heap.size ≤ g ∧ QZ.Mod (fun _ => False) w w' := by
  have hmk := fun w => make_run (P := Tryz.prog) Tryz.underlying117 i117 rfl (32 : Int) (32 : Int) 32 32 rfl rfl (Nat.le_refl _) (by decide) (by decide) w
  have hmk1 := hmk w
  have hmk2 := hmk (w.alloc (.cells #[] 5))
  have hmk3 := hmk (w.alloc (zrow 5 (.int .u8 0) 0))
  clear hmk
  go_enter Tryz.func112, Tryz.ntmps112
  go_wp2
  go_ret
  refine ⟨w.heap.size + 1 + 1, rfl, ?_, by omega, (((QZ.Mod.refl _ _).alloc _).alloc _).alloc _⟩
  exact (blk_new _ [.iface 226 s, .slice (some ⟨w.heap.size, 0, none⟩) 0 0, .slice (some ⟨w.heap.size + 1, 0, none⟩) 32 32] _ _ (by rw [World.size_alloc, World.size_alloc])).at 0 rfl

set_option maxRecDepth 20000 in
theorem newHyb_c (w : World) (s : Value) : Calls Tryz.prog 113 #[.iface 226 s] w fun e w' => ∃ b g, e = .returned (.iface 235 (.pointer (some ⟨b, 0, none⟩))) ∧ Blk w' b [.pointer (some ⟨g, 0, none⟩), .pointer none] ∧ w'.cell? ⟨g, 0, none⟩ = some (.iface 226 s) ∧ w.heap.size ≤ b ∧ g ≠ b ∧ QZ.Mod (fun _ => False) w w' := by
  have hnew := Lib.hid (fun w0 g t => Blk.new w0 [.pointer (some ⟨g, 0, none⟩), .pointer none] t)
  go_enter Tryz.func113, Tryz.ntmps113
  go_wp2_with fail
  refine (newGHB_c w s).mono ?_
  rintro e w1 ⟨g, rfl, hg, hgs, hm⟩
  have hgl := cell_lt hg
  have hta : (Instr.typeAssert (.iface 232 (.pointer (some ⟨g, 0, none⟩))) 186 232 false).run Tryz.prog w1 = .ok (.pointer (some ⟨g, 0, none⟩)) w1 := by kernel_rfl
  have Hg := Lib.hid hg
  have Hgs := Lib.hid hgs
  have Hm := Lib.hid hm
  clear hg hgs hm
  go_wp2_with fail
  go_ret
  exact ⟨w1.heap.size, g, rfl, hnew.out _ _ _, cell_mod ((QZ.Mod.refl (fun _ => False) w1).alloc _) (fun f => f) Hg.out, Hm.out.size, by omega, Hm.out.alloc _⟩

theorem andW7 (i : Nat) (h : i < 4294967296) : bits .and .i64 (i : Int) 7 = ((i % 8 : Nat) : Int) := by
  have := bits_mask .i64 63 (by decide) (fun n h0 h1 => by rw [IntKind.wrap_i64]; omega) 3 (by decide) (i : Int) (by omega) (by omega)
  simpa using this

set_option maxHeartbeats 800000 in
theorem getFull_c (w : World) (p G N cap W H : Nat) (hy : YUV w p W H G N cap W H 0 0) : Calls Tryz.prog 306 #[.pointer (some ⟨p, 0, none⟩)] w fun e w' => e = .returned (.slice (some ⟨G, 0, none⟩) N cap) ∧ w = w' := by
  have c0 : w.cell? ⟨p, 0, none⟩ = some (.int .i64 W) := hy.at 0 rfl
  have c0b : w.cell? ⟨p, 0 + 1, none⟩ = some (.int .i64 H) := hy.at 1 rfl
  have c2 : w.cell? ⟨p, 2, none⟩ = some (.slice (some ⟨G, 0, none⟩) N cap) := hy.at 2 rfl
  have c3 : w.cell? ⟨p, 3, none⟩ = some (.int .i64 W) := hy.at 3 rfl
  have c4 : w.cell? ⟨p, 4, none⟩ = some (.int .i64 H) := hy.at 4 rfl
  have Hy := Lib.hid hy
  clear hy
  go_enter Tryz.func306, Tryz.ntmps306
  go_wp2_with fail
  refine (LuminanceSourceBase_GetWidth_c w p 0 _ c0).mono ?_
  rintro e w1 ⟨rfl, rfl⟩
  go_wp2_with fail
  refine (LuminanceSourceBase_GetHeight_c w p 0 _ c0b).mono ?_
  rintro e w1 ⟨rfl, rfl⟩
  go_wp2_with fail
  go_ret
  exact ⟨rfl, rfl⟩

/-- The matrix of the dark pixels is handed back. -/
def GotBlack (w : World) (b W H : Nat) (P : Nat → Nat → Nat) (e : Ending) (w' : World) : Prop := ∃ m B rs ws f, e = .returned (.tuple #[.pointer (some ⟨m, 0, none⟩), .nilIface]) ∧ BM w' m B W H rs ws f ∧ (∀ x y, x < W → y < H → f x y = decide (P x y = 0)) ∧ QZ.Mod (fun k => k = b) w w'

set_option maxRecDepth 20000 in
set_option maxHeartbeats 1600000 in
theorem hybrid_c (w : World) (b g p G cap W H L : Nat) (P : Nat → Nat → Nat) (hb : Blk w b [.pointer (some ⟨g, 0, none⟩), .pointer none]) (hg : w.cell? ⟨g, 0, none⟩ = some (.iface 226 (.pointer (some ⟨p, 0, none⟩)))) (hy : YUV w p W H G (W * H) cap W H 0 0) (hp : Pix w G W H P) (hP : ∀ x y, P x y = 0 ∨ P x y = L) (hL : 1 ≤ L) (hL2 : L < 256) (hW1 : 40 ≤ W) (hH1 : 40 ≤ H) (hW : W ≤ 300) (hH : H ≤ 300) :
    Calls Tryz.prog 325 #[.pointer (some ⟨b, 0, none⟩)] w (GotBlack w b W H P) := by
  have c0 : w.cell? ⟨b, 0, none⟩ = some (.pointer (some ⟨g, 0, none⟩)) := hb.at 0 rfl
  have c1 : w.cell? ⟨b, 1, none⟩ = some (.pointer none) := hb.at 1 rfl
  have hm1 := meth_width w ⟨p, 0, none⟩
  have hm2 := meth_height w ⟨p, 0, none⟩
  have hm3 := meth_getMatrix w ⟨p, 0, none⟩
  have hc1 := cf_width w
  have hc2 := cf_height w
  have hc3 := cf_getMatrix w
  have y0 : w.cell? ⟨p, 0, none⟩ = some (.int .i64 W) := hy.at 0 rfl
  have y1 : w.cell? ⟨p, 0 + 1, none⟩ = some (.int .i64 H) := hy.at 1 rfl
  have hG : G < w.heap.size := cell_lt (hp 0 0 (by omega) (by omega))
  have hPL : ∀ x y, P x y ≤ L := fun x y => by rcases hP x y with e | e <;> omega
  have a1 := andW7 W (by omega)
  have a2 := andW7 H (by omega)
  obtain ⟨wd, hwd⟩ : ∃ wd, W / 8 = wd := ⟨_, rfl⟩
  obtain ⟨hd, hhd⟩ : ∃ hd, H / 8 = hd := ⟨_, rfl⟩
  obtain ⟨wr8, hwr⟩ : ∃ wr8, W % 8 = wr8 := ⟨_, rfl⟩
  obtain ⟨hr8, hhr⟩ : ∃ hr8, H % 8 = hr8 := ⟨_, rfl⟩
  rw [hwr] at a1
  rw [hhr] at a2
  have i1 : (W : Int) / 8 = (wd : Int) := by omega
  have i2 : (H : Int) / 8 = (hd : Int) := by omega
  have hbl := hb.lt
  have tW : decide ((40 : Int) ≤ (W : Int)) = true := by simp <;> omega
  have tH : decide ((40 : Int) ≤ (H : Int)) = true := by simp <;> omega
  have Hb := Lib.hid hb
  have Hy := Lib.hid hy
  have Hp := Lib.hid hp
  have Hwd := Lib.hid hwd
  have Hhd := Lib.hid hhd
  have Hwr := Lib.hid hwr
  have Hhr := Lib.hid hhr
  clear hb hy hp hwd hhd hwr hhr
  go_enter Tryz.func325, Tryz.ntmps325
  go_wp2_with fail
  refine (GlobalHistogramBinarizer_GetLuminanceSource_c w g 0 _ hg).mono ?_
  rintro e w1 ⟨rfl, rfl⟩
  go_wp2_with fail
  refine (LuminanceSourceBase_GetWidth_c w p 0 _ y0).mono ?_
  rintro e w1 ⟨rfl, rfl⟩
  go_wp2_with fail
  refine (LuminanceSourceBase_GetHeight_c w p 0 _ y1).mono ?_
  rintro e w1 ⟨rfl, rfl⟩
  go_wp2_with fail
  refine (getFull_c w p G (W * H) cap W H Hy.out).mono ?_
  rintro e w1 ⟨rfl, rfl⟩
  clear hm1 hm2 hm3 hc1 hc2 hc3 y0 y1
  by_cases zW : wr8 = 0
  all_goals by_cases zH : hr8 = 0
  all_goals
    first
    | rw [zW] at a1
    | (have z1 : ((wr8 : Int) != 0) = true := by simp <;> omega
       have z2 : ((wr8 : Int) == 0) = false := by simp <;> omega
       have z3 : decide ((wr8 : Int) = 0) = false := by simp <;> omega)
    first
    | rw [zH] at a2
    | (have z4 : ((hr8 : Int) != 0) = true := by simp <;> omega
       have z5 : ((hr8 : Int) == 0) = false := by simp <;> omega
       have z6 : decide ((hr8 : Int) = 0) = false := by simp <;> omega)
    have HzW := Lib.hid zW
    have HzH := Lib.hid zH
    clear zW zH
    go_wp2_with fail
  all_goals
    first
    | (obtain ⟨sw, hsw⟩ : ∃ sw, wd + 1 = sw := ⟨_, rfl⟩
       rw [show ((wd : Int) + 1) = (sw : Int) by omega])
    | (obtain ⟨sw, hsw⟩ : ∃ sw, wd = sw := ⟨_, rfl⟩
       rw [show (wd : Int) = (sw : Int) by omega])
  all_goals
    first
    | (obtain ⟨sh, hsh⟩ : ∃ sh, hd + 1 = sh := ⟨_, rfl⟩
       rw [show ((hd : Int) + 1) = (sh : Int) by omega])
    | (obtain ⟨sh, hsh⟩ : ∃ sh, hd = sh := ⟨_, rfl⟩
       rw [show (hd : Int) = (sh : Int) by omega])
  all_goals
    have hsw2 : sw = (W + 7) / 8 := by have := Hwd.out; have := Hwr.out; have := HzW.out; omega
    have hsh2 : sh = (H + 7) / 8 := by have := Hhd.out; have := Hhr.out; have := HzH.out; omega
    have Hsw := Lib.hid hsw
    have Hsh := Lib.hid hsh
    have Hsw2 := Lib.hid hsw2
    have Hsh2 := Lib.hid hsh2
    clear hsw hsh hsw2 hsh2
  all_goals
    refine (points_c w _ G cap W H (W * H) _ _ L P Hp.out hPL hL hL2 rfl hW1 hH1 hW hH Hsw2.out Hsh2.out hG).mono ?_
    rintro e w2 ⟨Q, rfl, hq, hQs, hm2⟩
    have Hq := Lib.hid hq
    have HQs := Lib.hid hQs
    have Hm2 := Lib.hid hm2
    clear hq hQs hm2
    go_wp2_with fail
    refine (newBM_c w2 W H (by omega) (by omega) (by omega) (by omega)).mono ?_
    rintro e w3 ⟨mp, B, rs, ws, rfl, hbm, hmp, hB, hm3⟩
    have hq3 := Hq.out.old hm3 (fun _ f => f.elim)
    have hs2 := Hm2.out.size
    have hp3 := (Hp.out.mod Hm2.out (fun f => f)).mod hm3 (fun f => f)
    have hQB : Q ≠ B := by
      obtain ⟨R, h1, _⟩ := Hq.out 0 (by have := Hsh2.out; omega)
      have := cell_lt h1; omega
    have hRB : ∀ y, y < sh → ∀ R, w3.cell? ⟨Q, y, none⟩ = some (.slice (some ⟨R, 0, none⟩) sw sw) → R ≠ B := fun y hy R hR => by
      obtain ⟨R', h1, h2⟩ := Hq.out y hy
      have h3 := cell_mod hm3 (fun f => f) h1
      rw [hR] at h3
      injection h3 with h3
      injection h3 with e1 _ _
      injection e1 with e1
      injection e1 with e1
      obtain ⟨v, h4, _⟩ := h2 0 (by have := Hsw2.out; omega)
      have := cell_lt h4
      omega
    have hbb := (Hb.out.mod' Hm2.out).mod' hm3
    have Hbm := Lib.hid hbm
    have Hq3 := Lib.hid hq3
    have Hp3 := Lib.hid hp3
    have Hbb := Lib.hid hbb
    have HRB := Lib.hid hRB
    have Hm3 := Lib.hid hm3
    clear hbm hq3 hp3 hbb hRB hm3
    go_wp2_with fail
    refine (thAll_c w3 _ G cap W H (W * H) mp B rs _ _ Q L ws P Hp3.out hP hL hL2 Hbm.out rfl hW1 hH1 hW hH Hsw2.out Hsh2.out Hq3.out (by omega) hQB HRB.out).mono ?_
    rintro e w4 ⟨rfl, ws4, f4, hbm4, hf4, hm4⟩
    have hb4 := hm4.blk (show ¬ b = B by omega) Hbb.out
    have d1 : w4.cell? ⟨b, 1, none⟩ = some (.pointer none) := hb4.at 1 rfl
    have e1 := hb4.frozen 1
    have hb5 := hb4.set 1 (.pointer (some ⟨mp, 0, none⟩))
    simp only [List.set_cons_zero, List.set_cons_succ] at hb5
    have hset := (QZ.Mod.refl (fun q => q = b) w4).setCell (p := ⟨b, 1, none⟩) (.inr rfl) (.pointer (some ⟨mp, 0, none⟩))
    have hbm5 := hbm4.mod hset (by omega) (by omega)
    have hMM : QZ.Mod (fun k => k = b) w (w4.setCell ⟨b, 1, none⟩ (.pointer (some ⟨mp, 0, none⟩))) := (((Hm2.out.trans Hm3.out).none (S := fun k => k = b)).then hm4 (fun k hk e => by omega)).then hset (fun k _ e => e)
    have d2 := hb5.cell 1
    have Hbm5 := Lib.hid hbm5
    have HMM := Lib.hid hMM
    have Hf4 := Lib.hid hf4
    clear hbm5 hMM hf4
    clear hm4 hbm4 hset hb4 hb5
    go_wp2_with fail
    go_ret2
    exact ⟨mp, B, rs, ws4, f4, rfl, Hbm5.out, Hf4.out, HMM.out⟩

/-- The rows of the dark pixels are handed back. -/
def DarkRows (w : World) (W H : Nat) (P : Nat → Nat → Nat) (e : Ending) (w' : World) : Prop := ∃ R, e = .returned (.tuple #[.slice (some ⟨R, 0, none⟩) H H, .bool true]) ∧ Rows2 w' R W H (fun x y => decide (P x y = 0)) ∧ QZ.Mod (fun _ => False) w w'

set_option maxRecDepth 20000 in
set_option maxHeartbeats 800000 in
theorem black_c (w : World) (W H G cap L : Nat) (P : Nat → Nat → Nat) (hp : Pix w G W H P) (hP : ∀ x y, P x y = 0 ∨ P x y = L) (hL : 1 ≤ L) (hL2 : L < 256) (hW1 : 40 ≤ W) (hH1 : 40 ≤ H) (hW : W ≤ 300) (hH : H ≤ 300) :
    Calls Tryz.prog 65 #[.int .i64 W, .int .i64 H, .slice (some ⟨G, 0, none⟩) (W * H) cap, .bool true] w (fun e w' => ∃ m B rs ws f, e = .returned (.pointer (some ⟨m, 0, none⟩)) ∧ BM w' m B W H rs ws f ∧ (∀ x y, x < W → y < H → f x y = decide (P x y = 0)) ∧ QZ.Mod (fun _ => False) w w') := by
  have hpj : ∀ j, j < W * H → w.cell? ⟨G, j, none⟩ = some (.int .u8 (P (j % W) (j / W) : Nat)) := fun j hj => by
    have h1 : j / W < H := Nat.div_lt_of_lt_mul hj
    have h2 : j % W < W := Nat.mod_lt _ (by omega)
    have := hp _ _ h2 h1
    rwa [show j / W * W + j % W = j by rw [Nat.mul_comm]; exact Nat.div_add_mod j W] at this
  have Hp := Lib.hid hp
  have Hpj := Lib.hid hpj
  clear hp hpj
  go_enter Tryz.func65, Tryz.ntmps65
  go_wp2_with fail
  refine (source_c w W H G cap (fun j => P (j % W) (j / W)) Hpj.out (by omega) (by omega) hW hH).mono ?_
  rintro e w1 ⟨p, G1, cap1, rfl, hy, hpx, hcap, hps, hGs, hm1⟩
  have hpix : Pix w1 G1 W H P := fun x y hx hy => by
    have e1 : (y * W + x) % W = x := by rw [Nat.add_comm, Nat.add_mul_mod_self_right, Nat.mod_eq_of_lt hx]
    have e2 : (y * W + x) / W = y := by rw [Nat.add_comm, Nat.add_mul_div_right _ _ (by omega), Nat.div_eq_of_lt hx, Nat.zero_add]
    have := hpx (y * W + x) (by rw [Nat.mul_comm W H]; exact row_lt hy hx)
    simp only [e1, e2] at this
    exact this
  clear hpx
  have Hy := Lib.hid hy
  have Hpix := Lib.hid hpix
  have Hm1 := Lib.hid hm1
  clear hy hpix hm1
  go_wp2_with fail
  refine (newGHB_c w1 _).mono ?_
  rintro e w2 ⟨g0, rfl, hg0, hg0s, hm2⟩
  clear hg0 hg0s
  have Hm2 := Lib.hid hm2
  clear hm2
  go_wp2_with fail
  refine (newHyb_c w2 _).mono ?_
  rintro e w3 ⟨b, g, rfl, hb, hg, hbs, hgb, hm3⟩
  have hmm := Hm2.out.trans hm3
  have hy3 : YUV w3 p W H G1 (W * H) cap1 W H 0 0 := Blk.mod' Hy.out hmm
  have hp3 := Hpix.out.mod hmm (fun f => f)
  have hme := meth_black w3 ⟨b, 0, none⟩
  have hcf := cf_black w3
  have hs2 := Hm2.out.size
  have hs1 := Hm1.out.size
  have Hb := Lib.hid hb
  have Hg := Lib.hid hg
  have Hy3 := Lib.hid hy3
  have Hp3 := Lib.hid hp3
  have Hmm := Lib.hid hmm
  have Hm3 := Lib.hid hm3
  clear hb hg hy3 hp3 hmm hm3
  go_wp2_with fail
  refine (hybrid_c w3 b g p G1 cap1 W H L P Hb.out Hg.out Hy3.out Hp3.out hP hL hL2 hW1 hH1 hW hH).mono ?_
  rintro e w4 ⟨m, B, rs, ws, f, rfl, hbm, hf, hm4⟩
  have hM : QZ.Mod (fun _ => False) w w4 := (Hm1.out.trans Hmm.out).new hm4 (fun k hk => by omega)
  clear hme hcf hm4
  have Hbm := Lib.hid hbm
  have Hf := Lib.hid hf
  have HM := Lib.hid hM
  clear hbm hf hM
  go_wp2_with fail
  go_ret
  exact ⟨m, B, rs, ws, f, rfl, Hbm.out, Hf.out, HM.out⟩

theorem blackMatrix_c (w : World) (W H G cap L : Nat) (P : Nat → Nat → Nat) (hp : Pix w G W H P) (hP : ∀ x y, P x y = 0 ∨ P x y = L) (hL : 1 ≤ L) (hL2 : L < 256) (hW1 : 40 ≤ W) (hH1 : 40 ≤ H) (hW : W ≤ 300) (hH : H ≤ 300) :
    Calls Tryz.prog 26 #[.int .i64 W, .int .i64 H, .slice (some ⟨G, 0, none⟩) (W * H) cap, .bool true] w (DarkRows w W H P) := by
  have Hp := Lib.hid hp
  clear hp
  go_enter Tryz.func26, Tryz.ntmps26
  go_wp2_with fail
  refine (black_c w W H G cap L P Hp.out hP hL hL2 hW1 hH1 hW hH).mono ?_
  rintro e w1 ⟨m, B, rs, ws, f, rfl, hbm, hf, hm1⟩
  have Hbm := Lib.hid hbm
  have Hf := Lib.hid hf
  have Hm1 := Lib.hid hm1
  clear hbm hf hm1
  go_wp2_with fail
  refine (rowsOf_c w1 m B W H rs ws f Hbm.out).mono ?_
  rintro e w2 ⟨R, rfl, hr, hRs, hm2⟩
  have hr2 := hr.congr Hf.out
  have Hr2 := Lib.hid hr2
  have Hm2 := Lib.hid hm2
  clear hr2 hm2
  go_wp2_with fail
  go_ret2
  exact ⟨R, rfl, Hr2.out, Hm1.out.trans Hm2.out⟩
end Go.Proofs.YtnpkihobbcglcaaGreatDoor
