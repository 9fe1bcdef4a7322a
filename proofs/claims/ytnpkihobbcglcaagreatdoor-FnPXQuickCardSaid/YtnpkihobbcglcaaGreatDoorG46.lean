/- Part 46 of the proof of FnPXQuick (a QR code that is written for a text says this text in a picture): parts of the road. No condition. -/
import Derived.BigQuiet
import Derived.Test.YtnpkihobbcglcaaGreatDoorG18
import Derived.Test.YtnpkihobbcglcaaGreatDoorG26
import Derived.Test.YtnpkihobbcglcaaGreatDoorG28
import Derived.Test.YtnpkihobbcglcaaGreatDoorG44
/- Pixels, row by row. -/
open Go Go.RowKit
namespace Go.Proofs.YtnpkihobbcglcaaGreatDoor
open Go.QZ

/-- The gray of a pixel. -/
def picP (f : Nat → Nat → Bool) (s m0 m2 n L x y : Nat) : Nat := if m0 ≤ x ∧ m2 ≤ y ∧ x - m0 < s * n ∧ y - m2 < s * n ∧ f ((x - m0) / s) ((y - m2) / s) = true then 0 else L
/-- The first N pixels, row by row. -/
def pxL (P : Nat → Nat → Nat) (W N : Nat) : List Value := (List.range N).map fun j => .int .u8 (P (j % W) (j / W) : Nat)
theorem pxL_len (P : Nat → Nat → Nat) (W N : Nat) : (pxL P W N).length = N := by simp [pxL]
theorem pxL_get (P : Nat → Nat → Nat) (W N j : Nat) (h : j < N) : (pxL P W N)[j]? = some (.int .u8 (P (j % W) (j / W) : Nat)) := by simp [pxL, h]
theorem pxL_step (P : Nat → Nat → Nat) (W x y : Nat) (h : x < W) : pxL P W (y * W + (x + 1)) = pxL P W (y * W + x) ++ [.int .u8 (P x y : Nat)] := by
  unfold pxL
  rw [← Nat.add_assoc, List.range_succ, List.map_append]
  congr 1
  have e1 : (y * W + x) % W = x := by rw [Nat.add_comm, Nat.add_mul_mod_self_right, Nat.mod_eq_of_lt h]
  have e2 : (y * W + x) / W = y := by rw [Nat.add_comm, Nat.add_mul_div_right _ _ (by omega), Nat.div_eq_of_lt h, Nat.zero_add]
  simp [e1, e2]
theorem Rows2.old {S : Nat → Prop} {w w' : World} {R W H : Nat} {f : Nat → Nat → Bool} (h : Rows2 w R W H f) (hm : QZ.Mod S w w') (hS : ∀ k, S k → w.heap.size ≤ k) : Rows2 w' R W H f := fun y hy => by
  obtain ⟨B, cap, h1, h2⟩ := h y hy
  exact ⟨B, cap, cell_old hm hS h1, fun x hx => cell_old hm hS (h2 x hx)⟩
/-- A picture of W by H pixels is handed back. -/
def Picture (w : World) (W H : Nat) (P : Nat → Nat → Nat) (e : Ending) (w' : World) : Prop :=
  ∃ G cap, e = .returned (.tuple #[.int .i64 W, .int .i64 H, .slice (some ⟨G, 0, none⟩) (W * H) cap]) ∧ (∀ x y, x < W → y < H → w'.cell? ⟨G, y * W + x, none⟩ = some (.int .u8 (P x y : Nat))) ∧ w.heap.size ≤ G ∧ G < w'.heap.size ∧ QZ.Mod (fun _ => False) w w'

end Go.Proofs.YtnpkihobbcglcaaGreatDoor
/- A picture is drawn. -/
open Go Go.RowKit
namespace Go.Proofs.YtnpkihobbcglcaaGreatDoor
open Go.QZ

/-- N pixels are there, in the slice bl. -/
def PxTo (B : Nat) (P : Nat → Nat → Nat) (W N : Nat) (wA : World) (bl : Value) (wr : World) : Prop := ∃ vv, vv = bl ∧ Own wr (B + 1) 5 vv (pxL P W N) ∧ QZ.Mod (fun k => B + 1 ≤ k) wA wr

set_option maxRecDepth 20000 in
set_option maxHeartbeats 1600000 in
theorem draw_c (w : World) (R n cap : Nat) (f : Nat → Nat → Bool) (h : Rows2 w R n n f) (hn : 1 ≤ n) (hn2 : n ≤ 45) (s m0 m1 m2 m3 L W H : Nat) (hs : 1 ≤ s) (hs2 : s ≤ 4) (h0 : m0 ≤ 15) (h1 : m1 ≤ 40) (h2 : m2 ≤ 15) (h3 : m3 ≤ 40) (_hL : L < 256) (hW : W = m0 + s * n + m1) (hH : H = m2 + s * n + m3) :
    Calls Tryz.prog 23 #[.slice (some ⟨R, 0, none⟩) n cap, .int .i64 s, .agg #[.int .i64 m0, .int .i64 m1, .int .i64 m2, .int .i64 m3], .int .u8 0, .int .u8 L] w (Picture w W H (picP f s m0 m2 n L)) := by
  obtain ⟨sn, hsn⟩ : ∃ sn, s * n = sn := ⟨_, rfl⟩
  have hsnl : sn ≤ 180 := by rw [← hsn]; exact Nat.le_trans (Nat.mul_le_mul hs2 hn2) (by decide)
  rw [hsn] at hW hH
  have hsni : (s : Int) * (n : Int) = (sn : Int) := by rw [← hsn]; exact (Int.natCast_mul s n).symm
  have hsn1 : 1 ≤ sn := by rw [← hsn]; exact Nat.mul_pos hs hn
  obtain ⟨G0, c0, r0, _⟩ := h 0 (by omega)
  have tn : decide (0 < (n : Int)) = true := by simp <;> omega
  have hB := Blk.new w [.int .i64 m0, .int .i64 m1, .int .i64 m2, .int .i64 m3] 59
  have r0a := cell_mod ((QZ.Mod.refl (fun _ => False) w).alloc (.cells [Value.int .i64 m0, .int .i64 m1, .int .i64 m2, .int .i64 m3].toArray 59)) (fun f => f) r0
  have hWi : (m0 : Int) + (sn : Int) + (m1 : Int) = (W : Int) := by omega
  have hHi : (m2 : Int) + (sn : Int) + (m3 : Int) = (H : Int) := by omega
  obtain ⟨WH, hWH⟩ : ∃ WH, W * H = WH := ⟨_, rfl⟩
  have hWHi : (W : Int) * (H : Int) = (WH : Int) := by rw [← hWH]; exact (Int.natCast_mul W H).symm
  have hWl : W ≤ 240 := by omega
  have hHl : H ≤ 240 := by omega
  have hWHl : WH ≤ 57600 := by rw [← hWH]; exact Nat.le_trans (Nat.mul_le_mul hWl hHl) (by decide)
  have hmk := make_run (P := Tryz.prog) Tryz.underlying32 i32 rfl (0 : Int) (WH : Int) 0 WH rfl rfl (Nat.zero_le _) (by omega) (by omega)
  have Hh := Lib.hid h
  have HB := Lib.hid hB
  have HW := Lib.hid hW
  have HH := Lib.hid hH
  have HWH := Lib.hid hWH
  have Hsn := Lib.hid hsn
  clear h hB hW hH hWH hsn
  go_enter Tryz.func23, Tryz.ntmps23
  go_wp2_with fail
  clear r0 r0a
  go_quiet (fail)
  go_wp2_with fail
  clear hmk
  have hw2 : QZ.Mod (fun _ => False) w (((w.alloc (.cells #[.int .i64 m0, .int .i64 m1, .int .i64 m2, .int .i64 m3] 59)).drewN nq).alloc (zrow 5 (.int .u8 0) WH)) := ((((QZ.Mod.refl (fun _ => False) w).alloc _).trans (mod_drewN _ _ nq)).alloc _)
  have hB2 := (blk_drewN HB.out nq).alloc (zrow 5 (.int .u8 0) WH)
  have hO2 := Own.of_blk ((w.alloc (.cells #[.int .i64 m0, .int .i64 m1, .int .i64 m2, .int .i64 m3] 59)).drewN nq) (w.heap.size + 1) 5 WH (List.replicate WH (.int .u8 0)) (by show _ ≤ (w.alloc _).heap.size; rw [World.size_alloc]; exact Nat.le_refl _) (by unfold maxLen; omega) (by rw [List.length_replicate])
  rw [show ((w.alloc (.cells #[.int .i64 m0, .int .i64 m1, .int .i64 m2, .int .i64 m3] 59)).drewN nq).heap.size = w.heap.size + 1 from World.size_alloc w _] at hO2
  change Own (((w.alloc (.cells #[.int .i64 m0, .int .i64 m1, .int .i64 m2, .int .i64 m3] 59)).drewN nq).alloc (zrow 5 (.int .u8 0) WH)) _ _ _ _ at hO2
  change Blk (((w.alloc (.cells #[.int .i64 m0, .int .i64 m1, .int .i64 m2, .int .i64 m3] 59)).drewN nq).alloc (zrow 5 (.int .u8 0) WH)) _ _ at hB2
  clear HB
  generalize ((w.alloc (.cells #[.int .i64 m0, .int .i64 m1, .int .i64 m2, .int .i64 m3] 59)).drewN nq).alloc (zrow 5 (.int .u8 0) WH) = wA at *
  obtain ⟨B, hBB⟩ : ∃ B, w.heap.size = B := ⟨_, rfl⟩
  rw [hBB] at hB2 hO2 ⊢
  obtain ⟨P, hP⟩ : ∃ P, picP f s m0 m2 n L = P := ⟨_, rfl⟩
  rw [hP]
  have Hw2 := Lib.hid hw2
  have HB2 := Lib.hid hB2
  have HO2 := Lib.hid hO2
  have HBB := Lib.hid hBB
  have HP := Lib.hid hP
  clear hw2 hB2 hO2 hBB hP
  clear tn
  generalize decide (0 < n) = bn
  go_loopw [17, 18, 19, 20, 21, 16] (fun a _ _ _ _ bl wr => ∃ y : Nat, y ≤ H ∧ a = .int .i64 y ∧ PxTo B P W (y * W) wA bl wr) (fun a _ _ _ _ _ _ => H - (intOf a).toNat)
  case atStart => exact ⟨0, by omega, rfl, _, rfl, by rw [Nat.zero_mul]; exact HO2.out, QZ.Mod.refl _ _⟩
  case round =>
    obtain ⟨y, hy, rfl, vv, rfl, hown, hm⟩ := hrel
    by_cases hlt : y < H
    · have Hown := Lib.hid hown
      have Hm := Lib.hid hm
      clear hown hm
      go_wp2_with fail
      generalize decide ((y : Int) < (H : Int)) = bb
      go_loopw [18, 19, 20, 21, 16] (fun a _ _ _ bl wr => ∃ x : Nat, x ≤ W ∧ a = .int .i64 x ∧ PxTo B P W (y * W + x) wA bl wr) (fun a _ _ _ _ _ => W - (intOf a).toNat)
      case atStart => exact ⟨0, by omega, rfl, _, rfl, Hown.out, Hm.out⟩
      case round =>
        obtain ⟨x, hx, rfl, vv, rfl, hown, hm⟩ := hrel
        by_cases hxl : x < W
        · have hBr := hm.blk (show ¬ B + 1 ≤ B by omega) HB2.out
          have b0 := hBr.cell 0
          have b2 := hBr.cell 2
          have hmw : QZ.Mod (fun k => w.heap.size ≤ k) w wr := (mod_from0 (mod_start _ _) Hw2.out).trans (hm.mono (fun k _ hk => by have := HBB.out; omega))
          have hrw := Hh.out.old hmw (fun _ h => h)
          have hsA := hm.size
          have hsB := HB2.out.lt
          obtain ⟨I, hI⟩ : ∃ I : Int, (x : Int) - (m0 : Int) = I := ⟨_, rfl⟩
          obtain ⟨K, hK⟩ : ∃ K : Int, (y : Int) - (m2 : Int) = K := ⟨_, rfl⟩
          have hIl : -15 ≤ I ∧ I ≤ 240 := by omega
          have hKl : -15 ≤ K ∧ K ≤ 240 := by omega
          obtain ⟨hI1, hI2⟩ := hIl
          obtain ⟨hK1, hK2⟩ := hKl
          have hxy : y * W + x < 57600 := by have := row_lt hlt hxl; have := HWH.out; have e := Nat.mul_comm W H; omega
          -- the pixel's end
          have hstep := pxL_step P W x y hxl
          by_cases gI : 0 ≤ I
          · by_cases gK : 0 ≤ K
            · by_cases gI2 : I < (sn : Int)
              · by_cases gK2 : K < (sn : Int)
                · obtain ⟨i, hIe⟩ := Int.eq_ofNat_of_zero_le gI
                  obtain ⟨k, hKe⟩ := Int.eq_ofNat_of_zero_le gK
                  have hsn2 := Hsn.out
                  have hix : i / s < n := (Nat.div_lt_iff_lt_mul (by omega)).2 (by rw [Nat.mul_comm, hsn2]; omega)
                  have hkx : k / s < n := (Nat.div_lt_iff_lt_mul (by omega)).2 (by rw [Nat.mul_comm, hsn2]; omega)
                  obtain ⟨Gk, ck, g1, g2⟩ := hrw (k / s) hkx
                  have g3 := g2 (i / s) hix
                  have hxi : x - m0 = i := by omega
                  have hyk : y - m2 = k := by omega
                  obtain ⟨ix, hixE⟩ : ∃ ix, i / s = ix := ⟨_, rfl⟩
                  obtain ⟨kx, hkxE⟩ : ∃ kx, k / s = kx := ⟨_, rfl⟩
                  rw [hixE] at hix g3
                  rw [hkxE] at hkx g1 g3
                  have d1 : I / (s : Int) = (ix : Int) := by rw [← hixE, hIe]; exact (Int.natCast_ediv i s).symm
                  have d2 : K / (s : Int) = (kx : Int) := by rw [← hkxE, hKe]; exact (Int.natCast_ediv k s).symm
                  have d3 : Int.tdiv I (s : Int) = (ix : Int) := by rw [← hixE, hIe]; rfl
                  have d4 : Int.tdiv K (s : Int) = (kx : Int) := by rw [← hkxE, hKe]; rfl
                  clear g2
                  cases hb : f ix kx
                  · rw [hb] at g3
                    have u1 : decide ((0 : Int) ≤ I) = true := by simp <;> omega
                    have u2 : decide ((0 : Int) ≤ K) = true := by simp <;> omega
                    have u3 : decide (I < (sn : Int)) = true := by simp <;> omega
                    have u4 : decide (K < (sn : Int)) = true := by simp <;> omega
                    have hPc : P x y = L := by
                      rw [← HP.out]; unfold picP; rw [hxi, hyk, hixE, hkxE, hb, hsn2]; rw [if_neg (by simp)]
                    rw [hPc] at hstep
                    have hown5 : ∀ a, Own ((wr.drewN a).alloc (.cells #[.int .u8 L] 5)) (B + 1) 5 vv (pxL P W (y * W + x)) := fun a => (hown.mod (mod_drewN (fun _ => False) wr a) (fun _ _ f => f)).alloc _
                    have hmN : ∀ a, QZ.Mod (fun k => B + 1 ≤ k) wA ((wr.drewN a).alloc (.cells #[.int .u8 L] 5)) := fun a => (hm.trans (mod_drewN _ wr a)).alloc _
                    have hnews : ∀ a, ∀ j u, [Value.int .u8 L][j]? = some u → ((wr.drewN a).alloc (.cells #[.int .u8 L] 5)).cell? ((⟨(wr.drewN a).heap.size, 0, none⟩ : Addr).add j) = some u := by
                      intro a j u hu
                      rw [Addr.add_lit, Nat.zero_add, (Blk.new (wr.drewN a) [.int .u8 L] 5).cell]; exact hu
                    have hone : ∀ u ∈ [Value.int .u8 L], u.oneCell' = true := by intro u hu; rw [List.mem_singleton.1 hu]; rfl
                    have hfew : (pxL P W (y * W + x)).length + 1 ≤ 1000000 := by rw [pxL_len]; omega
                    have hN5 : ∀ a, B + 1 ≤ ((wr.drewN a).alloc (.cells #[.int .u8 L] 5)).heap.size := fun a => by rw [World.size_alloc]; show B + 1 ≤ wr.heap.size + 1; omega
                    have hblk := hown.block
                    have HIe := Lib.hid hIe
                    have HKe := Lib.hid hKe
                    have Hxi := Lib.hid hxi
                    have Hyk := Lib.hid hyk
                    have Hb := Lib.hid hb
                    have Hsn2 := Lib.hid hsn2
                    have Hstep := Lib.hid hstep
                    have Hown5 := Lib.hid hown5
                    have HmN := Lib.hid hmN
                    have Hnews := Lib.hid hnews
                    have Hone := Lib.hid hone
                    have Hfew := Lib.hid hfew
                    have HN5 := Lib.hid hN5
                    have Hblk := Lib.hid hblk
                    have Hrw := Lib.hid hrw
                    have Hmw := Lib.hid hmw
                    have HBr := Lib.hid hBr
                    have HPc := Lib.hid hPc
                    have Hxy := Lib.hid hxy
                    clear hIe hKe hxi hyk hb hsn2 hstep hown5 hmN hnews hone hfew hN5 hblk hrw hmw hBr hPc hxy
                    clear hown hm
                    go_wp2_with fail
                    go_quiet (fail)
                    have g1q := cell_mod (mod_drewN (fun _ => False) wr nq) (fun f => f) g1
                    have g3q := cell_mod (mod_drewN (fun _ => False) wr nq) (fun f => f) g3
                    go_wp2_with fail
                    go_quiet (fail)
                    go_wp2_with (at_builtin; refine wpList_app rfl (.tmp 106) (.tmp 108) 32 rfl (B + 1) 5 (.int .u8 0) 1 Tryz.underlying32 i32 rfl _ (pxL P W (y * W + x)) rfl (Hown5.out _) ⟨_, 0, none⟩ 1 1 [.int .u8 L] rfl rfl (Hnews.out _) Hone.out Hfew.out (by decide) (HN5.out _) ?_; intro v7 w7 ho7 hm7 hv7; obtain ⟨g7, cap7, hv7e⟩ := own_shape ho7; subst hv7e)
                    go_roundw
                    case rel => exact ⟨x + 1, by omega, by go_num, _, rfl, by rw [Hstep.out]; exact ho7.out, (HmN.out _).trans (hm7.out.mono (fun q _ hq => (Hblk.out q hq).1))⟩
                    case measure => simp [intOf] <;> omega
                  · rw [hb] at g3
                    have u1 : decide ((0 : Int) ≤ I) = true := by simp <;> omega
                    have u2 : decide ((0 : Int) ≤ K) = true := by simp <;> omega
                    have u3 : decide (I < (sn : Int)) = true := by simp <;> omega
                    have u4 : decide (K < (sn : Int)) = true := by simp <;> omega
                    have hPc : P x y = 0 := by
                      rw [← HP.out]; unfold picP; rw [hxi, hyk, hixE, hkxE, hb, hsn2]; rw [if_pos ⟨by omega, by omega, by omega, by omega, rfl⟩]
                    rw [hPc] at hstep
                    have hown5 : ∀ a, Own ((wr.drewN a).alloc (.cells #[.int .u8 0] 5)) (B + 1) 5 vv (pxL P W (y * W + x)) := fun a => (hown.mod (mod_drewN (fun _ => False) wr a) (fun _ _ f => f)).alloc _
                    have hmN : ∀ a, QZ.Mod (fun k => B + 1 ≤ k) wA ((wr.drewN a).alloc (.cells #[.int .u8 0] 5)) := fun a => (hm.trans (mod_drewN _ wr a)).alloc _
                    have hnews : ∀ a, ∀ j u, [Value.int .u8 0][j]? = some u → ((wr.drewN a).alloc (.cells #[.int .u8 0] 5)).cell? ((⟨(wr.drewN a).heap.size, 0, none⟩ : Addr).add j) = some u := by
                      intro a j u hu
                      rw [Addr.add_lit, Nat.zero_add, (Blk.new (wr.drewN a) [.int .u8 0] 5).cell]; exact hu
                    have hone : ∀ u ∈ [Value.int .u8 0], u.oneCell' = true := by intro u hu; rw [List.mem_singleton.1 hu]; rfl
                    have hfew : (pxL P W (y * W + x)).length + 1 ≤ 1000000 := by rw [pxL_len]; omega
                    have hN5 : ∀ a, B + 1 ≤ ((wr.drewN a).alloc (.cells #[.int .u8 0] 5)).heap.size := fun a => by rw [World.size_alloc]; show B + 1 ≤ wr.heap.size + 1; omega
                    have hblk := hown.block
                    have HIe := Lib.hid hIe
                    have HKe := Lib.hid hKe
                    have Hxi := Lib.hid hxi
                    have Hyk := Lib.hid hyk
                    have Hb := Lib.hid hb
                    have Hsn2 := Lib.hid hsn2
                    have Hstep := Lib.hid hstep
                    have Hown5 := Lib.hid hown5
                    have HmN := Lib.hid hmN
                    have Hnews := Lib.hid hnews
                    have Hone := Lib.hid hone
                    have Hfew := Lib.hid hfew
                    have HN5 := Lib.hid hN5
                    have Hblk := Lib.hid hblk
                    have Hrw := Lib.hid hrw
                    have Hmw := Lib.hid hmw
                    have HBr := Lib.hid hBr
                    have HPc := Lib.hid hPc
                    have Hxy := Lib.hid hxy
                    clear hIe hKe hxi hyk hb hsn2 hstep hown5 hmN hnews hone hfew hN5 hblk hrw hmw hBr hPc hxy
                    clear hown hm
                    go_wp2_with fail
                    go_quiet (fail)
                    have g1q := cell_mod (mod_drewN (fun _ => False) wr nq) (fun f => f) g1
                    have g3q := cell_mod (mod_drewN (fun _ => False) wr nq) (fun f => f) g3
                    go_wp2_with fail
                    go_quiet (fail)
                    go_wp2_with (at_builtin; refine wpList_app rfl (.tmp 106) (.tmp 108) 32 rfl (B + 1) 5 (.int .u8 0) 1 Tryz.underlying32 i32 rfl _ (pxL P W (y * W + x)) rfl (Hown5.out _) ⟨_, 0, none⟩ 1 1 [.int .u8 0] rfl rfl (Hnews.out _) Hone.out Hfew.out (by decide) (HN5.out _) ?_; intro v7 w7 ho7 hm7 hv7; obtain ⟨g7, cap7, hv7e⟩ := own_shape ho7; subst hv7e)
                    go_roundw
                    case rel => exact ⟨x + 1, by omega, by go_num, _, rfl, by rw [Hstep.out]; exact ho7.out, (HmN.out _).trans (hm7.out.mono (fun q _ hq => (Hblk.out q hq).1))⟩
                    case measure => simp [intOf] <;> omega
                · have u1 : decide ((0 : Int) ≤ I) = true := by simp <;> omega
                  have u2 : decide ((0 : Int) ≤ K) = true := by simp <;> omega
                  have u3 : decide (I < (sn : Int)) = true := by simp <;> omega
                  have u4 : decide (K < (sn : Int)) = false := by simp <;> omega
                  have hPc : P x y = L := by
                    rw [← HP.out]; unfold picP; rw [Hsn.out]; rw [if_neg (by omega)]
                  rw [hPc] at hstep
                  have hown5 : ∀ a, Own ((wr.drewN a).alloc (.cells #[.int .u8 L] 5)) (B + 1) 5 vv (pxL P W (y * W + x)) := fun a => (hown.mod (mod_drewN (fun _ => False) wr a) (fun _ _ f => f)).alloc _
                  have hmN : ∀ a, QZ.Mod (fun k => B + 1 ≤ k) wA ((wr.drewN a).alloc (.cells #[.int .u8 L] 5)) := fun a => (hm.trans (mod_drewN _ wr a)).alloc _
                  have hnews : ∀ a, ∀ j u, [Value.int .u8 L][j]? = some u → ((wr.drewN a).alloc (.cells #[.int .u8 L] 5)).cell? ((⟨(wr.drewN a).heap.size, 0, none⟩ : Addr).add j) = some u := by
                    intro a j u hu
                    rw [Addr.add_lit, Nat.zero_add, (Blk.new (wr.drewN a) [.int .u8 L] 5).cell]; exact hu
                  have hone : ∀ u ∈ [Value.int .u8 L], u.oneCell' = true := by intro u hu; rw [List.mem_singleton.1 hu]; rfl
                  have hfew : (pxL P W (y * W + x)).length + 1 ≤ 1000000 := by rw [pxL_len]; omega
                  have hN5 : ∀ a, B + 1 ≤ ((wr.drewN a).alloc (.cells #[.int .u8 L] 5)).heap.size := fun a => by rw [World.size_alloc]; show B + 1 ≤ wr.heap.size + 1; omega
                  have hblk := hown.block
                  have Hstep := Lib.hid hstep
                  have Hown5 := Lib.hid hown5
                  have HmN := Lib.hid hmN
                  have Hnews := Lib.hid hnews
                  have Hone := Lib.hid hone
                  have Hfew := Lib.hid hfew
                  have HN5 := Lib.hid hN5
                  have Hblk := Lib.hid hblk
                  have Hrw := Lib.hid hrw
                  have Hmw := Lib.hid hmw
                  have HBr := Lib.hid hBr
                  have HPc := Lib.hid hPc
                  have Hxy := Lib.hid hxy
                  clear hstep hown5 hmN hnews hone hfew hN5 hblk hrw hmw hBr hPc hxy
                  clear hown hm
                  go_wp2_with fail
                  go_quiet (fail)
                  go_wp2_with fail
                  go_quiet (fail)
                  go_wp2_with (at_builtin; refine wpList_app rfl (.tmp 106) (.tmp 108) 32 rfl (B + 1) 5 (.int .u8 0) 1 Tryz.underlying32 i32 rfl _ (pxL P W (y * W + x)) rfl (Hown5.out _) ⟨_, 0, none⟩ 1 1 [.int .u8 L] rfl rfl (Hnews.out _) Hone.out Hfew.out (by decide) (HN5.out _) ?_; intro v7 w7 ho7 hm7 hv7; obtain ⟨g7, cap7, hv7e⟩ := own_shape ho7; subst hv7e)
                  go_roundw
                  case rel => exact ⟨x + 1, by omega, by go_num, _, rfl, by rw [Hstep.out]; exact ho7.out, (HmN.out _).trans (hm7.out.mono (fun q _ hq => (Hblk.out q hq).1))⟩
                  case measure => simp [intOf] <;> omega
              · have u1 : decide ((0 : Int) ≤ I) = true := by simp <;> omega
                have u2 : decide ((0 : Int) ≤ K) = true := by simp <;> omega
                have u3 : decide (I < (sn : Int)) = false := by simp <;> omega
                have hPc : P x y = L := by
                  rw [← HP.out]; unfold picP; rw [Hsn.out]; rw [if_neg (by omega)]
                rw [hPc] at hstep
                have hown5 : ∀ a, Own ((wr.drewN a).alloc (.cells #[.int .u8 L] 5)) (B + 1) 5 vv (pxL P W (y * W + x)) := fun a => (hown.mod (mod_drewN (fun _ => False) wr a) (fun _ _ f => f)).alloc _
                have hmN : ∀ a, QZ.Mod (fun k => B + 1 ≤ k) wA ((wr.drewN a).alloc (.cells #[.int .u8 L] 5)) := fun a => (hm.trans (mod_drewN _ wr a)).alloc _
                have hnews : ∀ a, ∀ j u, [Value.int .u8 L][j]? = some u → ((wr.drewN a).alloc (.cells #[.int .u8 L] 5)).cell? ((⟨(wr.drewN a).heap.size, 0, none⟩ : Addr).add j) = some u := by
                  intro a j u hu
                  rw [Addr.add_lit, Nat.zero_add, (Blk.new (wr.drewN a) [.int .u8 L] 5).cell]; exact hu
                have hone : ∀ u ∈ [Value.int .u8 L], u.oneCell' = true := by intro u hu; rw [List.mem_singleton.1 hu]; rfl
                have hfew : (pxL P W (y * W + x)).length + 1 ≤ 1000000 := by rw [pxL_len]; omega
                have hN5 : ∀ a, B + 1 ≤ ((wr.drewN a).alloc (.cells #[.int .u8 L] 5)).heap.size := fun a => by rw [World.size_alloc]; show B + 1 ≤ wr.heap.size + 1; omega
                have hblk := hown.block
                have Hstep := Lib.hid hstep
                have Hown5 := Lib.hid hown5
                have HmN := Lib.hid hmN
                have Hnews := Lib.hid hnews
                have Hone := Lib.hid hone
                have Hfew := Lib.hid hfew
                have HN5 := Lib.hid hN5
                have Hblk := Lib.hid hblk
                have Hrw := Lib.hid hrw
                have Hmw := Lib.hid hmw
                have HBr := Lib.hid hBr
                have HPc := Lib.hid hPc
                have Hxy := Lib.hid hxy
                clear hstep hown5 hmN hnews hone hfew hN5 hblk hrw hmw hBr hPc hxy
                clear hown hm
                go_wp2_with fail
                go_quiet (fail)
                go_wp2_with fail
                go_quiet (fail)
                go_wp2_with (at_builtin; refine wpList_app rfl (.tmp 106) (.tmp 108) 32 rfl (B + 1) 5 (.int .u8 0) 1 Tryz.underlying32 i32 rfl _ (pxL P W (y * W + x)) rfl (Hown5.out _) ⟨_, 0, none⟩ 1 1 [.int .u8 L] rfl rfl (Hnews.out _) Hone.out Hfew.out (by decide) (HN5.out _) ?_; intro v7 w7 ho7 hm7 hv7; obtain ⟨g7, cap7, hv7e⟩ := own_shape ho7; subst hv7e)
                go_roundw
                case rel => exact ⟨x + 1, by omega, by go_num, _, rfl, by rw [Hstep.out]; exact ho7.out, (HmN.out _).trans (hm7.out.mono (fun q _ hq => (Hblk.out q hq).1))⟩
                case measure => simp [intOf] <;> omega
            · have u1 : decide ((0 : Int) ≤ I) = true := by simp <;> omega
              have u2 : decide ((0 : Int) ≤ K) = false := by simp <;> omega
              have hPc : P x y = L := by
                rw [← HP.out]; unfold picP; rw [Hsn.out]; rw [if_neg (by omega)]
              rw [hPc] at hstep
              have hown5 : ∀ a, Own ((wr.drewN a).alloc (.cells #[.int .u8 L] 5)) (B + 1) 5 vv (pxL P W (y * W + x)) := fun a => (hown.mod (mod_drewN (fun _ => False) wr a) (fun _ _ f => f)).alloc _
              have hmN : ∀ a, QZ.Mod (fun k => B + 1 ≤ k) wA ((wr.drewN a).alloc (.cells #[.int .u8 L] 5)) := fun a => (hm.trans (mod_drewN _ wr a)).alloc _
              have hnews : ∀ a, ∀ j u, [Value.int .u8 L][j]? = some u → ((wr.drewN a).alloc (.cells #[.int .u8 L] 5)).cell? ((⟨(wr.drewN a).heap.size, 0, none⟩ : Addr).add j) = some u := by
                intro a j u hu
                rw [Addr.add_lit, Nat.zero_add, (Blk.new (wr.drewN a) [.int .u8 L] 5).cell]; exact hu
              have hone : ∀ u ∈ [Value.int .u8 L], u.oneCell' = true := by intro u hu; rw [List.mem_singleton.1 hu]; rfl
              have hfew : (pxL P W (y * W + x)).length + 1 ≤ 1000000 := by rw [pxL_len]; omega
              have hN5 : ∀ a, B + 1 ≤ ((wr.drewN a).alloc (.cells #[.int .u8 L] 5)).heap.size := fun a => by rw [World.size_alloc]; show B + 1 ≤ wr.heap.size + 1; omega
              have hblk := hown.block
              have Hstep := Lib.hid hstep
              have Hown5 := Lib.hid hown5
              have HmN := Lib.hid hmN
              have Hnews := Lib.hid hnews
              have Hone := Lib.hid hone
              have Hfew := Lib.hid hfew
              have HN5 := Lib.hid hN5
              have Hblk := Lib.hid hblk
              have Hrw := Lib.hid hrw
              have Hmw := Lib.hid hmw
              have HBr := Lib.hid hBr
              have HPc := Lib.hid hPc
              have Hxy := Lib.hid hxy
              clear hstep hown5 hmN hnews hone hfew hN5 hblk hrw hmw hBr hPc hxy
              clear hown hm
              go_wp2_with fail
              go_quiet (fail)
              go_wp2_with fail
              go_quiet (fail)
              go_wp2_with (at_builtin; refine wpList_app rfl (.tmp 106) (.tmp 108) 32 rfl (B + 1) 5 (.int .u8 0) 1 Tryz.underlying32 i32 rfl _ (pxL P W (y * W + x)) rfl (Hown5.out _) ⟨_, 0, none⟩ 1 1 [.int .u8 L] rfl rfl (Hnews.out _) Hone.out Hfew.out (by decide) (HN5.out _) ?_; intro v7 w7 ho7 hm7 hv7; obtain ⟨g7, cap7, hv7e⟩ := own_shape ho7; subst hv7e)
              go_roundw
              case rel => exact ⟨x + 1, by omega, by go_num, _, rfl, by rw [Hstep.out]; exact ho7.out, (HmN.out _).trans (hm7.out.mono (fun q _ hq => (Hblk.out q hq).1))⟩
              case measure => simp [intOf] <;> omega
          · have u1 : decide ((0 : Int) ≤ I) = false := by simp <;> omega
            have hPc : P x y = L := by
              rw [← HP.out]; unfold picP; rw [Hsn.out]; rw [if_neg (by omega)]
            rw [hPc] at hstep
            have hown5 : ∀ a, Own ((wr.drewN a).alloc (.cells #[.int .u8 L] 5)) (B + 1) 5 vv (pxL P W (y * W + x)) := fun a => (hown.mod (mod_drewN (fun _ => False) wr a) (fun _ _ f => f)).alloc _
            have hmN : ∀ a, QZ.Mod (fun k => B + 1 ≤ k) wA ((wr.drewN a).alloc (.cells #[.int .u8 L] 5)) := fun a => (hm.trans (mod_drewN _ wr a)).alloc _
            have hnews : ∀ a, ∀ j u, [Value.int .u8 L][j]? = some u → ((wr.drewN a).alloc (.cells #[.int .u8 L] 5)).cell? ((⟨(wr.drewN a).heap.size, 0, none⟩ : Addr).add j) = some u := by
              intro a j u hu
              rw [Addr.add_lit, Nat.zero_add, (Blk.new (wr.drewN a) [.int .u8 L] 5).cell]; exact hu
            have hone : ∀ u ∈ [Value.int .u8 L], u.oneCell' = true := by intro u hu; rw [List.mem_singleton.1 hu]; rfl
            have hfew : (pxL P W (y * W + x)).length + 1 ≤ 1000000 := by rw [pxL_len]; omega
            have hN5 : ∀ a, B + 1 ≤ ((wr.drewN a).alloc (.cells #[.int .u8 L] 5)).heap.size := fun a => by rw [World.size_alloc]; show B + 1 ≤ wr.heap.size + 1; omega
            have hblk := hown.block
            have Hstep := Lib.hid hstep
            have Hown5 := Lib.hid hown5
            have HmN := Lib.hid hmN
            have Hnews := Lib.hid hnews
            have Hone := Lib.hid hone
            have Hfew := Lib.hid hfew
            have HN5 := Lib.hid hN5
            have Hblk := Lib.hid hblk
            have Hrw := Lib.hid hrw
            have Hmw := Lib.hid hmw
            have HBr := Lib.hid hBr
            have HPc := Lib.hid hPc
            have Hxy := Lib.hid hxy
            clear hstep hown5 hmN hnews hone hfew hN5 hblk hrw hmw hBr hPc hxy
            clear hown hm
            go_wp2_with fail
            go_quiet (fail)
            go_wp2_with fail
            go_quiet (fail)
            go_wp2_with (at_builtin; refine wpList_app rfl (.tmp 106) (.tmp 108) 32 rfl (B + 1) 5 (.int .u8 0) 1 Tryz.underlying32 i32 rfl _ (pxL P W (y * W + x)) rfl (Hown5.out _) ⟨_, 0, none⟩ 1 1 [.int .u8 L] rfl rfl (Hnews.out _) Hone.out Hfew.out (by decide) (HN5.out _) ?_; intro v7 w7 ho7 hm7 hv7; obtain ⟨g7, cap7, hv7e⟩ := own_shape ho7; subst hv7e)
            go_roundw
            case rel => exact ⟨x + 1, by omega, by go_num, _, rfl, by rw [Hstep.out]; exact ho7.out, (HmN.out _).trans (hm7.out.mono (fun q _ hq => (Hblk.out q hq).1))⟩
            case measure => simp [intOf] <;> omega
        · obtain rfl : W = x := by omega
          rw [show y * W + W = (y + 1) * W by rw [Nat.succ_mul]] at hown
          have Hown_1 := Lib.hid hown
          have Hm_1 := Lib.hid hm
          clear hown hm
          go_wp2_with fail
          go_roundw
          case rel => exact ⟨y + 1, by omega, by go_num, _, rfl, Hown_1.out, Hm_1.out⟩
          case measure => simp [intOf] <;> omega
    · obtain rfl : H = y := by omega
      have hpos : 0 < W := by omega
      have hpos2 : 0 < H := by omega
      have hpp := Nat.mul_pos hpos hpos2
      rw [Nat.mul_comm H W] at hown
      obtain ⟨g, cap', rfl, hg1, hg2, _, hc⟩ := hown.full (by rw [pxL_len]; exact hpp)
      rw [pxL_len]
      have Hown := Lib.hid hown
      have Hm := Lib.hid hm
      have Hc := Lib.hid hc
      have Hg1 := Lib.hid hg1
      have Hg2 := Lib.hid hg2
      clear hown hm hc hg1 hg2
      go_wp2_with fail
      go_ret3
      refine ⟨g, cap', rfl, fun x y hx hy => ?_, by have := Hg1.out; have := HBB.out; omega, Hg2.out, mod_end ((mod_from0 (mod_start _ _) Hw2.out).trans (Hm.out.mono (fun k _ hk => by have := HBB.out; omega)))⟩
      have e1 : (y * W + x) % W = x := by rw [Nat.add_comm, Nat.add_mul_mod_self_right, Nat.mod_eq_of_lt hx]
      have e2 : (y * W + x) / W = y := by rw [Nat.add_comm, Nat.add_mul_div_right _ _ (by omega), Nat.div_eq_of_lt hx, Nat.zero_add]
      rw [Hc.out _ _ (pxL_get P W (W * H) (y * W + x) (by rw [Nat.mul_comm W H]; exact row_lt hy hx)), e1, e2, ← HP.out]
end Go.Proofs.YtnpkihobbcglcaaGreatDoor
/- A picture is laid into a larger one. -/
open Go Go.RowKit
namespace Go.Proofs.YtnpkihobbcglcaaGreatDoor
open Go.QZ

/-- Bytes that were set one after the other: the first N of those that a list of places says. -/
def laidTo (base : Nat) (pl : Nat → Nat) (P : Nat → Nat) : Nat → Nat → Nat
  | 0, _ => base
  | i + 1, j => if j = pl i then P i else laidTo base pl P i j
theorem laidTo_hit (base : Nat) (pl P : Nat → Nat) (hinj : ∀ a b, pl a = pl b → a = b) : ∀ N i, i < N → laidTo base pl P N (pl i) = P i := by
  intro N
  induction N with
  | zero => intro i h; omega
  | succ N ih =>
    intro i h
    unfold laidTo
    by_cases e : pl i = pl N
    · rw [if_pos e, hinj _ _ e]
    · rw [if_neg e]
      have : i ≠ N := fun h => e (by rw [h])
      exact ih i (by omega)
theorem laidTo_set (base : Nat) (pl P : Nat → Nat) (M i : Nat) : ((List.range M).map fun j => Value.int .u8 (laidTo base pl P i j : Nat)).set (pl i) (.int .u8 (P i : Nat)) = (List.range M).map fun j => Value.int .u8 (laidTo base pl P (i + 1) j : Nat) := by
  apply List.ext_getElem (by simp)
  intro k h1 h2
  simp only [List.getElem_set, List.getElem_map, List.getElem_range]
  by_cases e : pl i = k
  · rw [if_pos e]; unfold laidTo; rw [if_pos e.symm]
  · rw [if_neg e]
    have : laidTo base pl P (i + 1) k = laidTo base pl P i k := by
      conv => lhs; unfold laidTo
      rw [if_neg (Ne.symm e)]
    rw [this]

/-- Bytes of a page are handed back: those of a part are the pixels of a picture. -/
def Page (w : World) (WW HH left top W H : Nat) (P : Nat → Nat → Nat) (e : Ending) (w' : World) : Prop :=
  ∃ G, e = .returned (.slice (some ⟨G, 0, none⟩) (WW * HH) (WW * HH)) ∧ (∃ px : Nat → Nat, (∀ j, j < WW * HH → w'.cell? ⟨G, j, none⟩ = some (.int .u8 (px j : Nat))) ∧ ∀ x y, x < W → y < H → px ((top + y) * WW + (left + x)) = P x y) ∧ w.heap.size ≤ G ∧ QZ.Mod (fun _ => False) w w'

set_option maxRecDepth 20000 in
set_option maxHeartbeats 1600000 in
theorem laid_c (w : World) (G cap W H WW HH left top L2 : Nat) (P : Nat → Nat → Nat) (hp : ∀ x y, x < W → y < H → w.cell? ⟨G, y * W + x, none⟩ = some (.int .u8 (P x y : Nat))) (hW : 1 ≤ W) (hW2 : W ≤ 240) (hH2 : H ≤ 240) (hl : left ≤ 15) (ht : top ≤ 15) (hWW : WW = W + left + 3) (hHH : HH = H + top + 2) (_hL : L2 < 256) :
    Calls Tryz.prog 24 #[.int .i64 WW, .int .i64 HH, .int .u8 L2, .slice (some ⟨G, 0, none⟩) (W * H) cap, .int .i64 left, .int .i64 top, .int .i64 W] w (Page w WW HH left top W H P) := by
  obtain ⟨M, hM⟩ : ∃ M, WW * HH = M := ⟨_, rfl⟩
  obtain ⟨N, hN⟩ : ∃ N, W * H = N := ⟨_, rfl⟩
  have hMl : M ≤ 66306 := by rw [← hM]; exact Nat.le_trans (Nat.mul_le_mul (show WW ≤ 258 by omega) (show HH ≤ 257 by omega)) (by decide)
  have hNl : N ≤ 57600 := by rw [← hN]; exact Nat.le_trans (Nat.mul_le_mul hW2 hH2) (by decide)
  have hMi : (WW : Int) * (HH : Int) = (M : Int) := by rw [← hM]; exact (Int.natCast_mul WW HH).symm
  have hmk := make_run (P := Tryz.prog) Tryz.underlying32 i32 rfl (M : Int) (M : Int) M M rfl rfl (Nat.le_refl _) (by omega) (by omega)
  have hZ := made_u8 w M
  rw [hN]
  have hpl : ∀ i, i < N → (top + i / W) * WW + (left + i % W) < M := fun i hi => by
    have h1 : i / W < H := Nat.div_lt_of_lt_mul (by rw [hN]; exact hi)
    have h2 : i % W < W := Nat.mod_lt _ hW
    rw [← hM, Nat.mul_comm WW HH]
    exact row_lt (by omega) (by omega)
  have hpx : ∀ i, i < N → w.cell? ⟨G, i, none⟩ = some (.int .u8 (P (i % W) (i / W) : Nat)) := fun i hi => by
    have h1 : i / W < H := Nat.div_lt_of_lt_mul (by rw [hN]; exact hi)
    have h2 : i % W < W := Nat.mod_lt _ hW
    have := hp _ _ h2 h1
    rwa [show i / W * W + i % W = i by rw [Nat.mul_comm]; exact Nat.div_add_mod i W] at this
  have Hp := Lib.hid hp
  have HM := Lib.hid hM
  have HN := Lib.hid hN
  have HZ := Lib.hid hZ
  have Hpl := Lib.hid hpl
  have Hpx := Lib.hid hpx
  have HWW := Lib.hid hWW
  have HHH := Lib.hid hHH
  clear hp hM hN hZ hpl hpx hWW hHH
  go_enter Tryz.func24, Tryz.ntmps24
  go_wp2_with fail
  clear hmk
  obtain ⟨Z, hZe⟩ : ∃ Z, w.heap.size = Z := ⟨_, rfl⟩
  rw [hZe] at HZ ⊢
  have hZf : Hid (Blk (w.alloc (zrow 5 (.int .u8 0) M)) Z ((List.range M).map fun j => Value.int .u8 ((if j < 0 then L2 else 0 : Nat) : Nat))) := by
    show Blk _ _ _
    have h := HZ.out
    have e : (List.range M).map (fun j => Value.int .u8 ((if j < 0 then L2 else 0 : Nat) : Nat)) = cellsN .u8 (List.replicate M 0) := by
      apply List.ext_getElem (by simp [cellsN])
      intro i h1 h2; simp [cellsN]
    rw [e]; exact h
  go_loopw [16] (fun a wr => ∃ i : Nat, i ≤ M ∧ a = .int .i64 i ∧ Blk wr Z ((List.range M).map fun j => Value.int .u8 ((if j < i then L2 else 0 : Nat) : Nat)) ∧ QZ.Mod (fun k => k = Z) w wr) (fun a _ => M - (intOf a).toNat)
  case atStart => exact ⟨0, by omega, rfl, hZf.out, (QZ.Mod.refl _ _).alloc _⟩
  case round =>
    obtain ⟨i, hi, rfl, hb, hm⟩ := hrel
    by_cases hlt : i < M
    · have hcell := hb.cell i
      rw [show ((List.range M).map fun j => Value.int .u8 ((if j < i then L2 else 0 : Nat) : Nat))[i]? = some (.int .u8 (0 : Nat)) by simp [hlt]] at hcell
      have hfr := hb.frozen i
      have hb2 := hb.set i (.int .u8 L2)
      have e : ((List.range M).map fun j => Value.int .u8 ((if j < i then L2 else 0 : Nat) : Nat)).set i (.int .u8 L2) = (List.range M).map fun j => Value.int .u8 ((if j < i + 1 then L2 else 0 : Nat) : Nat) := by
        apply List.ext_getElem (by simp)
        intro k h1 h2
        simp only [List.getElem_set, List.getElem_map, List.getElem_range]
        by_cases e : i = k
        · rw [if_pos e, if_pos (by omega)]
        · rw [if_neg e]
          by_cases c : k < i
          · rw [if_pos c, if_pos (by omega)]
          · rw [if_neg c, if_neg (by omega)]
      rw [e] at hb2
      have hm2 := hm.setCell (p := ⟨Z, i, none⟩) (.inr rfl) (.int .u8 L2)
      have Hb2 := Lib.hid hb2
      have Hm2 := Lib.hid hm2
      clear hb2 hm2
      clear hb hm e
      go_wp2_with fail
      go_roundw
      case rel => exact ⟨i + 1, by omega, by go_num, Hb2.out, Hm2.out⟩
      case measure => simp [intOf] <;> omega
    · obtain rfl : M = i := by omega
      have hb0 : Blk wr Z ((List.range M).map fun j => Value.int .u8 (laidTo L2 (fun i => (top + i / W) * WW + (left + i % W)) (fun i => P (i % W) (i / W)) 0 j : Nat)) := by
        have e : (List.range M).map (fun j => Value.int .u8 ((if j < M then L2 else 0 : Nat) : Nat)) = (List.range M).map fun j => Value.int .u8 (laidTo L2 (fun i => (top + i / W) * WW + (left + i % W)) (fun i => P (i % W) (i / W)) 0 j : Nat) := by
          apply List.map_congr_left
          intro j hj
          rw [if_pos (List.mem_range.1 hj)]; rfl
        rw [← e]; exact hb
      obtain ⟨pl, hple⟩ : ∃ pl, (fun i => (top + i / W) * WW + (left + i % W)) = pl := ⟨_, rfl⟩
      rw [hple] at hb0
      have Hb := Lib.hid hb
      have Hm := Lib.hid hm
      have Hb0 := Lib.hid hb0
      have Hple := Lib.hid hple
      clear hb hm hb0 hple
      go_wp2_with fail
      go_loopw [17] (fun a wr => ∃ i : Nat, i ≤ N ∧ a = .int .i64 i ∧ Blk wr Z ((List.range M).map fun j => Value.int .u8 (laidTo L2 pl (fun i => P (i % W) (i / W)) i j : Nat)) ∧ QZ.Mod (fun k => k = Z) w wr) (fun a _ => N - (intOf a).toNat)
      case atStart => exact ⟨0, by omega, rfl, Hb0.out, Hm.out⟩
      case round =>
        obtain ⟨i, hi, rfl, hb, hm⟩ := hrel
        by_cases hlt2 : i < N
        · have hq := Hpl.out i hlt2
          have hqe : (top + i / W) * WW + (left + i % W) = pl i := by rw [← Hple.out]
          rw [hqe] at hq
          have hcG := cell_mod hm (show ¬ G = Z by have := cell_lt (Hpx.out i hlt2); omega) (Hpx.out i hlt2)
          have hcell := hb.cell (pl i)
          rw [show ((List.range M).map fun j => Value.int .u8 (laidTo L2 pl (fun i => P (i % W) (i / W)) i j : Nat))[pl i]? = some (.int .u8 (laidTo L2 pl (fun i => P (i % W) (i / W)) i (pl i) : Nat)) by simp [hq]] at hcell
          have hfr := hb.frozen (pl i)
          have hb2 := fun n => (blk_drewN hb n).set (pl i) (.int .u8 (P (i % W) (i / W) : Nat))
          rw [laidTo_set L2 pl (fun i => P (i % W) (i / W)) M i] at hb2
          have hm2 := fun n => (Mod.drewN' hm n).setCell (p := ⟨Z, pl i, none⟩) (.inr rfl) (.int .u8 (P (i % W) (i / W) : Nat))
          generalize laidTo L2 pl (fun i => P (i % W) (i / W)) i (pl i) = old at *
          generalize P (i % W) (i / W) = gr at *
          obtain ⟨q, hqq⟩ : ∃ q, pl i = q := ⟨_, rfl⟩
          rw [hqq] at hq hqe hcell hfr hb2 hm2
          obtain ⟨iy, hiy⟩ : ∃ iy, i / W = iy := ⟨_, rfl⟩
          obtain ⟨ix, hix⟩ : ∃ ix, i % W = ix := ⟨_, rfl⟩
          rw [hiy, hix] at hqe
          obtain ⟨pr, hpr⟩ : ∃ pr, (top + iy) * WW = pr := ⟨_, rfl⟩
          rw [hpr] at hqe
          have d1 : (i : Int) / (W : Int) = (iy : Int) := by rw [← hiy]; exact (Int.natCast_ediv i W).symm
          have d2 : (i : Int) % (W : Int) = (ix : Int) := by rw [← hix]; exact (Int.natCast_emod i W).symm
          have d3 : ((top : Int) + (iy : Int)) * (WW : Int) = (pr : Int) := by rw [← hpr, Int.natCast_mul, Int.natCast_add]
          have d4 : (pr : Int) + (left : Int) + (ix : Int) = (q : Int) := by omega
          have d6 : Int.tdiv (i : Int) (W : Int) = (iy : Int) := by rw [← hiy]; rfl
          have d7 : Int.tmod (i : Int) (W : Int) = (ix : Int) := by rw [← hix]; rfl
          have hiyl : iy ≤ 60000 := by rw [← hiy]; exact Nat.le_trans (Nat.div_le_self i W) (by omega)
          have hprl : pr ≤ 70000 := by omega
          have d5 : pr + left + ix = q := by omega
          obtain ⟨s1, hs1⟩ : ∃ s1, top + iy = s1 := ⟨_, rfl⟩
          obtain ⟨s2, hs2⟩ : ∃ s2, pr + left = s2 := ⟨_, rfl⟩
          have w1 : IntKind.i64.wrap (iy : Int) = (iy : Int) := IntWalk.i64_in _ (by omega)
          have w2 : IntKind.i64.wrap ((top : Int) + (iy : Int)) = (s1 : Int) := by rw [show (top : Int) + (iy : Int) = (s1 : Int) by omega]; exact IntWalk.i64_in _ (by omega)
          have w3 : IntKind.i64.wrap ((s1 : Int) * (WW : Int)) = (pr : Int) := by rw [← hs1, Int.natCast_add, d3]; exact IntWalk.i64_in _ (by omega)
          have w4 : IntKind.i64.wrap ((pr : Int) + (left : Int)) = (s2 : Int) := by rw [show (pr : Int) + (left : Int) = (s2 : Int) by omega]; exact IntWalk.i64_in _ (by omega)
          have w5 : IntKind.i64.wrap (ix : Int) = (ix : Int) := IntWalk.i64_in _ (by omega)
          have w6 : IntKind.i64.wrap ((s2 : Int) + (ix : Int)) = (q : Int) := by rw [show (s2 : Int) + (ix : Int) = (q : Int) by omega]; exact IntWalk.i64_in _ (by omega)
          clear d1 d2 d3 d4 d5
          have Hs1 := Lib.hid hs1
          have Hs2 := Lib.hid hs2
          have Hpr := Lib.hid hpr
          clear hs1 hs2 hpr
          have Hb2 := Lib.hid hb2
          have Hm2 := Lib.hid hm2
          have Hqe := Lib.hid hqe
          have Hqq := Lib.hid hqq
          clear hb2 hm2 hqe hqq
          clear hb hm
          go_wp2_with fail
          go_region_with (fail)
          all_goals (
            go_wp2_with fail
            go_roundw
            case rel => exact ⟨i + 1, by omega, by go_num, Hb2.out _, Hm2.out _⟩
            case measure => simp [intOf] <;> omega)
        · obtain rfl : N = i := by omega
          have Hb_1 := Lib.hid hb
          have Hm_1 := Lib.hid hm
          clear hb hm
          go_wp2_with fail
          go_ret
          have hME := HM.out
          subst hME
          refine ⟨Z, rfl, ⟨_, fun j hj => by rw [Hb_1.out.cell]; simp [hj]; rfl, fun x y hx hy => ?_⟩, by omega, mod_end (Hm_1.out.mono (fun k _ e => by omega))⟩
          have hin : y * W + x < N := by rw [← HN.out, Nat.mul_comm W H]; exact row_lt hy hx
          have e1 : (y * W + x) % W = x := by rw [Nat.add_comm, Nat.add_mul_mod_self_right, Nat.mod_eq_of_lt hx]
          have e2 : (y * W + x) / W = y := by rw [Nat.add_comm, Nat.add_mul_div_right _ _ (by omega), Nat.div_eq_of_lt hx, Nat.zero_add]
          have hp2 : (top + y) * WW + (left + x) = pl (y * W + x) := by rw [← Hple.out]; simp only [e1, e2]
          rw [hp2, laidTo_hit L2 pl _ ?_ N (y * W + x) hin]
          · simp only [e1, e2]
          · intro a b hab
            rw [← Hple.out] at hab
            simp only at hab
            have ha : a % W < W := Nat.mod_lt _ hW
            have hb : b % W < W := Nat.mod_lt _ hW
            have := row_inj (rs := WW) (a := left + a % W) (b := left + b % W) (by have := HWW.out; omega) (by have := HWW.out; omega) (by simpa using hab)
            have h1 : a / W = b / W := by omega
            have h2 : a % W = b % W := by omega
            rw [← Nat.div_add_mod a W, ← Nat.div_add_mod b W, h1, h2]
end Go.Proofs.YtnpkihobbcglcaaGreatDoor
