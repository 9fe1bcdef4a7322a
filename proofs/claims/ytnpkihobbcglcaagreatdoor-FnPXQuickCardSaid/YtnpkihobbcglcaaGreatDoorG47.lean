/- Part 47 of the proof of FnPXQuick (a QR code that is written for a text says this text in a picture): parts of the road. No condition. -/
import Derived.Deep.RegionLaw
import Derived.Laws.CopyOwn
import Derived.Test.YtnpkihobbcglcaaGreatDoorG46
/- A source of a picture's grays. -/
open Go Go.RowKit
namespace Go.Proofs.YtnpkihobbcglcaaGreatDoor
open Go.QZ

/-- The source at block p: a part of W by H of the bytes at G. -/
def YUV (w : World) (p W H G N cap dw dh l t : Nat) : Prop := Blk w p [.int .i64 W, .int .i64 H, .slice (some ⟨G, 0, none⟩) N cap, .int .i64 dw, .int .i64 dh, .int .i64 l, .int .i64 t]

theorem fits_c (w : World) (W H N : Nat) (hW : 1 ≤ W) (hH : 1 ≤ H) (hW2 : W ≤ 300) (hH2 : H ≤ 300) (hN : W * H = N) : Calls Tryz.prog 110 #[.int .i64 W, .int .i64 H, .int .i64 N] w fun e w' => e = .returned (.bool true) ∧ w = w' := by
  have hNl : N ≤ 90000 := by rw [← hN]; exact Nat.le_trans (Nat.mul_le_mul hW2 hH2) (by decide)
  have d1 : N / W = H := by rw [← hN, Nat.mul_div_cancel_left _ (by omega)]
  have d2 : N % W = 0 := by rw [← hN, Nat.mul_mod_right]
  have d3 : Int.tdiv (N : Int) (W : Int) = (H : Int) := by rw [← d1]; rfl
  have d4 : Int.tmod (N : Int) (W : Int) = 0 := by
    have : Int.tmod (N : Int) (W : Int) = ((N % W : Nat) : Int) := rfl
    rw [this, d2]; rfl
  have d5 : (N : Int) / (W : Int) = (H : Int) := by rw [← d1]; exact (Int.natCast_ediv N W).symm
  have d6 : (N : Int) % (W : Int) = 0 := by
    have : (N : Int) % (W : Int) = ((N % W : Nat) : Int) := (Int.natCast_emod N W).symm
    rw [this, d2]; rfl
  have t1 : decide (0 < (W : Int)) = true := by simp <;> omega
  have t2 : decide (0 < (H : Int)) = true := by simp <;> omega
  have HN := Lib.hid hN
  clear hN
  go_enter Tryz.func110, Tryz.ntmps110
  go_wp2
  go_ret
  exact ⟨by first | rfl | simp [*], rfl⟩

theorem newYUV_c (w : World) (G N cap dw dh l t W H : Nat) (h1 : l + W ≤ dw) (h2 : t + H ≤ dh) (h3 : dw ≤ 1000) (h4 : dh ≤ 1000) :
    Calls Tryz.prog 111 #[.slice (some ⟨G, 0, none⟩) N cap, .int .i64 dw, .int .i64 dh, .int .i64 l, .int .i64 t, .int .i64 W, .int .i64 H, .bool false] w fun e w' => e = .returned (.tuple #[.iface 226 (.pointer (some ⟨w.heap.size, 0, none⟩)), .nilIface]) ∧ YUV w' w.heap.size W H G N cap dw dh l t ∧ QZ.Mod (fun _ => False) w w' := by
  have t1 : decide ((dw : Int) < (l : Int) + (W : Int)) = false := by simp <;> omega
  have t2 : decide ((dh : Int) < (t : Int) + (H : Int)) = false := by simp <;> omega
  have hnew := Lib.hid (fun ty => Blk.new w [.int .i64 W, .int .i64 H, .slice (some ⟨G, 0, none⟩) N cap, .int .i64 dw, .int .i64 dh, .int .i64 l, .int .i64 t] ty)
  go_enter Tryz.func111, Tryz.ntmps111
  go_wp2
  go_ret2
  exact ⟨rfl, hnew.out _, (QZ.Mod.refl _ _).alloc _⟩

/-- A new source is handed back. -/
def NewSource (w : World) (W H : Nat) (px : Nat → Nat) (e : Ending) (w' : World) : Prop :=
  ∃ p G cap, e = .returned (.tuple #[.iface 226 (.pointer (some ⟨p, 0, none⟩)), .bool true]) ∧ YUV w' p W H G (W * H) cap W H 0 0 ∧ (∀ j, j < W * H → w'.cell? ⟨G, j, none⟩ = some (.int .u8 (px j : Nat))) ∧ W * H ≤ cap ∧ w.heap.size ≤ p ∧ w.heap.size ≤ G ∧ QZ.Mod (fun _ => False) w w'

def bytesL (px : Nat → Nat) (N : Nat) : List Value := (List.range N).map fun j => .int .u8 (px j : Nat)
theorem bytesL_len (px : Nat → Nat) (N : Nat) : (bytesL px N).length = N := by simp [bytesL]
theorem bytesL_get (px : Nat → Nat) (N j : Nat) (h : j < N) : (bytesL px N)[j]? = some (.int .u8 (px j : Nat)) := by simp [bytesL, h]
theorem bytesL_one (px : Nat → Nat) (N : Nat) : ∀ u ∈ bytesL px N, u.oneCell' = true := by
  intro u hu
  obtain ⟨j, _, rfl⟩ := List.mem_map.1 hu
  rfl
theorem bytesL_news (w : World) (G N : Nat) (px : Nat → Nat) (h : ∀ j, j < N → w.cell? ⟨G, j, none⟩ = some (.int .u8 (px j : Nat))) : ∀ j u, (bytesL px N)[j]? = some u → w.cell? ((⟨G, 0, none⟩ : Addr).add j) = some u := by
  intro j u hu
  have hj : j < N := by
    rcases Nat.lt_or_ge j N with h | h
    · exact h
    · rw [List.getElem?_eq_none (by rw [bytesL_len]; exact h)] at hu; cases hu
  rw [bytesL_get _ _ _ hj] at hu
  rw [Addr.add_lit, Nat.zero_add, h j hj]; exact hu

set_option maxHeartbeats 800000 in
theorem source_c (w : World) (W H G cap : Nat) (px : Nat → Nat) (hp : ∀ j, j < W * H → w.cell? ⟨G, j, none⟩ = some (.int .u8 (px j : Nat))) (hW : 1 ≤ W) (hH : 1 ≤ H) (hW2 : W ≤ 300) (hH2 : H ≤ 300) :
    Calls Tryz.prog 64 #[.int .i64 W, .int .i64 H, .slice (some ⟨G, 0, none⟩) (W * H) cap, .bool false] w (NewSource w W H px) := by
  obtain ⟨N, hN⟩ : ∃ N, W * H = N := ⟨_, rfl⟩
  rw [hN] at hp ⊢
  have hNl : N ≤ 90000 := by rw [← hN]; exact Nat.le_trans (Nat.mul_le_mul hW2 hH2) (by decide)
  have hN0 : 0 < N := by rw [← hN]; exact Nat.mul_pos hW hH
  have ho := Own.start w w.heap.size 5
  have hnews := bytesL_news w G N px hp
  have hone := bytesL_one px N
  have hll := bytesL_len px N
  have Hp := Lib.hid hp
  have HN := Lib.hid hN
  have Ho := Lib.hid ho
  have Hnews := Lib.hid hnews
  have Hone := Lib.hid hone
  have Hll := Lib.hid hll
  clear hp hN ho hnews hone hll
  go_enter Tryz.func64, Tryz.ntmps64
  go_wp2_with fail
  refine (fits_c w W H N hW hH hW2 hH2 HN.out).mono ?_
  rintro e w1 ⟨rfl, rfl⟩
  go_wp2_with (at_builtin; refine wpList_app rfl (.const (.slice none 0 0)) (.tmp 19) 32 rfl w.heap.size 5 (.int .u8 0) 1 Tryz.underlying32 i32 rfl _ [] rfl Ho.out ⟨G, 0, none⟩ cap N (bytesL px N) rfl Hll.out Hnews.out Hone.out (by simp; omega) (by decide) (Nat.le_refl _) ?_; intro v7 w7 ho7 hm7 hv7; obtain ⟨g7, cap7, hv7e, hg7, hg8, hc7, hx7⟩ := Own.full ho7.out (by rw [List.nil_append, Hll.out]; exact hN0); subst hv7e)
  rw [Hll.out]
  refine (newYUV_c w7 g7 N cap7 W H 0 0 W H (by omega) (by omega) (by omega) (by omega)).mono ?_
  rintro e w8 ⟨rfl, hy, hm8⟩
  have hpx : ∀ j, j < N → w8.cell? ⟨g7, j, none⟩ = some (.int .u8 (px j : Nat)) := fun j hj => cell_mod hm8 (fun f => f) (hx7 j _ (by rw [List.nil_append]; exact bytesL_get _ _ _ hj))
  have hs7 := hm7.out.size
  have hc7' : N ≤ cap7 := by rw [List.nil_append, Hll.out] at hc7; exact hc7
  have hM : QZ.Mod (fun _ => False) w w8 := mod_end ((hm7.out.mono (fun k _ hk => absurd (show (Value.slice none 0 0).ownBlock = some k from hk) (by simp [Value.ownBlock]))).trans hm8.none)
  have Hy := Lib.hid hy
  have Hpx := Lib.hid hpx
  have HM := Lib.hid hM
  clear hy hpx hM
  clear hm8 hx7
  go_wp2_with fail
  go_quiet (fail)
  go_wp2_with fail
  go_ret2
  have hNE := HN.out
  subst hNE
  exact ⟨w7.heap.size, g7, cap7, rfl, ⟨Hy.out.choose, (Hy.out.choose_spec)⟩, Hpx.out, hc7', hs7, hg7, HM.out.trans (mod_drewN _ _ _)⟩

set_option maxRecDepth 20000 in
set_option maxHeartbeats 800000 in
theorem srcCrop_c (w : World) (p G N cap dw dh l t W H : Nat) (hy : YUV w p dw dh G N cap dw dh 0 0) (h1 : l + W ≤ dw) (h2 : t + H ≤ dh) (h3 : dw ≤ 1000) (h4 : dh ≤ 1000) :
    Calls Tryz.prog 304 #[.pointer (some ⟨p, 0, none⟩), .int .i64 l, .int .i64 t, .int .i64 W, .int .i64 H] w fun e w' => e = .returned (.tuple #[.iface 226 (.pointer (some ⟨w.heap.size, 0, none⟩)), .nilIface]) ∧ YUV w' w.heap.size W H G N cap dw dh l t ∧ QZ.Mod (fun _ => False) w w' := by
  have c2 : w.cell? ⟨p, 2, none⟩ = some (.slice (some ⟨G, 0, none⟩) N cap) := hy.at 2 rfl
  have c3 : w.cell? ⟨p, 3, none⟩ = some (.int .i64 dw) := hy.at 3 rfl
  have c4 : w.cell? ⟨p, 4, none⟩ = some (.int .i64 dh) := hy.at 4 rfl
  have c5 : w.cell? ⟨p, 5, none⟩ = some (.int .i64 0) := hy.at 5 rfl
  have c6 : w.cell? ⟨p, 6, none⟩ = some (.int .i64 0) := hy.at 6 rfl
  have w1 : IntKind.i64.wrap (l : Int) = (l : Int) := IntWalk.i64_in _ (by omega)
  have w2 : IntKind.i64.wrap (t : Int) = (t : Int) := IntWalk.i64_in _ (by omega)
  have w3 : IntKind.i64.wrap (0 + (l : Int)) = (l : Int) := by rw [Int.zero_add]; exact w1
  have w4 : IntKind.i64.wrap (0 + (t : Int)) = (t : Int) := by rw [Int.zero_add]; exact w2
  have hall := And.intro c2 (And.intro c3 (And.intro c4 (And.intro c5 c6)))
  have Hy := Lib.hid hy
  clear hy
  go_enter Tryz.func304, Tryz.ntmps304
  go_wp2_with fail
  go_region_held3 (fun w' => w'.cell? ⟨p, 2, none⟩ = some (.slice (some ⟨G, 0, none⟩) N cap) ∧ w'.cell? ⟨p, 3, none⟩ = some (.int .i64 dw) ∧ w'.cell? ⟨p, 4, none⟩ = some (.int .i64 dh) ∧ w'.cell? ⟨p, 5, none⟩ = some (.int .i64 0) ∧ w'.cell? ⟨p, 6, none⟩ = some (.int .i64 0)) (first | exact hall | exact hs5) (first | (go_at_call 111; refine (newYUV_c _ G N cap dw dh l t W H h1 h2 h3 h4).mono ?_; rintro e w5 ⟨rfl, hy5, hm5⟩; have hs5 := And.intro (cell_mod hm5 (fun f => f) c2) (And.intro (cell_mod hm5 (fun f => f) c3) (And.intro (cell_mod hm5 (fun f => f) c4) (And.intro (cell_mod hm5 (fun f => f) c5) (cell_mod hm5 (fun f => f) c6))))))
  go_wp2_with fail
  go_ret2
  exact ⟨rfl, hy5, (QZ.Mod.refl _ _).drew.trans hm5⟩

theorem meth_crop (w : World) (p : Addr) : (method 510 226 (.pointer (some p)) "Crop").run Tryz.prog w = .ok (304, .pointer (some p)) w := by kernel_rfl
theorem cf_crop (w : World) (a b c d e : Value) : (callFunc 304 #[a, b, c, d, e]).run Tryz.prog w = .ok (.enter 304 #[a, b, c, d, e]) w := by kernel_rfl
theorem meth_getMatrix (w : World) (p : Addr) : (method 510 226 (.pointer (some p)) "GetMatrix").run Tryz.prog w = .ok (306, .pointer (some p)) w := by kernel_rfl
theorem cf_getMatrix (w : World) (a : Value) : (callFunc 306 #[a]).run Tryz.prog w = .ok (.enter 306 #[a]) w := by kernel_rfl
/-- The rows of a part that are copied already. -/
def matTo (P : Nat → Nat → Nat) (W M y : Nat) : List Value := (List.range M).map fun j => .int .u8 ((if j < y * W then P (j % W) (j / W) else 0 : Nat) : Nat)
theorem matTo_len (P : Nat → Nat → Nat) (W M y : Nat) : (matTo P W M y).length = M := by simp [matTo]
theorem matTo_zero (P : Nat → Nat → Nat) (W M : Nat) : matTo P W M 0 = cellsN .u8 (List.replicate M 0) := by
  apply List.ext_getElem (by simp [matTo, cellsN])
  intro i h1 h2; simp [matTo, cellsN]
def rowV (P : Nat → Nat → Nat) (W y : Nat) : List Value := (List.range W).map fun x => .int .u8 (P x y : Nat)
theorem rowV_len (P : Nat → Nat → Nat) (W y : Nat) : (rowV P W y).length = W := by simp [rowV]
theorem matTo_get (P : Nat → Nat → Nat) (W M y i : Nat) (h : i < M) : (matTo P W M y)[i]? = some (.int .u8 ((if i < y * W then P (i % W) (i / W) else 0 : Nat) : Nat)) := by simp [matTo, h]
theorem rowV_get (P : Nat → Nat → Nat) (W y x : Nat) (h : x < W) : (rowV P W y)[x]? = some (.int .u8 (P x y : Nat)) := by simp [rowV, h]
theorem matTo_step (P : Nat → Nat → Nat) (W M y : Nat) (h : y * W + W ≤ M) : splice (matTo P W M y) (y * W) (rowV P W y) = matTo P W M (y + 1) := by
  have hl := matTo_len P W M y
  have hr := rowV_len P W y
  have hs : (y + 1) * W = y * W + W := Nat.succ_mul y W
  have ht : (List.take (y * W) (matTo P W M y)).length = y * W := by rw [List.length_take, hl]; omega
  apply List.ext_getElem?
  intro i
  unfold splice
  by_cases hi : i < M
  · rw [matTo_get _ _ _ _ _ hi]
    by_cases c1 : i < y * W
    · rw [List.getElem?_append_left (by rw [ht]; exact c1), List.getElem?_take_of_lt c1, matTo_get _ _ _ _ _ hi, if_pos c1, if_pos (by omega)]
    · rw [List.getElem?_append_right (by rw [ht]; omega), ht]
      by_cases c2 : i < y * W + W
      · have ex : i = y * W + (i - y * W) := by omega
        have hx : i - y * W < W := by omega
        have e3 : i % W = i - y * W := by
          conv => lhs; rw [ex]
          rw [Nat.add_comm, Nat.add_mul_mod_self_right, Nat.mod_eq_of_lt hx]
        have e4 : i / W = y := by
          conv => lhs; rw [ex]
          rw [Nat.add_comm, Nat.add_mul_div_right _ _ (by omega), Nat.div_eq_of_lt hx, Nat.zero_add]
        rw [List.getElem?_append_left (by rw [hr]; exact hx), rowV_get _ _ _ _ hx, if_pos (by omega), e3, e4]
      · rw [List.getElem?_append_right (by rw [hr]; omega), List.getElem?_drop, hr, show y * W + W + (i - y * W - W) = i by omega, matTo_get _ _ _ _ _ hi, if_neg c1, if_neg (by omega)]
  · have e1 := length_splice (matTo P W M y) (y * W) (rowV P W y) (by rw [hl, hr]; exact h)
    unfold splice at e1
    rw [List.getElem?_eq_none (by rw [e1, hl]; omega), List.getElem?_eq_none (by rw [matTo_len]; omega)]

end Go.Proofs.YtnpkihobbcglcaaGreatDoor
/- A part of a picture's bytes. -/
open Go Go.RowKit
namespace Go.Proofs.YtnpkihobbcglcaaGreatDoor
open Go.QZ

/-- The rows of a part, in a new slice. -/
def Matrix (w : World) (W H : Nat) (P : Nat → Nat → Nat) (e : Ending) (w' : World) : Prop :=
  ∃ Z, e = .returned (.slice (some ⟨Z, 0, none⟩) (W * H) (W * H)) ∧ (∀ x y, x < W → y < H → w'.cell? ⟨Z, y * W + x, none⟩ = some (.int .u8 (P x y : Nat))) ∧ w.heap.size ≤ Z ∧ QZ.Mod (fun _ => False) w w'

theorem sz5' : (Tryz.prog.info? 5).map (·.size) = some 1 := by kernel_rfl

set_option maxRecDepth 20000 in
set_option maxHeartbeats 1600000 in
theorem getPart_c (w : World) (p G N cap dw dh l t W H : Nat) (px : Nat → Nat) (P : Nat → Nat → Nat) (hy : YUV w p W H G N cap dw dh l t) (hp : ∀ j, j < N → w.cell? ⟨G, j, none⟩ = some (.int .u8 (px j : Nat))) (hP : ∀ x y, x < W → y < H → px ((t + y) * dw + (l + x)) = P x y) (hN : dw * dh = N) (hcap : N ≤ cap) (hW : 1 ≤ W) (hH : 1 ≤ H) (h1 : W + l < dw) (h2 : H + t < dh) (h3 : dw ≤ 300) (h4 : dh ≤ 300) :
    Calls Tryz.prog 306 #[.pointer (some ⟨p, 0, none⟩)] w (Matrix w W H P) := by
  have c0 : w.cell? ⟨p, 0, none⟩ = some (.int .i64 W) := hy.at 0 rfl
  have c0b : w.cell? ⟨p, 0 + 1, none⟩ = some (.int .i64 H) := hy.at 1 rfl
  have c2 : w.cell? ⟨p, 2, none⟩ = some (.slice (some ⟨G, 0, none⟩) N cap) := hy.at 2 rfl
  have c3 : w.cell? ⟨p, 3, none⟩ = some (.int .i64 dw) := hy.at 3 rfl
  have c5 : w.cell? ⟨p, 5, none⟩ = some (.int .i64 l) := hy.at 5 rfl
  have c6 : w.cell? ⟨p, 6, none⟩ = some (.int .i64 t) := hy.at 6 rfl
  have tw : ((W : Int) == (dw : Int)) = false := by simp <;> omega
  have tw2 : decide ((W : Int) = (dw : Int)) = false := by simp <;> omega
  obtain ⟨M, hM⟩ : ∃ M, W * H = M := ⟨_, rfl⟩
  have hMl : M ≤ 90000 := by rw [← hM]; exact Nat.le_trans (Nat.mul_le_mul (show W ≤ 300 by omega) (show H ≤ 300 by omega)) (by decide)
  have hNl : N ≤ 90000 := by rw [← hN]; exact Nat.le_trans (Nat.mul_le_mul h3 h4) (by decide)
  have hMi : (W : Int) * (H : Int) = (M : Int) := by rw [← hM]; exact (Int.natCast_mul W H).symm
  obtain ⟨pr, hpr⟩ : ∃ pr, t * dw = pr := ⟨_, rfl⟩
  have hpri : (t : Int) * (dw : Int) = (pr : Int) := by rw [← hpr]; exact (Int.natCast_mul t dw).symm
  have hprl : pr ≤ 90000 := by rw [← hpr]; exact Nat.le_trans (Nat.mul_le_mul (show t ≤ 300 by omega) h3) (by decide)
  have hmk := make_run (P := Tryz.prog) Tryz.underlying32 i32 rfl (M : Int) (M : Int) M M rfl rfl (Nat.le_refl _) (by omega) (by omega)
  have Hy := Lib.hid hy
  have Hp := Lib.hid hp
  have HP := Lib.hid hP
  have HN := Lib.hid hN
  have HM := Lib.hid hM
  have Hpr := Lib.hid hpr
  clear hy hp hP hN hM hpr
  go_enter Tryz.func306, Tryz.ntmps306
  go_wp2_with fail
  refine (LuminanceSourceBase_GetWidth_c w p 0 _ c0).mono ?_
  rintro e w1 ⟨rfl, rfl⟩
  go_wp2_with fail
  refine (LuminanceSourceBase_GetHeight_c w p 0 _ c0b).mono ?_
  rintro e w1 ⟨rfl, rfl⟩
  go_wp2_with fail
  clear hmk
  obtain ⟨Z, hZe⟩ : ∃ Z, w.heap.size = Z := ⟨_, rfl⟩
  rw [hZe]
  have hA := (QZ.Mod.refl (fun _ => False) w).alloc (zrow 5 (.int .u8 0) M)
  have hbA : Below Z w (w.alloc (zrow 5 (.int .u8 0) M)) := (Below.refl Z w).alloc (by omega) _
  have hZ0 : (w.alloc (zrow 5 (.int .u8 0) M)).heap[Z]? = some (.cells (matTo P W M 0).toArray 5 (0, 0)) := by
    rw [← hZe, heap_alloc_new]
    congr 2
    rw [matTo_zero]; unfold zrow; congr 2
    exact cellsN_rep .u8 M 0
  have d3 := cell_mod hA (fun f => f) c3
  have d5 := cell_mod hA (fun f => f) c5
  have d6 := cell_mod hA (fun f => f) c6
  have d2 := cell_mod hA (fun f => f) c2
  have HA := Lib.hid hA
  have HbA := Lib.hid hbA
  have HZ0 := Lib.hid hZ0
  clear hA hbA hZ0
  clear c0 c0b c2 c3 c5 c6
  go_quiet (fail)
  go_wp2_with fail
  have hbD : Below Z w ((w.alloc (zrow 5 (.int .u8 0) M)).drewN nq) := ⟨HbA.out.os, HbA.out.tape, HbA.out.output, HbA.out.size, HbA.out.block⟩
  have hZD : ((w.alloc (zrow 5 (.int .u8 0) M)).drewN nq).heap[Z]? = some (.cells (matTo P W M 0).toArray 5 (0, 0)) := HZ0.out
  clear d2 d3 d5 d6
  generalize (w.alloc (zrow 5 (.int .u8 0) M)).drewN nq = wA at *
  have HbD := Lib.hid hbD
  have HZD := Lib.hid hZD
  clear hbD hZD
  go_loopw [8, 9, 7] (fun a _ c wr => ∃ y i : Nat, y ≤ H ∧ a = .int .i64 y ∧ c = .int .i64 i ∧ i = (t + y) * dw + l ∧ wr.heap[Z]? = some (.cells (matTo P W M y).toArray 5 (0, 0)) ∧ Below Z w wr) (fun a _ _ _ => H - (intOf a).toNat)
  case atStart => exact ⟨0, pr + l, by omega, rfl, by go_num, by rw [Nat.add_zero, Hpr.out], HZD.out, HbD.out⟩
  case round =>
    obtain ⟨y, i, hy, rfl, rfl, hi, hz, hb⟩ := hrel
    have hm : QZ.Mod (fun _ => False) w wr := by rw [← hZe] at hb; exact QZ.Below.mod hb _
    by_cases hlt : y < H
    · have b2 : wr.cell? ⟨p, 2, none⟩ = some (.slice (some ⟨G, 0, none⟩) N cap) := cell_mod hm (fun f => f) (Hy.out.at 2 rfl)
      have b3 : wr.cell? ⟨p, 3, none⟩ = some (.int .i64 dw) := cell_mod hm (fun f => f) (Hy.out.at 3 rfl)
      obtain ⟨o, ho⟩ : ∃ o, y * W = o := ⟨_, rfl⟩
      have hoM : o + W ≤ M := by
        rw [← ho, ← HM.out, ← Nat.succ_mul, Nat.mul_comm W H]
        exact Nat.mul_le_mul_right W hlt
      have hiN : i + W ≤ N := by
        have e1 : (t + y) * dw + dw ≤ dh * dw := by rw [← Nat.succ_mul]; exact Nat.mul_le_mul_right dw (by omega)
        have e2 := HN.out
        rw [Nat.mul_comm] at e2
        omega
      have hoi : (y : Int) * (W : Int) = (o : Int) := by rw [← ho]; exact (Int.natCast_mul y W).symm
      obtain ⟨e, he⟩ : ∃ e, i + W = e := ⟨_, rfl⟩
      have w1 : IntKind.i64.wrap ((i : Int) + (W : Int)) = (e : Int) := by rw [show (i : Int) + (W : Int) = (e : Int) by omega]; exact IntWalk.i64_in _ (by omega)
      have n1 : ¬ (M = o) := by omega
      have n2 : ¬ (o = M) := by omega
      have n3 : ¬ (cap = i) := by omega
      have n4 : ¬ (i = cap) := by omega
      have n5 : o ≤ M := by omega
      have n6 : i ≤ e := by omega
      have n7 : e ≤ cap := by omega
      have eW : e - i = W := by omega
      have hsrc : ∀ wx, QZ.Mod (fun _ => False) w wx → ∀ j v, (rowV P W y)[j]? = some v → wx.cell? ((⟨G, i, none⟩ : Addr).add j) = some v := fun wx hx j v hv => by
        have hj : j < W := by
          rcases Nat.lt_or_ge j W with h | h
          · exact h
          · rw [List.getElem?_eq_none (by rw [rowV_len]; exact h)] at hv; cases hv
        rw [rowV_get _ _ _ _ hj] at hv
        rw [Addr.add_lit, cell_mod hx (fun f => f) (Hp.out (i + j) (by omega)), hi, Nat.add_assoc, HP.out j y hj hlt]
        exact hv
      have hone : ∀ v ∈ rowV P W y, v.oneCell' = true := by
        intro v hv
        obtain ⟨j, _, rfl⟩ := List.mem_map.1 hv
        rfl
      have hrl := rowV_len P W y
      have hml := matTo_len P W M y
      have hbN : Below Z w wr.drew := ⟨hb.os, hb.tape, hb.output, hb.size, hb.block⟩
      have hzN : wr.drew.heap[Z]? = some (.cells (matTo P W M y).toArray 5 (0, 0)) := hz
      have hsN := hsrc wr.drew hm.drew
      have hfit : o + (rowV P W y).length ≤ (matTo P W M y).length := by rw [hrl, hml]; exact hoM
      have hstep := matTo_step P W M y (by rw [ho]; exact hoM)
      rw [ho] at hstep
      have hin : i + dw = (t + (y + 1)) * dw + l := by rw [hi, ← Nat.add_assoc, Nat.succ_mul]; omega
      have HbN := Lib.hid hbN
      have HzN := Lib.hid hzN
      have HsN := Lib.hid hsN
      have Hfit := Lib.hid hfit
      have Hone := Lib.hid hone
      have Hrl := Lib.hid hrl
      have Hml := Lib.hid hml
      have Hstep := Lib.hid hstep
      have Hsrc := Lib.hid hsrc
      have Hz := Lib.hid hz
      have Hb := Lib.hid hb
      have Hm := Lib.hid hm
      have Hi := Lib.hid hi
      have Hin := Lib.hid hin
      have Ho := Lib.hid ho
      have HeW := Lib.hid eW
      have He := Lib.hid he
      clear hbN hzN hsN hfit hone hrl hml hstep hsrc hz hb hm hi hin ho eW he
      go_wp2_with fail
      go_region_law (refine step_copy_splice rfl (.tmp 83) (.tmp 92) 32 32 rfl 5 Tryz.underlying32 sz5' _ _ _ _ _ _ rfl rfl Z o (matTo P W M y) 5 HzN.out (rowV P W y) (by rw [Hrl.out]; show W = min (e - i) (M - o); rw [HeW.out, Nat.min_eq_left (by omega)]) (fun _ => ⟨rfl, _, rfl, HsN.out⟩) Hfit.out Hone.out Z w HbN.out (Nat.le_refl _) ?_; intro w4 hg4 hb4)
      all_goals
        have b3w : w4.cell? ⟨p, 3, none⟩ = some (.int .i64 dw) := by
          have hm4 : QZ.Mod (fun _ => False) w w4 := by
            have h4 := hb4
            rw [← hZe] at h4
            exact QZ.Below.mod h4 _
          exact cell_mod hm4 (fun f => f) (Hy.out.at 3 rfl)
        clear b2 b3
        have Hb4 := Lib.hid hb4
        have Hg4 := Lib.hid hg4
        clear hb4 hg4
        go_wp2_with fail
        go_roundw
        case rel => exact ⟨y + 1, i + dw, by omega, by go_num, by go_num, Hin.out, by rw [← Hstep.out]; exact Hg4.out, Hb4.out⟩
        case measure => simp [intOf] <;> omega
    · obtain rfl : H = y := by omega
      have Hz := Lib.hid hz
      have Hb := Lib.hid hb
      have Hm := Lib.hid hm
      have Hi := Lib.hid hi
      clear hz hb hm hi
      go_wp2_with fail
      go_ret
      have hME := HM.out
      subst hME
      refine ⟨Z, rfl, fun x y hx hy => ?_, by omega, Hm.out⟩
      have hin : y * W + x < W * H := by rw [Nat.mul_comm W H]; exact row_lt hy hx
      have e1 : (y * W + x) % W = x := by rw [Nat.add_comm, Nat.add_mul_mod_self_right, Nat.mod_eq_of_lt hx]
      have e2 : (y * W + x) / W = y := by rw [Nat.add_comm, Nat.add_mul_div_right _ _ (by omega), Nat.div_eq_of_lt hx, Nat.zero_add]
      have hbl : Blk wr Z (matTo P W (W * H) H) := ⟨5, Hz.out⟩
      rw [hbl.cell, matTo_get _ _ _ _ _ hin, if_pos (row_lt hy hx), e1, e2]
end Go.Proofs.YtnpkihobbcglcaaGreatDoor
/- A part is cut out of a picture. -/
open Go Go.RowKit
namespace Go.Proofs.YtnpkihobbcglcaaGreatDoor
open Go.QZ

/-- The bytes of a part are handed back. -/
def Part (w : World) (W H : Nat) (P : Nat → Nat → Nat) (e : Ending) (w' : World) : Prop :=
  ∃ G cap, e = .returned (.tuple #[.slice (some ⟨G, 0, none⟩) (W * H) cap, .bool true]) ∧ (∀ x y, x < W → y < H → w'.cell? ⟨G, y * W + x, none⟩ = some (.int .u8 (P x y : Nat))) ∧ QZ.Mod (fun _ => False) w w'

set_option maxRecDepth 20000 in
set_option maxHeartbeats 800000 in
theorem crop_c (w : World) (WW HH G cap l t W H : Nat) (px : Nat → Nat) (P : Nat → Nat → Nat) (hp : ∀ j, j < WW * HH → w.cell? ⟨G, j, none⟩ = some (.int .u8 (px j : Nat))) (hP : ∀ x y, x < W → y < H → px ((t + y) * WW + (l + x)) = P x y) (hW : 1 ≤ W) (hH : 1 ≤ H) (hWW : W + l < WW) (hHH : H + t < HH) (hW2 : WW ≤ 300) (hH2 : HH ≤ 300) :
    Calls Tryz.prog 25 #[.int .i64 WW, .int .i64 HH, .slice (some ⟨G, 0, none⟩) (WW * HH) cap, .int .i64 l, .int .i64 t, .int .i64 W, .int .i64 H] w (Part w W H P) := by
  have t1 : decide ((l : Int) < 0) = false := by simp <;> omega
  have t2 : decide ((t : Int) < 0) = false := by simp <;> omega
  have t3 : decide ((W : Int) < 1) = false := by simp <;> omega
  have t4 : decide ((H : Int) < 1) = false := by simp <;> omega
  have t5 : decide ((WW : Int) < (l : Int)) = false := by simp <;> omega
  have t6 : decide ((HH : Int) < (t : Int)) = false := by simp <;> omega
  have t7 : decide ((WW : Int) < (W : Int)) = false := by simp <;> omega
  have t8 : decide ((HH : Int) < (H : Int)) = false := by simp <;> omega
  have Hp := Lib.hid hp
  have HP := Lib.hid hP
  clear hp hP
  go_enter Tryz.func25, Tryz.ntmps25
  go_wp2_with fail
  refine (source_c w WW HH G cap px Hp.out (by omega) (by omega) hW2 hH2).mono ?_
  rintro e w1 ⟨p, G1, cap1, rfl, hy, hpx, hcap, hps, hGs, hm1⟩
  have hme := meth_crop w1 ⟨p, 0, none⟩
  have hcf := cf_crop w1
  have Hy := Lib.hid hy
  have Hpx := Lib.hid hpx
  have Hps := Lib.hid hps
  have HGs := Lib.hid hGs
  have Hm1 := Lib.hid hm1
  clear hy hpx hps hGs hm1
  go_wp2_with fail
  have hyP : YUV w1 p WW HH G1 (WW * HH) cap1 WW HH 0 0 := Hy.out
  refine (srcCrop_c w1 p G1 (WW * HH) cap1 WW HH l t W H hyP (by omega) (by omega) (by omega) (by omega)).mono ?_
  rintro e w2 ⟨rfl, hy2, hm2⟩
  have hme2 := meth_getMatrix w2 ⟨w1.heap.size, 0, none⟩
  have hcf2 := cf_getMatrix w2
  have hpx2 : ∀ j, j < WW * HH → w2.cell? ⟨G1, j, none⟩ = some (.int .u8 (px j : Nat)) := fun j hj => cell_mod hm2 (fun f => f) (Hpx.out j hj)
  clear hme hcf
  have Hy2 := Lib.hid hy2
  have Hm2 := Lib.hid hm2
  have Hpx2 := Lib.hid hpx2
  clear hy2 hm2 hpx2
  go_wp2_with fail
  refine (getPart_c w2 w1.heap.size G1 (WW * HH) cap1 WW HH l t W H px P Hy2.out Hpx2.out HP.out rfl hcap hW hH hWW hHH hW2 hH2).mono ?_
  rintro e w3 ⟨Z, rfl, hz, hZs, hm3⟩
  have hz2 : ∀ j, j < W * H → w3.cell? ⟨Z, j, none⟩ = some (.int .u8 (P (j % W) (j / W) : Nat)) := fun j hj => by
    have h1 : j / W < H := Nat.div_lt_of_lt_mul hj
    have h2 : j % W < W := Nat.mod_lt _ hW
    have := hz _ _ h2 h1
    rwa [show j / W * W + j % W = j by rw [Nat.mul_comm]; exact Nat.div_add_mod j W] at this
  obtain ⟨M, hM⟩ : ∃ M, W * H = M := ⟨_, rfl⟩
  rw [hM] at hz2 ⊢
  have hMl : M ≤ 90000 := by rw [← hM]; exact Nat.le_trans (Nat.mul_le_mul (show W ≤ 300 by omega) (show H ≤ 300 by omega)) (by decide)
  have hM0 : 0 < M := by rw [← hM]; exact Nat.mul_pos hW hH
  have ho := Own.start w3 w3.heap.size 5
  have hnews := bytesL_news w3 Z M (fun j => P (j % W) (j / W)) hz2
  have hone := bytesL_one (fun j => P (j % W) (j / W)) M
  have hll := bytesL_len (fun j => P (j % W) (j / W)) M
  have hm13 := (Hm1.out.trans Hm2.out).trans hm3
  clear hme2 hcf2
  have Hz := Lib.hid hz
  have Hz2 := Lib.hid hz2
  have Ho := Lib.hid ho
  have Hnews := Lib.hid hnews
  have Hone := Lib.hid hone
  have Hll := Lib.hid hll
  have Hm13 := Lib.hid hm13
  have HM := Lib.hid hM
  clear hz hz2 ho hnews hone hll hm13 hM
  go_wp2_with (at_builtin; refine wpList_app rfl (.const (.slice none 0 0)) (.tmp 77) 32 rfl w3.heap.size 5 (.int .u8 0) 1 Tryz.underlying32 i32 rfl _ [] rfl Ho.out ⟨Z, 0, none⟩ M M (bytesL (fun j => P (j % W) (j / W)) M) rfl Hll.out Hnews.out Hone.out (by simp; omega) (by decide) (Nat.le_refl _) ?_; intro v7 w7 ho7 hm7 hv7; obtain ⟨g7, cap7, hv7e, hg7, hg8, hc7, hx7⟩ := Own.full ho7.out (by rw [List.nil_append, Hll.out]; exact hM0); subst hv7e)
  go_ret2
  have hMn : QZ.Mod (fun _ => False) w3 w7 := mod_end (hm7.out.mono (fun k _ hk => absurd (show (Value.slice none 0 0).ownBlock = some k from hk) (by simp [Value.ownBlock])))
  have hME := HM.out
  refine ⟨g7, cap7, by rw [hME]; show Ending.returned (.tuple #[.slice (some ⟨g7, 0, none⟩) (([] ++ bytesL (fun j => P (j % W) (j / W)) M).length) cap7, .bool true]) = _; rw [List.nil_append, Hll.out], fun x y hx hy => ?_, Hm13.out.trans hMn⟩
  have hin : y * W + x < M := by rw [← hME, Nat.mul_comm W H]; exact row_lt hy hx
  have e1 : (y * W + x) % W = x := by rw [Nat.add_comm, Nat.add_mul_mod_self_right, Nat.mod_eq_of_lt hx]
  have e2 : (y * W + x) / W = y := by rw [Nat.add_comm, Nat.add_mul_div_right _ _ (by omega), Nat.div_eq_of_lt hx, Nat.zero_add]
  rw [hx7 _ _ (by rw [List.nil_append]; exact bytesL_get _ _ _ hin), e1, e2]
end Go.Proofs.YtnpkihobbcglcaaGreatDoor
