/- Part 10 of the proof of FnPXQuick (a QR code that is written for a text says this text in a picture): parts of the road. No condition. -/
import Derived.Test.YtnpkihobbcglcaaGreatDoorG07
import Derived.Test.YtnpkihobbcglcaaGreatDoorG09
/- The decoder's masks. (Written by gen_dm.py.) -/
open Go Go.RowKit
namespace Go.Proofs.YtnpkihobbcglcaaGreatDoor
open Go.QZ

theorem beqI (E : Int) (n : Nat) (h : E = 0 ↔ n = 0) : (E == 0) = decide (n = 0) := by
  by_cases k : n = 0
  · rw [decide_eq_true k, beq_iff_eq]; exact h.2 k
  · rw [decide_eq_false k, beq_eq_false_iff_ne]; exact fun e => k (h.1 e)
theorem decI (P : Prop) [Decidable P] (n : Nat) (h : P ↔ n = 0) : decide P = decide (n = 0) := by
  by_cases k : n = 0
  · rw [decide_eq_true k, decide_eq_true_iff]; exact h.2 k
  · rw [decide_eq_false k, decide_eq_false_iff_not]; exact fun e => k (h.1 e)

theorem dmask0_c (w : World) (x y : Nat) (hx : x < 1000) (hy : y < 1000) : Calls Tryz.prog 230 #[.int .i64 y, .int .i64 x] w fun e w' => e = .returned (.bool (maskB 0 x y)) ∧ w = w' := by
  have g0 := and1 ((y : Int) + x) (by omega) (by omega)
  have hB : Hid ((((y : Int) + x) % 2 == 0) = maskB 0 x y) := by
    show _ = maskB 0 x y
    unfold maskB maskN
    rw [if_pos rfl]
    exact beqI _ _ (by omega)
  go_enter Tryz.func230, Tryz.ntmps230
  go_wp2
  go_ret
  exact ⟨congrArg (fun b => Ending.returned (.bool b)) hB.out, rfl⟩

theorem dmask1_c (w : World) (x y : Nat) (_hx : x < 1000) (hy : y < 1000) : Calls Tryz.prog 231 #[.int .i64 y, .int .i64 x] w fun e w' => e = .returned (.bool (maskB 1 x y)) ∧ w = w' := by
  have g0 := and1 (y : Int) (by omega) (by omega)
  have hB : Hid (((y : Int) % 2 == 0) = maskB 1 x y) := by
    show _ = maskB 1 x y
    unfold maskB maskN
    rw [if_neg (by decide), if_pos rfl]
    exact beqI _ _ (by omega)
  go_enter Tryz.func231, Tryz.ntmps231
  go_wp2
  go_ret
  exact ⟨congrArg (fun b => Ending.returned (.bool b)) hB.out, rfl⟩

theorem dmask2_c (w : World) (x y : Nat) (hx : x < 1000) (_hy : y < 1000) : Calls Tryz.prog 232 #[.int .i64 y, .int .i64 x] w fun e w' => e = .returned (.bool (maskB 2 x y)) ∧ w = w' := by
  have hB : Hid (((x : Int) % 3 == 0) = maskB 2 x y) := by
    show _ = maskB 2 x y
    unfold maskB maskN
    rw [if_neg (by decide), if_neg (by decide), if_pos rfl]
    exact beqI _ _ (by omega)
  go_enter Tryz.func232, Tryz.ntmps232
  go_wp2
  go_ret
  exact ⟨congrArg (fun b => Ending.returned (.bool b)) hB.out, rfl⟩

theorem dmask3_c (w : World) (x y : Nat) (hx : x < 1000) (hy : y < 1000) : Calls Tryz.prog 233 #[.int .i64 y, .int .i64 x] w fun e w' => e = .returned (.bool (maskB 3 x y)) ∧ w = w' := by
  have hB : Hid ((((y : Int) + x) % 3 == 0) = maskB 3 x y) := by
    show _ = maskB 3 x y
    unfold maskB maskN
    rw [if_neg (by decide), if_neg (by decide), if_neg (by decide), if_pos rfl]
    exact beqI _ _ (by omega)
  go_enter Tryz.func233, Tryz.ntmps233
  go_wp2
  go_ret
  exact ⟨congrArg (fun b => Ending.returned (.bool b)) hB.out, rfl⟩

theorem dmask4_c (w : World) (x y : Nat) (hx : x < 1000) (hy : y < 1000) : Calls Tryz.prog 234 #[.int .i64 y, .int .i64 x] w fun e w' => e = .returned (.bool (maskB 4 x y)) ∧ w = w' := by
  have g0 := and1 ((y : Int) / 2 + (x : Int) / 3) (by omega) (by omega)
  have hB : Hid ((((y : Int) / 2 + (x : Int) / 3) % 2 == 0) = maskB 4 x y) := by
    show _ = maskB 4 x y
    unfold maskB maskN
    rw [if_neg (by decide), if_neg (by decide), if_neg (by decide), if_neg (by decide), if_pos rfl]
    exact beqI _ _ (by omega)
  go_enter Tryz.func234, Tryz.ntmps234
  go_wp2
  go_ret
  exact ⟨congrArg (fun b => Ending.returned (.bool b)) hB.out, rfl⟩

theorem dmask5_c (w : World) (x y : Nat) (hx : x < 1000) (hy : y < 1000) : Calls Tryz.prog 235 #[.int .i64 y, .int .i64 x] w fun e w' => e = .returned (.bool (maskB 5 x y)) ∧ w = w' := by
  obtain ⟨z, hz⟩ : ∃ z, y * x = z := ⟨_, rfl⟩
  have hz1 : z ≤ 1000 * 1000 := by rw [← hz]; exact Nat.mul_le_mul (by omega) (by omega)
  have hzz : (y : Int) * (x : Int) = (z : Int) := by rw [← hz]; exact (Int.natCast_mul _ _).symm
  have hB : Hid (((z : Int) % 6 == 0) = maskB 5 x y) := by
    show _ = maskB 5 x y
    unfold maskB maskN
    rw [if_neg (by decide), if_neg (by decide), if_neg (by decide), if_neg (by decide), if_neg (by decide), if_pos rfl, hz]
    exact beqI _ _ (by omega)
  clear hz
  go_enter Tryz.func235, Tryz.ntmps235
  go_wp2
  go_ret
  exact ⟨congrArg (fun b => Ending.returned (.bool b)) hB.out, rfl⟩

theorem dmask6_c (w : World) (x y : Nat) (hx : x < 1000) (hy : y < 1000) : Calls Tryz.prog 236 #[.int .i64 y, .int .i64 x] w fun e w' => e = .returned (.bool (maskB 6 x y)) ∧ w = w' := by
  obtain ⟨z, hz⟩ : ∃ z, y * x = z := ⟨_, rfl⟩
  have hz1 : z ≤ 1000 * 1000 := by rw [← hz]; exact Nat.mul_le_mul (by omega) (by omega)
  have hzz : (y : Int) * (x : Int) = (z : Int) := by rw [← hz]; exact (Int.natCast_mul _ _).symm
  have hB : Hid (decide ((z : Int) % 6 < 3) = maskB 6 x y) := by
    show _ = maskB 6 x y
    unfold maskB maskN
    rw [if_neg (by decide), if_neg (by decide), if_neg (by decide), if_neg (by decide), if_neg (by decide), if_neg (by decide), if_pos rfl, hz]
    exact decI _ _ (by omega)
  clear hz
  go_enter Tryz.func236, Tryz.ntmps236
  go_wp2
  go_ret
  exact ⟨congrArg (fun b => Ending.returned (.bool b)) hB.out, rfl⟩

theorem dmask7_c (w : World) (x y : Nat) (hx : x < 1000) (hy : y < 1000) : Calls Tryz.prog 237 #[.int .i64 y, .int .i64 x] w fun e w' => e = .returned (.bool (maskB 7 x y)) ∧ w = w' := by
  obtain ⟨z, hz⟩ : ∃ z, y * x = z := ⟨_, rfl⟩
  have hz1 : z ≤ 1000 * 1000 := by rw [← hz]; exact Nat.mul_le_mul (by omega) (by omega)
  have hzz : (y : Int) * (x : Int) = (z : Int) := by rw [← hz]; exact (Int.natCast_mul _ _).symm
  have g0 := and1 ((y : Int) + x + (z : Int) % 3) (by omega) (by omega)
  have hB : Hid ((((y : Int) + x + (z : Int) % 3) % 2 == 0) = maskB 7 x y) := by
    show _ = maskB 7 x y
    unfold maskB maskN
    rw [if_neg (by decide), if_neg (by decide), if_neg (by decide), if_neg (by decide), if_neg (by decide), if_neg (by decide), if_neg (by decide), hz]
    exact beqI _ _ (by omega)
  clear hz
  go_enter Tryz.func237, Tryz.ntmps237
  go_wp2
  go_ret
  exact ⟨congrArg (fun b => Ending.returned (.bool b)) hB.out, rfl⟩

theorem dmask_c (w : World) (m x y : Nat) (hm : m < 8) (hx : x < 1000) (hy : y < 1000) : Calls Tryz.prog (230 + m) #[.int .i64 y, .int .i64 x] w fun e w' => e = .returned (.bool (maskB m x y)) ∧ w = w' := by
  rcases (show m = 0 ∨ m = 1 ∨ m = 2 ∨ m = 3 ∨ m = 4 ∨ m = 5 ∨ m = 6 ∨ m = 7 by omega) with rfl | rfl | rfl | rfl | rfl | rfl | rfl | rfl
  · exact dmask0_c w x y hx hy
  · exact dmask1_c w x y hx hy
  · exact dmask2_c w x y hx hy
  · exact dmask3_c w x y hx hy
  · exact dmask4_c w x y hx hy
  · exact dmask5_c w x y hx hy
  · exact dmask6_c w x y hx hy
  · exact dmask7_c w x y hx hy

/-- The part of a matrix that is turned by a mask. -/
def turnTo (f g : Nat → Nat → Bool) (k j : Nat) : Nat → Nat → Bool := fun a c => if c < k ∨ (c = k ∧ a < j) then (f a c ^^ g a c) else f a c
theorem turnTo_zero (f g : Nat → Nat → Bool) : turnTo f g 0 0 = f := by funext a c; unfold turnTo; rw [if_neg (by omega)]
theorem turnTo_at (f g : Nat → Nat → Bool) (k j : Nat) : turnTo f g k j j k = f j k := by unfold turnTo; rw [if_neg (by omega)]
theorem turnTo_dark (f g : Nat → Nat → Bool) (k j : Nat) (h : g j k = true) : updB (turnTo f g k j) j k (!(turnTo f g k j j k)) = turnTo f g k (j + 1) := by
  funext a c
  rw [turnTo_at]
  unfold updB turnTo
  by_cases e : a = j ∧ c = k
  · rw [if_pos e, if_pos (by omega), e.1, e.2, h]; simp
  · rw [if_neg e]
    by_cases e2 : c < k ∨ (c = k ∧ a < j)
    · rw [if_pos e2, if_pos (by omega)]
    · rw [if_neg e2, if_neg (by omega)]
theorem turnTo_light (f g : Nat → Nat → Bool) (k j : Nat) (h : g j k = false) : turnTo f g k j = turnTo f g k (j + 1) := by
  funext a c
  unfold turnTo
  by_cases e : a = j ∧ c = k
  · rw [if_neg (by omega), if_pos (by omega), e.1, e.2, h]; simp
  · by_cases e2 : c < k ∨ (c = k ∧ a < j)
    · rw [if_pos e2, if_pos (by omega)]
    · rw [if_neg e2, if_neg (by omega)]
theorem turnTo_row (f g : Nat → Nat → Bool) (W k a c : Nat) (ha : a < W) : turnTo f g k W a c = turnTo f g (k + 1) 0 a c := by
  unfold turnTo
  by_cases e2 : c < k ∨ (c = k ∧ a < W)
  · rw [if_pos e2, if_pos (by omega)]
  · rw [if_neg e2, if_neg (by omega)]

set_option maxRecDepth 20000 in
set_option maxHeartbeats 1600000 in
theorem unmaskK_c (w : World) (p B d rs : Nat) (ws : List Nat) (f g : Nat → Nat → Bool) (h : BM w p B d d rs ws f) (K : FuncId) (hK : ∀ (w : World) (x y : Nat), x < 1000 → y < 1000 → Calls Tryz.prog K #[.int .i64 y, .int .i64 x] w fun e w' => e = .returned (.bool (g x y)) ∧ w = w') (hcf : ∀ (a b : Value) (w : World), (callFunc K #[a, b]).run Tryz.prog w = .ok (.enter K #[a, b]) w) :
    Calls Tryz.prog 192 #[.agg #[.func (.func K) #[] #[]], .pointer (some ⟨p, 0, none⟩), .int .i64 d] w fun e w' => e = .returned (.tuple #[]) ∧ (∃ ws, BM w' p B d d rs ws (fun a c => f a c ^^ g a c)) ∧ QZ.Mod (· = B) w w' := by
  have hd := h.sW
  have H0 := Lib.hid h; have HK := Lib.hid hK
  have HBl := Lib.hid h.words.lt
  clear h hK
  go_enter Tryz.func192, Tryz.ntmps192
  go_wp2_with fail
  have Hm0 := Lib.hid ((QZ.Mod.refl (fun _ => False) w).alloc (.cells #[.func (.func K) #[] #[]] 303))
  have Hf0 := Lib.hid (Blk.new w [.func (.func K) #[] #[]] 303)
  generalize w.alloc (.cells #[.func (.func K) #[] #[]] 303) = w0 at *
  have Hb0 := Lib.hid (H0.out.mod Hm0.out (fun f => f) (fun f => f))
  go_loopw [6, 7] (fun a _ wr => ∃ k : Nat, k ≤ d ∧ a = .int .i64 k ∧ (∃ ws, BM wr p B d d rs ws (turnTo f g k 0)) ∧ QZ.Mod (· = B) w0 wr) (fun a _ _ => d - (intOf a).toNat)
  case atStart => exact ⟨0, by omega, rfl, ⟨ws, by rw [turnTo_zero]; exact Hb0.out⟩, QZ.Mod.refl _ _⟩
  case round =>
    obtain ⟨k, hk, rfl, ⟨us, hb⟩, hm⟩ := hrel
    have Hb1 := Lib.hid hb; have Hm1 := Lib.hid hm
    clear hb hm
    by_cases hlt : k < d
    · go_wp2_with fail
      generalize decide ((k : Int) < (d : Int)) = bb
      go_loopw [7] (fun a w2 => ∃ j : Nat, j ≤ d ∧ a = .int .i64 j ∧ (∃ ws, BM w2 p B d d rs ws (turnTo f g k j)) ∧ QZ.Mod (· = B) w0 w2) (fun a _ => d - (intOf a).toNat)
      case atStart => exact ⟨0, by omega, rfl, ⟨us, Hb1.out⟩, Hm1.out⟩
      case round =>
        obtain ⟨j, hj, rfl, ⟨us2, hb⟩, hm⟩ := hrel
        have Hb2 := Lib.hid hb; have Hm2 := Lib.hid hm
        by_cases hjl : j < d
        · have hc := (hm.blk (show ¬ w.heap.size = B by have := HBl.out; omega) Hf0.out).cell 0
          clear hb hm
          go_wp2_with fail
          refine (HK.out wr j k (by omega) (by omega)).mono ?_
          rintro e w5 ⟨rfl, rfl⟩
          clear hc
          cases hg : g j k
          · have Hg := Lib.hid hg
            clear hg
            go_wp2_with fail
            go_roundw
            case rel => exact ⟨j + 1, by omega, by go_num, ⟨us2, by rw [← turnTo_light f g k j Hg.out]; exact Hb2.out⟩, Hm2.out⟩
            case measure => simp [intOf]; omega
          · have Hg := Lib.hid hg
            clear hg
            go_wp2_with fail
            refine (bmFlip_c wr p B d d rs us2 _ Hb2.out j k hjl hlt).mono ?_
            rintro e w3 ⟨rfl, ⟨us3, hb3⟩, hm3⟩
            rw [turnTo_dark f g k j Hg.out] at hb3
            have Hb3 := Lib.hid hb3
            have Hm3 := Lib.hid hm3
            clear hb3 hm3
            go_wp2_with fail
            go_roundw
            case rel => exact ⟨j + 1, by omega, by go_num, ⟨us3, Hb3.out⟩, Hm2.out.trans Hm3.out⟩
            case measure => simp [intOf]; omega
        · obtain rfl : j = d := by omega
          clear hb hm
          go_wp2_with fail
          go_roundw
          case rel => exact ⟨k + 1, by omega, by go_num, ⟨us2, Hb2.out.congr (fun x y hx _ => turnTo_row f g j k x y hx)⟩, Hm2.out⟩
          case measure => simp [intOf]; omega
    · obtain rfl : k = d := by omega
      go_wp2_with fail
      go_end0
      exact ⟨rfl, ⟨us, Hb1.out.congr (fun x y _ hy => by unfold turnTo; rw [if_pos (.inl hy)])⟩, (QZ.Mod.none Hm0.out : QZ.Mod (· = B) w w0).trans Hm1.out⟩
theorem cf0 (a b : Value) (w : World) : (callFunc 230 #[a, b]).run Tryz.prog w = .ok (.enter 230 #[a, b]) w := by kernel_rfl
theorem cf1 (a b : Value) (w : World) : (callFunc 231 #[a, b]).run Tryz.prog w = .ok (.enter 231 #[a, b]) w := by kernel_rfl
theorem cf2 (a b : Value) (w : World) : (callFunc 232 #[a, b]).run Tryz.prog w = .ok (.enter 232 #[a, b]) w := by kernel_rfl
theorem cf3 (a b : Value) (w : World) : (callFunc 233 #[a, b]).run Tryz.prog w = .ok (.enter 233 #[a, b]) w := by kernel_rfl
theorem cf4 (a b : Value) (w : World) : (callFunc 234 #[a, b]).run Tryz.prog w = .ok (.enter 234 #[a, b]) w := by kernel_rfl
theorem cf5 (a b : Value) (w : World) : (callFunc 235 #[a, b]).run Tryz.prog w = .ok (.enter 235 #[a, b]) w := by kernel_rfl
theorem cf6 (a b : Value) (w : World) : (callFunc 236 #[a, b]).run Tryz.prog w = .ok (.enter 236 #[a, b]) w := by kernel_rfl
theorem cf7 (a b : Value) (w : World) : (callFunc 237 #[a, b]).run Tryz.prog w = .ok (.enter 237 #[a, b]) w := by kernel_rfl
theorem unmask_c (w : World) (p B d rs : Nat) (ws : List Nat) (f : Nat → Nat → Bool) (h : BM w p B d d rs ws f) (m : Nat) (hm : m < 8) :
    Calls Tryz.prog 192 #[.agg #[.func (.func (230 + m)) #[] #[]], .pointer (some ⟨p, 0, none⟩), .int .i64 d] w fun e w' => e = .returned (.tuple #[]) ∧ (∃ ws, BM w' p B d d rs ws (fun a c => f a c ^^ maskB m a c)) ∧ QZ.Mod (· = B) w w' :=
  unmaskK_c w p B d rs ws f (maskB m) h _ (fun w x y hx hy => dmask_c w m x y hm hx hy) (by
    rcases (show m = 0 ∨ m = 1 ∨ m = 2 ∨ m = 3 ∨ m = 4 ∨ m = 5 ∨ m = 6 ∨ m = 7 by omega) with rfl | rfl | rfl | rfl | rfl | rfl | rfl | rfl
    · exact cf0
    · exact cf1
    · exact cf2
    · exact cf3
    · exact cf4
    · exact cf5
    · exact cf6
    · exact cf7
    )
/-- The eight masks. -/
def maskFn (m : Nat) : Value := .func (.func (230 + m)) #[] #[]
theorem masks_c (w : World) : Calls Tryz.prog 190 #[] w fun e w' => (∃ R, e = .returned (.slice (some ⟨R, 0, none⟩) 8 8) ∧ ∀ m, m < 8 → w'.cell? ⟨R, m, none⟩ = some (maskFn m)) ∧ QZ.Mod (fun _ => False) w w' := by
  go_enter Tryz.func190, Tryz.ntmps190
  go_wp2_with fail
  go_ret
  refine ⟨⟨w.heap.size, rfl, fun m hm => ?_⟩, (QZ.Mod.refl _ _).alloc _⟩
  have hb := Blk.new w ((List.range 8).map maskFn) 303
  have hc := hb.cell m
  rw [List.getElem?_map, List.getElem?_range hm] at hc
  exact hc
end Go.Proofs.YtnpkihobbcglcaaGreatDoor
/- Format information is decoded. -/
open Go Go.RowKit
namespace Go.Proofs.YtnpkihobbcglcaaGreatDoor
open Go.QZ

/-- Some number is returned. -/
def SomeNum (w : World) (e : Ending) (w' : World) : Prop := ∃ n : Int, e = .returned (.int .i64 n) ∧ w = w'

theorem ones64_c (w : World) (x : Int) : Calls Tryz.prog 266 #[.int .u64 x] w (SomeNum w) := by
  go_enter Tryz.func266, Tryz.ntmps266
  go_wp2
  go_ret
  exact ⟨_, rfl, rfl⟩
theorem ones_c (w : World) (x : Int) : Calls Tryz.prog 254 #[.int .u64 x] w (SomeNum w) := by
  go_enter Tryz.func254, Tryz.ntmps254
  go_wp2_with fail
  refine ((ones64_c w x)).mono ?_
  rintro e w1 ⟨n, rfl, rfl⟩
  go_wp2_with fail
  go_ret
  exact ⟨_, rfl, rfl⟩
theorem differ_c (w : World) (x y : Int) : Calls Tryz.prog 239 #[.int .u64 x, .int .u64 y] w (SomeNum w) := by
  go_enter Tryz.func239, Tryz.ntmps239
  go_wp2_with fail
  refine ((ones_c w _)).mono ?_
  rintro e w1 ⟨n, rfl, rfl⟩
  go_wp2_with fail
  go_ret
  exact ⟨_, rfl, rfl⟩

theorem ecl_c (w : World) (l : Nat) (h : l < 4) : Calls Tryz.prog 267 #[.int .u64 l] w fun e w' => e = .returned (.tuple #[.int .i64 l, .nilIface]) ∧ w = w' := by
  rcases (show l = 0 ∨ l = 1 ∨ l = 2 ∨ l = 3 by omega) with rfl | rfl | rfl | rfl
  all_goals
    go_enter Tryz.func267, Tryz.ntmps267
    go_wp2
    go_ret2
    exact ⟨rfl, rfl⟩

/-- A new format information. -/
def NewFI (w : World) (l m : Nat) (e : Ending) (w' : World) : Prop :=
  ∃ p, e = .returned (.pointer (some ⟨p, 0, none⟩)) ∧ Blk w' p [.int .i64 l, .int .u8 m] ∧ w.heap.size ≤ p ∧ QZ.Mod (fun _ => False) w w'

theorem maskU (n : Nat) (hn : n ≤ 3) (E : Int) (h0 : 0 ≤ E) (h1 : E < 4294967296) : bits .and .u64 E (2 ^ n - 1) = E % 2 ^ n := by
  exact bits_mask .u64 64 (by decide) (fun n h0 h1 => by rw [IntKind.wrap_u64]; omega) n (by omega) E h0 (by omega)

theorem newFI_c (w : World) (k l m : Nat) (hk : k = 8 * l + m) (hl : l < 4) (hm : m < 8) : Calls Tryz.prog 256 #[.int .u64 k] w (NewFI w l m) := by
  have g1 := maskU 2 (by omega) ((k : Int) / 8) (by omega) (by omega)
  have g2 := maskU 3 (by omega) (k : Int) (by omega) (by omega)
  rw [show ((2 : Int) ^ 2 - 1) = 3 from rfl, show ((2 : Int) ^ 2) = 4 from rfl, show (k : Int) / 8 % 4 = (l : Int) by omega] at g1
  rw [show ((2 : Int) ^ 3 - 1) = 7 from rfl, show ((2 : Int) ^ 3) = 8 from rfl, show (k : Int) % 8 = (m : Int) by omega] at g2
  have hkk : k < 32 := by omega
  clear hk
  go_enter Tryz.func256, Tryz.ntmps256
  go_wp2_with fail
  refine ((ecl_c w l hl)).mono ?_
  rintro e w1 ⟨rfl, rfl⟩
  go_wp2_with fail
  go_ret
  exact ⟨w.heap.size, rfl, Blk.new w _ 322, Nat.le_refl _, (QZ.Mod.refl _ _).alloc _⟩

theorem look_diff : ∀ i, i < 32 → ∀ k, k < 32 → i ≠ k → tget lookT i 0 ≠ tget lookT k 0 := by decide +kernel
theorem look_one : ∀ k, k < 32 → tget lookT k 1 = (k : Int) := by decide +kernel

set_option maxHeartbeats 1600000 in
theorem doDecode_c (w : World) (k l m : Nat) (hk : k = 8 * l + m) (hl : l < 4) (hm : m < 8) (c : Int) (hc : c = tget lookT k 0) : Calls Tryz.prog 240 #[.int .u64 c, .int .u64 c] w (NewFI w l m) := by
  have hk32 : k < 32 := by omega
  have Hk := Lib.hid hk; have Hc := Lib.hid hc
  have tne : (c != c) = false := by simp
  clear hk hc
  go_enter Tryz.func240, Tryz.ntmps240
  go_wp2_with fail
  refine ((look_c w)).mono ?_
  rintro e w1 ⟨rfl, ht⟩
  have Ht := Lib.hid ht; clear ht
  go_wp2_with fail
  go_loop [13, 5, 6, 8, 9, 10] (fun a b g _ _ _ => ∃ (i : Nat) (x y : Int), i ≤ k ∧ a = .int .i64 i ∧ b = .int .i64 x ∧ g = .int .u64 y) (fun a _ _ _ _ _ => k - (intOf a).toNat)
  case atStart => exact ⟨0, _, _, by omega, rfl, rfl, rfl⟩
  case round =>
    obtain ⟨i, x, y, hi, rfl, rfl, rfl⟩ := hrel
    have r1 := Table.row Ht.out 2 (by decide) i (by show i < 32; omega) 32 rfl
    have r2 := Table.int Ht.out 2 (by decide) i 0 (by show i < 32; omega) (by decide)
    have r3 := Table.int Ht.out 2 (by decide) i 1 (by show i < 32; omega) (by decide)
    generalize w.heap.size + i = R at *
    generalize w.heap.size + 32 = T at *
    by_cases hlt : i < k
    · have hne := look_diff i (by omega) k hk32 (by omega)
      rw [← Hc.out] at hne
      have t1 : (tget lookT i 0 == c) = false := by rw [beq_eq_false_iff_ne]; exact hne
      clear hne
      generalize tget lookT i 0 = v at *
      generalize tget lookT i 1 = u at *
      go_wp2_with fail
      refine ((differ_c w1 _ _)).mono ?_
      rintro e w2 ⟨n, rfl, rfl⟩
      by_cases hn : n < x
      · go_wp2_with fail
        go_round
        case rel => exact ⟨i + 1, _, _, by omega, by go_num, rfl, rfl⟩
        case measure => simp [intOf]; omega
      · go_wp2_with fail
        go_round
        case rel => exact ⟨i + 1, _, _, by omega, by go_num, rfl, rfl⟩
        case measure => simp [intOf]; omega
    · obtain rfl : i = k := by omega
      rw [← Hc.out] at r2
      rw [look_one i hk32] at r3
      have t1 : (c == c) = true := by simp
      go_wp2_with fail
      refine (newFI_c w1 i l m Hk.out hl hm).mono ?_
      rintro e w2 ⟨p, rfl, hb, hp, hm2⟩
      have Hb := Lib.hid hb
      have Hp := Lib.hid hp
      have Hm2 := Lib.hid hm2
      clear hb hp hm2
      go_wp2_with fail
      go_ret
      exact ⟨p, rfl, Hb.out, by have := Ht.out.mod.size; have := Hp.out; omega, Ht.out.mod.trans Hm2.out⟩

theorem decodeFI_c (w : World) (k l m : Nat) (hk : k = 8 * l + m) (hl : l < 4) (hm : m < 8) (c : Int) (hc : c = tget lookT k 0) : Calls Tryz.prog 195 #[.int .u64 c, .int .u64 c] w (NewFI w l m) := by
  have Hk := Lib.hid hk
  have Hc := Lib.hid hc
  clear hk hc
  go_enter Tryz.func195, Tryz.ntmps195
  go_wp2_with fail
  refine ((doDecode_c w k l m Hk.out hl hm c Hc.out)).mono ?_
  rintro e w1 ⟨p, rfl, hb, hp, hm2⟩
  have Hb := Lib.hid hb
  have Hp := Lib.hid hp
  have Hm2 := Lib.hid hm2
  clear hb hp hm2
  go_wp2_with fail
  go_ret
  exact ⟨p, rfl, Hb.out, Hp.out, Hm2.out⟩
end Go.Proofs.YtnpkihobbcglcaaGreatDoor
/- The format information of a matrix is read. -/
open Go Go.RowKit
namespace Go.Proofs.YtnpkihobbcglcaaGreatDoor
open Go.QZ

def b2n (b : Bool) : Nat := if b then 1 else 0
def bitIn (v : Nat) (b : Bool) : Nat := 2 * v + b2n b
/-- The number that modules at places say. -/
def rdF (f : Nat → Nat → Bool) (v : Nat) : List (Nat × Nat) → Nat
  | [] => v
  | p :: r => rdF f (bitIn v (f p.1 p.2)) r
theorem rdF_snoc (f : Nat → Nat → Bool) (l : List (Nat × Nat)) : ∀ (v : Nat) (p : Nat × Nat), rdF f v (l ++ [p]) = bitIn (rdF f v l) (f p.1 p.2) := by
  induction l with
  | nil => intro v p; rfl
  | cons q r ih => intro v p; exact ih _ p
theorem rdF_lt (f : Nat → Nat → Bool) (l : List (Nat × Nat)) : rdF f 0 l < 2 ^ l.length := by
  have h : ∀ (l : List (Nat × Nat)) v n, v < 2 ^ n → rdF f v l < 2 ^ (n + l.length) := by
    intro l
    induction l with
    | nil => intro v n h; exact h
    | cons p r ih =>
      intro v n h
      have := ih (bitIn v (f p.1 p.2)) (n + 1) (by rw [Nat.pow_succ]; unfold bitIn b2n; split <;> omega)
      show rdF f _ r < _
      rw [show n + (p :: r).length = n + 1 + r.length by simp; omega]; exact this
  have := h l 0 0 (by decide)
  rwa [Nat.zero_add] at this

/-- A parser at block P of the matrix at block p. -/
structure Pars (w : World) (P p : Nat) (ver fi : Value) : Prop where
  head : Blk w P [.pointer (some ⟨p, 0, none⟩), ver, fi, .bool false]
theorem Pars.mod {S : Nat → Prop} {w w' : World} {P p : Nat} {ver fi : Value} (h : Pars w P p ver fi) (hm : QZ.Mod S w w') (hS : ¬ S P) : Pars w' P p ver fi := ⟨hm.blk hS h.head⟩

theorem or1 (v : Nat) (h : v < 1000000) : bits .or .i64 ((v : Int) * 2) 1 = ((2 * v + 1 : Nat) : Int) := by
  have h1 := (bits_nat .i64 63 (by decide) (fun n h0 h1 => by rw [IntKind.wrap_i64]; omega) (2 * v) 1 (by omega) (by decide)).2
  rw [show (v : Int) * 2 = ((2 * v : Nat) : Int) by omega, show (1 : Int) = ((1 : Nat) : Int) from rfl, h1]
  congr 1
  have : 2 * v ||| 1 = 2 * v + 1 := by
    have := Nat.two_pow_add_eq_or_of_lt (i := 1) (b := 1) (by decide) v
    rw [Nat.pow_one] at this
    exact this.symm
  rw [this]

theorem copyBit_c (w : World) (P p B d rs : Nat) (ws : List Nat) (f : Nat → Nat → Bool) (ver fi : Value) (h : Pars w P p ver fi) (hb : BM w p B d d rs ws f) (i j v : Nat) (hi : i < d) (hj : j < d) (hv : v < 1000000) :
    Calls Tryz.prog 193 #[.pointer (some ⟨P, 0, none⟩), .int .i64 i, .int .i64 j, .int .i64 v] w fun e w' => e = .returned (.int .i64 (bitIn v (f i j) : Nat)) ∧ w = w' := by
  have c0 := h.head.cell 0
  have c3 := h.head.cell 3
  have ho := or1 v hv
  have Hb := Lib.hid hb
  have Hd := Lib.hid (show ((2 * v : Nat) : Int) = (v : Int) * 2 by omega)
  clear h hb
  cases hf : f i j
  · have Hf := Lib.hid hf
    go_enter Tryz.func193, Tryz.ntmps193
    go_wp2_with fail
    refine ((bmGet_c w p B d d rs ws f Hb.out i j hi hj)).mono ?_
    rintro e w1 ⟨rfl, rfl⟩
    rw [Hf.out]
    go_wp2_with fail
    go_ret
    exact ⟨by rw [show bitIn v false = 2 * v from rfl, Hd.out]; rfl, rfl⟩
  · have Hf := Lib.hid hf
    go_enter Tryz.func193, Tryz.ntmps193
    go_wp2_with fail
    refine ((bmGet_c w p B d d rs ws f Hb.out i j hi hj)).mono ?_
    rintro e w1 ⟨rfl, rfl⟩
    rw [Hf.out]
    go_wp2_with fail
    go_ret
    exact ⟨rfl, rfl⟩
end Go.Proofs.YtnpkihobbcglcaaGreatDoor
open Go Go.RowKit
namespace Go.Proofs.YtnpkihobbcglcaaGreatDoor
open Go.QZ

def pA (k : Nat) : List (Nat × Nat) := (List.range k).map fun i => (i, 8)
def p1 (k : Nat) : List (Nat × Nat) := (pA 6 ++ [(7, 8)] ++ [(8, 8)] ++ [(8, 7)]) ++ (List.range k).map fun i => (8, 5 - i)
def pB (d k : Nat) : List (Nat × Nat) := (List.range k).map fun i => (8, d - 1 - i)
def p2 (d k : Nat) : List (Nat × Nat) := pB d 7 ++ (List.range k).map fun i => (d - 8 + i, 8)
theorem map_range_succ {α : Type} (g : Nat → α) (k : Nat) : (List.range (k + 1)).map g = (List.range k).map g ++ [g k] := by rw [List.range_succ, List.map_append]; rfl
theorem pA_succ (k : Nat) : pA (k + 1) = pA k ++ [(k, 8)] := map_range_succ _ k
theorem pB_succ (d k : Nat) : pB d (k + 1) = pB d k ++ [(8, d - 1 - k)] := map_range_succ _ k
theorem p1_succ (k : Nat) : p1 (k + 1) = p1 k ++ [(8, 5 - k)] := by unfold p1; rw [map_range_succ, ← List.append_assoc]
theorem p2_succ (d k : Nat) : p2 d (k + 1) = p2 d k ++ [(d - 8 + k, 8)] := by unfold p2; rw [map_range_succ, ← List.append_assoc]
theorem rd_few (f : Nat → Nat → Bool) (l : List (Nat × Nat)) (h : l.length ≤ 18) : rdF f 0 l < 1000000 := by
  have h1 := rdF_lt f l
  have h2 : 2 ^ l.length ≤ 2 ^ 18 := Nat.pow_le_pow_right (by decide) h
  have h3 : (2 : Nat) ^ 18 < 1000000 := by decide
  omega

/-- The format information is read. -/
def GotFI (w : World) (P p l m : Nat) (ver : Value) (e : Ending) (w' : World) : Prop :=
  ∃ q, e = .returned (.tuple #[.pointer (some ⟨q, 0, none⟩), .nilIface]) ∧ Blk w' q [.int .i64 l, .int .u8 m] ∧ w.heap.size ≤ q ∧ Pars w' P p ver (.pointer (some ⟨q, 0, none⟩)) ∧ QZ.Mod (· = P) w w'

theorem readFI2_c (w : World) (P p q : Nat) (ver : Value) (h : Pars w P p ver (.pointer (some ⟨q, 0, none⟩))) :
    Calls Tryz.prog 155 #[.pointer (some ⟨P, 0, none⟩)] w fun e w' => e = .returned (.tuple #[.pointer (some ⟨q, 0, none⟩), .nilIface]) ∧ w = w' := by
  have c2 := h.head.cell 2
  clear h
  go_enter Tryz.func155, Tryz.ntmps155
  go_wp2_with fail
  go_ret2
  exact ⟨rfl, rfl⟩

set_option maxRecDepth 20000 in
set_option maxHeartbeats 3200000 in
theorem readFI_c (w : World) (P p B d rs : Nat) (ws : List Nat) (f : Nat → Nat → Bool) (ver : Value) (h : Pars w P p ver (.pointer none)) (hb : BM w p B d d rs ws f) (hd : 21 ≤ d) (k l m : Nat) (hk : k = 8 * l + m) (hl : l < 4) (hm : m < 8) (c : Nat) (hc : (c : Int) = tget lookT k 0) (h1 : rdF f 0 (p1 6) = c) (h2 : rdF f 0 (p2 d 8) = c) :
    Calls Tryz.prog 155 #[.pointer (some ⟨P, 0, none⟩)] w (GotFI w P p l m ver) := by
  have c0 := h.head.cell 0
  have c2 := h.head.cell 2
  have hd1 := hb.sW
  have cb1 := hb.c1
  have hcl := rd_few f (p1 6) (by decide)
  rw [h1] at hcl
  have HP := Lib.hid h; have Hb := Lib.hid hb; have Hk := Lib.hid hk; have Hc := Lib.hid hc; have H1 := Lib.hid h1; have H2 := Lib.hid h2
  clear h hb hk hc h1 h2
  go_enter Tryz.func155, Tryz.ntmps155
  go_wp2_with fail
  clear c2
  go_loop [5, 4] (fun a b => ∃ i : Nat, i ≤ 6 ∧ a = .int .i64 i ∧ b = .int .i64 (rdF f 0 (pA i) : Nat)) (fun a _ => 6 - (intOf a).toNat)
  case atStart => exact ⟨0, by omega, rfl, rfl⟩
  case round =>
    obtain ⟨i, hi, rfl, rfl⟩ := hrel
    by_cases hlt : i < 6
    · have hv := rd_few f (pA i) (by simp [pA]; omega)
      have Hs := Lib.hid (rdF_snoc f (pA i) 0 (i, 8))
      rw [← pA_succ] at Hs
      generalize rdF f 0 (pA i) = v at *
      go_wp2_with fail
      refine ((copyBit_c w P p B d rs ws f ver _ HP.out Hb.out i 8 v (by omega) (by omega) hv)).mono ?_
      rintro e w1 ⟨rfl, rfl⟩
      go_wp2_with fail
      go_round
      case rel => exact ⟨i + 1, by omega, by go_num, by rw [Hs.out]⟩
      case measure => simp [intOf] <;> omega
    · obtain rfl : i = 6 := by omega
      have hv1 := rd_few f (pA 6) (by decide)
      have Hs1 := Lib.hid (rdF_snoc f (pA 6) 0 (7, 8))
      have Hs2 := Lib.hid (rdF_snoc f (pA 6 ++ [(7, 8)]) 0 (8, 8))
      have Hs3 := Lib.hid (rdF_snoc f (pA 6 ++ [(7, 8)] ++ [(8, 8)]) 0 (8, 7))
      have hv2 := rd_few f (pA 6 ++ [(7, 8)]) (by decide)
      have hv3 := rd_few f (pA 6 ++ [(7, 8)] ++ [(8, 8)]) (by decide)
      have Hs4 : Hid (rdF f 0 (p1 0) = rdF f 0 (pA 6 ++ [(7, 8)] ++ [(8, 8)] ++ [(8, 7)])) := by show _ = _; unfold p1; rw [List.range_zero, List.map_nil, List.append_nil]
      rw [Hs1.out] at hv2 Hs2
      rw [Hs2.out] at hv3 Hs3
      rw [Hs3.out] at Hs4
      generalize rdF f 0 (pA 6) = v1 at *
      go_wp2_with fail
      refine ((copyBit_c w P p B d rs ws f ver _ HP.out Hb.out 7 8 v1 (by omega) (by omega) hv1)).mono ?_
      rintro e w1 ⟨rfl, rfl⟩
      generalize bitIn v1 (f 7 8) = v2 at *
      go_wp2_with fail
      refine ((copyBit_c w P p B d rs ws f ver _ HP.out Hb.out 8 8 v2 (by omega) (by omega) hv2)).mono ?_
      rintro e w1 ⟨rfl, rfl⟩
      generalize bitIn v2 (f 8 8) = v3 at *
      go_wp2_with fail
      refine ((copyBit_c w P p B d rs ws f ver _ HP.out Hb.out 8 7 v3 (by omega) (by omega) hv3)).mono ?_
      rintro e w1 ⟨rfl, rfl⟩
      generalize bitIn v3 (f 8 7) = v4 at *
      go_wp2_with fail
      go_loop [6, 4] (fun a b => ∃ j : Nat, j ≤ 6 ∧ a = .int .i64 (5 - (j : Int)) ∧ b = .int .i64 (rdF f 0 (p1 j) : Nat)) (fun a _ => (intOf a + 1).toNat)
      case atStart => exact ⟨0, by omega, rfl, by rw [Hs4.out]⟩
      case round =>
        obtain ⟨j, hj, rfl, rfl⟩ := hrel
        by_cases hlt : j < 6
        · have hv := rd_few f (p1 j) (by simp [p1, pA]; omega)
          have Hs := Lib.hid (rdF_snoc f (p1 j) 0 (8, 5 - j))
          rw [← p1_succ] at Hs
          obtain ⟨t, ht⟩ : ∃ t, 5 - j = t := ⟨_, rfl⟩
          have htI : 5 - (j : Int) = (t : Int) := by omega
          rw [ht] at Hs
          rw [htI]
          generalize rdF f 0 (p1 j) = v at *
          go_wp2_with fail
          refine ((copyBit_c w P p B d rs ws f ver _ HP.out Hb.out 8 t v (by omega) (by omega) hv)).mono ?_
          rintro e w1 ⟨rfl, rfl⟩
          go_wp2_with fail
          go_round
          case rel => exact ⟨j + 1, by omega, by rw [← htI]; congr 1; omega, by rw [Hs.out]⟩
          case measure => simp [intOf] <;> omega
        · obtain rfl : j = 6 := by omega
          rw [show 5 - ((6 : Nat) : Int) = -1 from rfl, H1.out]
          go_wp2_with fail
          refine ((BitMatrix_GetHeight_c w p 0 _ cb1)).mono ?_
          rintro e w1 ⟨rfl, rfl⟩
          go_wp2_with fail
          go_loop [10, 8] (fun a b => ∃ i : Nat, i ≤ 7 ∧ a = .int .i64 ((d : Int) - 1 - i) ∧ b = .int .i64 (rdF f 0 (pB d i) : Nat)) (fun a _ => (intOf a).toNat)
          case atStart => exact ⟨0, by omega, by go_num, rfl⟩
          case round =>
            obtain ⟨i, hi, rfl, rfl⟩ := hrel
            by_cases hlt : i < 7
            · have hv := rd_few f (pB d i) (by simp [pB]; omega)
              have Hs := Lib.hid (rdF_snoc f (pB d i) 0 (8, d - 1 - i))
              rw [← pB_succ] at Hs
              obtain ⟨t, ht⟩ : ∃ t, d - 1 - i = t := ⟨_, rfl⟩
              have htI : (d : Int) - 1 - (i : Int) = (t : Int) := by omega
              have ht7 : (d : Int) - 7 ≤ (t : Int) := by omega
              rw [ht] at Hs
              rw [htI]
              generalize rdF f 0 (pB d i) = v at *
              go_wp2_with fail
              refine ((copyBit_c w P p B d rs ws f ver _ HP.out Hb.out 8 t v (by omega) (by omega) hv)).mono ?_
              rintro e w1 ⟨rfl, rfl⟩
              go_wp2_with fail
              go_round
              case rel => exact ⟨i + 1, by omega, by rw [← htI]; congr 1; omega, by rw [Hs.out]⟩
              case measure => simp [intOf] <;> omega
            · obtain rfl : i = 7 := by omega
              have Hs0 : Hid (rdF f 0 (p2 d 0) = rdF f 0 (pB d 7)) := by show _ = _; unfold p2; rw [List.range_zero, List.map_nil, List.append_nil]
              generalize rdF f 0 (pB d 7) = v0 at *
              have h7 : (d : Int) - 1 - ((7 : Nat) : Int) = (d : Int) - 8 := by omega
              rw [h7]
              clear h7
              go_wp2_with fail
              go_loop [11, 8] (fun a b => ∃ i : Nat, i ≤ 8 ∧ a = .int .i64 ((d : Int) - 8 + i) ∧ b = .int .i64 (rdF f 0 (p2 d i) : Nat)) (fun a _ => d - (intOf a).toNat)
              case atStart => exact ⟨0, by omega, by go_num, by rw [Hs0.out]⟩
              case round =>
                obtain ⟨i, hi, rfl, rfl⟩ := hrel
                by_cases hlt : i < 8
                · have hv := rd_few f (p2 d i) (by simp [p2, pB]; omega)
                  have Hs := Lib.hid (rdF_snoc f (p2 d i) 0 (d - 8 + i, 8))
                  rw [← p2_succ] at Hs
                  obtain ⟨t, ht⟩ : ∃ t, d - 8 + i = t := ⟨_, rfl⟩
                  have htI : (d : Int) - 8 + (i : Int) = (t : Int) := by omega
                  have htd : t < d := by omega
                  rw [ht] at Hs
                  rw [htI]
                  generalize rdF f 0 (p2 d i) = v at *
                  go_wp2_with fail
                  refine ((copyBit_c w P p B d rs ws f ver _ HP.out Hb.out t 8 v (by omega) (by omega) hv)).mono ?_
                  rintro e w1 ⟨rfl, rfl⟩
                  go_wp2_with fail
                  go_round
                  case rel => exact ⟨i + 1, by omega, by rw [← htI]; congr 1; omega, by rw [Hs.out]⟩
                  case measure => simp [intOf] <;> omega
                · obtain rfl : i = 8 := by omega
                  have h8 : (d : Int) - 8 + ((8 : Nat) : Int) = (d : Int) := by omega
                  rw [h8, H2.out]
                  clear h8
                  go_wp2_with fail
                  refine ((decodeFI_c w k l m Hk.out hl hm _ Hc.out)).mono ?_
                  rintro e w1 ⟨q, rfl, hfi, hq, hm1⟩
                  have hP1 := HP.out.mod hm1 (fun f => f)
                  have hPl := HP.out.head.lt
                  have c2' := hP1.head.cell 2
                  have hfr := hP1.head.frozen 2
                  have hP2 : Pars (w1.setCell ⟨P, 2, none⟩ (.pointer (some ⟨q, 0, none⟩))) P p ver (.pointer (some ⟨q, 0, none⟩)) := ⟨hP1.head.set 2 _⟩
                  have hfi2 := hfi.set_other (a := ⟨P, 2, none⟩) (by simp only; omega) (.pointer (some ⟨q, 0, none⟩))
                  have hm2 : QZ.Mod (· = P) w (w1.setCell ⟨P, 2, none⟩ (.pointer (some ⟨q, 0, none⟩))) := (QZ.Mod.none hm1 : QZ.Mod (· = P) w w1).setCell (p := ⟨P, 2, none⟩) (.inr rfl) _
                  have HP2 := Lib.hid hP2
                  have Hfi2 := Lib.hid hfi2
                  have Hm2 := Lib.hid hm2
                  have Hq := Lib.hid hq
                  have Hfi := Lib.hid hfi
                  have Hm1 := Lib.hid hm1
                  have HP1 := Lib.hid hP1
                  clear hP2 hfi2 hm2 hq hfi hm1 hP1
                  clear c0
                  go_wp2_with fail
                  go_ret2
                  exact ⟨q, rfl, Hfi2.out, Hq.out, HP2.out, Hm2.out⟩
end Go.Proofs.YtnpkihobbcglcaaGreatDoor
