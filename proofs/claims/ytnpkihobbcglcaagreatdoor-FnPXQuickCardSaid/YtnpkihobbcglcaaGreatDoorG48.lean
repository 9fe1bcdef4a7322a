/- Part 48 of the proof of FnPXQuick (a QR code that is written for a text says this text in a picture): parts of the road. No condition. -/
import Derived.BigQuiet
import Derived.Test.YtnpkihobbcglcaaGreatDoorG08
import Derived.Test.YtnpkihobbcglcaaGreatDoorG21
import Derived.Test.YtnpkihobbcglcaaGreatDoorG26
import Derived.Test.YtnpkihobbcglcaaGreatDoorG28
/- The dark pixels of a block of eight by eight. -/
open Go Go.RowKit
namespace Go.Proofs.YtnpkihobbcglcaaGreatDoor
open Go.QZ

theorem and255u (y : Nat) (h : y < 256) : bits .and .u8 (y : Int) 255 = (y : Int) := by
  have := (bits_nat .u8 8 (by decide) (fun n h0 h1 => by rw [IntKind.wrap_u8]; omega) y 255 (by omega) (by decide)).1
  rw [show ((255 : Nat) : Int) = 255 from rfl] at this
  rw [this, show y &&& 255 = y from by rw [show (255 : Nat) = 2 ^ 8 - 1 from rfl, Nat.and_two_pow_sub_one_eq_mod]; exact Nat.mod_eq_of_lt h]

/-- The dark ones among the first k rows of a block, and the first j of the next row. -/
def thF (f : Nat → Nat → Bool) (P : Nat → Nat → Nat) (T xo yo k j : Nat) : Nat → Nat → Bool := fun x y => f x y || decide (P x y ≤ T ∧ xo ≤ x ∧ x < xo + 8 ∧ yo ≤ y ∧ (y < yo + k ∨ (y = yo + k ∧ x < xo + j)))
theorem thF_zero (f : Nat → Nat → Bool) (P : Nat → Nat → Nat) (T xo yo : Nat) : thF f P T xo yo 0 0 = f := by
  funext x y
  unfold thF
  have : decide (P x y ≤ T ∧ xo ≤ x ∧ x < xo + 8 ∧ yo ≤ y ∧ (y < yo + 0 ∨ (y = yo + 0 ∧ x < xo + 0))) = false := by rw [decide_eq_false_iff_not]; omega
  rw [this, Bool.or_false]
theorem thF_dark (f : Nat → Nat → Bool) (P : Nat → Nat → Nat) (T xo yo k j : Nat) (hj : j < 8) (h : P (xo + j) (yo + k) ≤ T) : updB (thF f P T xo yo k j) (xo + j) (yo + k) true = thF f P T xo yo k (j + 1) := by
  funext x y
  unfold updB thF
  by_cases e : x = xo + j ∧ y = yo + k
  · rw [if_pos e]
    obtain ⟨rfl, rfl⟩ := e
    have : decide (P (xo + j) (yo + k) ≤ T ∧ xo ≤ xo + j ∧ xo + j < xo + 8 ∧ yo ≤ yo + k ∧ (yo + k < yo + k ∨ (yo + k = yo + k ∧ xo + j < xo + (j + 1)))) = true := by rw [decide_eq_true_iff]; omega
    rw [this, Bool.or_true]
  · rw [if_neg e]
    congr 1
    rw [decide_eq_decide]
    omega
theorem thF_light (f : Nat → Nat → Bool) (P : Nat → Nat → Nat) (T xo yo k j : Nat) (h : ¬ P (xo + j) (yo + k) ≤ T) : thF f P T xo yo k j = thF f P T xo yo k (j + 1) := by
  funext x y
  unfold thF
  congr 1
  rw [decide_eq_decide]
  by_cases e : x = xo + j ∧ y = yo + k
  · obtain ⟨rfl, rfl⟩ := e
    omega
  · omega
theorem thF_row (f : Nat → Nat → Bool) (P : Nat → Nat → Nat) (T xo yo k : Nat) : thF f P T xo yo k 8 = thF f P T xo yo (k + 1) 0 := by
  funext x y
  unfold thF
  congr 1
  rw [decide_eq_decide]
  omega

/-- The pixels of a picture in the bytes at G. -/
def Pix (w : World) (G W H : Nat) (P : Nat → Nat → Nat) : Prop := ∀ x y, x < W → y < H → w.cell? ⟨G, y * W + x, none⟩ = some (.int .u8 (P x y : Nat))
theorem Pix.mod {S : Nat → Prop} {w w' : World} {G W H : Nat} {P : Nat → Nat → Nat} (h : Pix w G W H P) (hm : QZ.Mod S w w') (hS : ¬ S G) : Pix w' G W H P := fun x y hx hy => cell_mod hm hS (h x y hx hy)

set_option maxRecDepth 20000 in
set_option maxHeartbeats 1600000 in
theorem thBlock_c (w : World) (this : Value) (G cap W H N p B rs : Nat) (ws : List Nat) (f : Nat → Nat → Bool) (P : Nat → Nat → Nat) (hp : Pix w G W H P) (hP : ∀ x y, P x y < 256) (hb : BM w p B W H rs ws f) (hG : G ≠ B) (hN : W * H = N) (xo yo T : Nat) (hx : xo + 8 ≤ W) (hy : yo + 8 ≤ H) (_hT : T < 256) (hW : W ≤ 300) (hH : H ≤ 300) :
    Calls Tryz.prog 329 #[this, .slice (some ⟨G, 0, none⟩) N cap, .int .i64 xo, .int .i64 yo, .int .i64 T, .int .i64 W, .pointer (some ⟨p, 0, none⟩)] w (fun e w' => e = .returned (.tuple #[]) ∧ ∃ ws', BM w' p B W H rs ws' (thF f P T xo yo 8 0) ∧ QZ.Mod (fun k => k = B) w w') := by
  obtain ⟨o, ho⟩ : ∃ o, yo * W = o := ⟨_, rfl⟩
  have hoi : (yo : Int) * (W : Int) = (o : Int) := by rw [← ho]; exact (Int.natCast_mul yo W).symm
  have hol : o ≤ 90000 := by rw [← ho]; exact Nat.le_trans (Nat.mul_le_mul (show yo ≤ 300 by omega) hW) (by decide)
  have Hp := Lib.hid hp
  have HP := Lib.hid hP
  have Hb := Lib.hid hb
  have HN := Lib.hid hN
  have Ho := Lib.hid ho
  clear hp hP hb hN ho
  go_enter Tryz.func329, Tryz.ntmps329
  go_wp2_with fail
  go_loopw [14, 15, 16] (fun a b _ wr => ∃ k q : Nat, k ≤ 8 ∧ a = .int .i64 k ∧ b = .int .i64 q ∧ q = (yo + k) * W + xo ∧ (∃ ws', BM wr p B W H rs ws' (thF f P T xo yo k 0)) ∧ QZ.Mod (fun k => k = B) w wr) (fun a _ _ _ => 8 - (intOf a).toNat)
  case atStart => exact ⟨0, o + xo, by omega, rfl, by go_num, by rw [Nat.add_zero, Ho.out], ⟨ws, by rw [thF_zero]; exact Hb.out⟩, QZ.Mod.refl _ _⟩
  case round =>
    obtain ⟨k, q, hk, rfl, rfl, hq, ⟨us, hbm⟩, hm⟩ := hrel
    by_cases hlt : k < 8
    · have hqN : q + 8 ≤ N := by
        have e1 : (yo + k) * W + W ≤ H * W := by rw [← Nat.succ_mul]; exact Nat.mul_le_mul_right W (by omega)
        have e2 := HN.out
        rw [Nat.mul_comm] at e2
        omega
      have hNl : N ≤ 90000 := by rw [← HN.out]; exact Nat.le_trans (Nat.mul_le_mul hW hH) (by decide)
      have hnext : q + W = (yo + (k + 1)) * W + xo := by rw [hq, ← Nat.add_assoc yo k 1, Nat.succ_mul]; omega
      have Hq := Lib.hid hq
      have Hbm := Lib.hid hbm
      have Hm := Lib.hid hm
      have Hnext := Lib.hid hnext
      clear hq hbm hm hnext
      go_wp2_with fail
      generalize decide ((k : Int) < 8) = bb
      go_loopw [16] (fun a wr => ∃ j : Nat, j ≤ 8 ∧ a = .int .i64 j ∧ (∃ ws', BM wr p B W H rs ws' (thF f P T xo yo k j)) ∧ QZ.Mod (fun k => k = B) w wr) (fun a _ => 8 - (intOf a).toNat)
      case atStart => exact ⟨0, by omega, rfl, ⟨us, Hbm.out⟩, Hm.out⟩
      case round =>
        obtain ⟨j, hj, rfl, ⟨us, hbm⟩, hm⟩ := hrel
        by_cases hjl : j < 8
        · have hpx := Hp.out.mod hm (show ¬ G = B from hG) (xo + j) (yo + k) (by omega) (by omega)
          rw [show (yo + k) * W + (xo + j) = q + j by rw [Hq.out]; omega] at hpx
          have hP8 := HP.out (xo + j) (yo + k)
          have hdark := thF_dark f P T xo yo k j hjl
          have hlight := thF_light f P T xo yo k j
          generalize P (xo + j) (yo + k) = g at *
          have hand := and255u g hP8
          by_cases hgT : g ≤ T
          · have hdk := hdark hgT
            have hix : (xo : Int) + (j : Int) = ((xo + j : Nat) : Int) := by omega
            have hiy : (yo : Int) + (k : Int) = ((yo + k : Nat) : Int) := by omega
            clear hdark hlight
            have Hdk := Lib.hid hdk
            have Hbm := Lib.hid hbm
            have Hm := Lib.hid hm
            have Hix := Lib.hid hix
            have Hiy := Lib.hid hiy
            clear hdk hbm hm hix hiy
            go_wp2_with fail
            rw [Hix.out, Hiy.out]
            refine (bmSet_c wr p B W H rs us _ Hbm.out (xo + j) (yo + k) (by omega) (by omega)).mono ?_
            rintro e w2 ⟨rfl, ⟨us2, hb2⟩, hm2⟩
            rw [Hdk.out] at hb2
            have hM := Hm.out.trans hm2
            have Hb2 := Lib.hid hb2
            have HM := Lib.hid hM
            clear hb2 hM
            clear hm2
            go_wp2_with fail
            go_roundw
            case rel => exact ⟨j + 1, by omega, by go_num, ⟨us2, Hb2.out⟩, HM.out⟩
            case measure => simp [intOf] <;> omega
          · have hlk := hlight hgT
            clear hdark hlight
            rw [hlk] at hbm
            have Hlk := Lib.hid hlk
            have Hbm_1 := Lib.hid hbm
            have Hm_1 := Lib.hid hm
            clear hlk hbm hm
            go_wp2_with fail
            go_roundw
            case rel => exact ⟨j + 1, by omega, by go_num, ⟨us, Hbm_1.out⟩, Hm_1.out⟩
            case measure => simp [intOf] <;> omega
        · obtain rfl : 8 = j := by omega
          rw [thF_row] at hbm
          have Hbm_1 := Lib.hid hbm
          have Hm_1 := Lib.hid hm
          clear hbm hm
          go_wp2_with fail
          go_roundw
          case rel => exact ⟨k + 1, q + W, by omega, by go_num, by go_num, Hnext.out, ⟨us, Hbm_1.out⟩, Hm_1.out⟩
          case measure => simp [intOf] <;> omega
    · obtain rfl : 8 = k := by omega
      have Hbm := Lib.hid hbm
      have Hm := Lib.hid hm
      clear hbm hm
      go_wp2_with fail
      go_end0
      exact ⟨rfl, us, Hbm.out, Hm.out⟩
end Go.Proofs.YtnpkihobbcglcaaGreatDoor
/- The dark pixels of a picture, block by block. -/
open Go Go.RowKit
namespace Go.Proofs.YtnpkihobbcglcaaGreatDoor
open Go.QZ

theorem cap_c (w : World) (this : Value) (v m : Nat) (hm : 2 ≤ m) : Calls Tryz.prog 328 #[this, .int .i64 v, .int .i64 2, .int .i64 m] w fun e w' => (∃ r : Nat, e = .returned (.int .i64 r) ∧ 2 ≤ r ∧ r ≤ m) ∧ w = w' := by
  by_cases h1 : v < 2
  · have t1 : decide ((v : Int) < 2) = true := by simp <;> omega
    go_enter Tryz.func328, Tryz.ntmps328
    go_wp2
    go_ret
    exact ⟨⟨2, rfl, by omega, hm⟩, rfl⟩
  · by_cases h2 : m < v
    · go_enter Tryz.func328, Tryz.ntmps328
      go_wp2
      go_ret
      exact ⟨⟨m, rfl, hm, by omega⟩, rfl⟩
    · go_enter Tryz.func328, Tryz.ntmps328
      go_wp2
      go_ret
      exact ⟨⟨v, rfl, by omega, by omega⟩, rfl⟩

/-- Black points below L, in rows. -/
def Points (w : World) (Q sw sh L : Nat) : Prop := ∀ y, y < sh → ∃ R, w.cell? ⟨Q, y, none⟩ = some (.slice (some ⟨R, 0, none⟩) sw sw) ∧ ∀ x, x < sw → ∃ v : Nat, w.cell? ⟨R, x, none⟩ = some (.int .i64 v) ∧ v < L
theorem Points.old {S : Nat → Prop} {w w' : World} {Q sw sh L : Nat} (h : Points w Q sw sh L) (hm : QZ.Mod S w w') (hS : ∀ k, S k → w.heap.size ≤ k) : Points w' Q sw sh L := fun y hy => by
  obtain ⟨R, h1, h2⟩ := h y hy
  refine ⟨R, cell_old hm hS h1, fun x hx => ?_⟩
  obtain ⟨v, h3, h4⟩ := h2 x hx
  exact ⟨v, cell_old hm hS h3, h4⟩

/-- What is dark is 0; all that is 0 among the first blocks is dark. -/
def Cov (f : Nat → Nat → Bool) (P : Nat → Nat → Nat) (W H k j : Nat) : Prop := (∀ x y, f x y = true → P x y = 0) ∧ ∀ x y, x < W → y < H → (y < 8 * k ∨ (y < 8 * k + 8 ∧ x < 8 * j)) → P x y = 0 → f x y = true
theorem Cov.step {f : Nat → Nat → Bool} {P : Nat → Nat → Nat} {W H k j L T xo yo : Nat} (h : Cov f P W H k j) (hP : ∀ x y, P x y = 0 ∨ P x y = L) (hT : T < L) (hx : xo = if W - 8 < 8 * j then W - 8 else 8 * j) (hy : yo = if H - 8 < 8 * k then H - 8 else 8 * k) (hW : 8 ≤ W) (hH : 8 ≤ H) : Cov (thF f P T xo yo 8 0) P W H k (j + 1) := by
  refine ⟨fun x y hf => ?_, fun x y hxW hyH hc h0 => ?_⟩
  · unfold thF at hf
    rw [Bool.or_eq_true, decide_eq_true_iff] at hf
    rcases hf with hf | hf
    · exact h.1 x y hf
    · rcases hP x y with e | e
      · exact e
      · omega
  · unfold thF
    rw [Bool.or_eq_true, decide_eq_true_iff]
    by_cases c : y < 8 * k ∨ (y < 8 * k + 8 ∧ x < 8 * j)
    · exact .inl (h.2 x y hxW hyH c h0)
    · right
      refine ⟨by omega, ?_, ?_, ?_, ?_⟩
      all_goals (split at hx <;> split at hy <;> omega)
theorem Cov.row {f : Nat → Nat → Bool} {P : Nat → Nat → Nat} {W H k j : Nat} (h : Cov f P W H k j) (hj : W ≤ 8 * j) : Cov f P W H (k + 1) 0 := ⟨h.1, fun x y hx hy hc h0 => h.2 x y hx hy (by omega) h0⟩
theorem Cov.all {f : Nat → Nat → Bool} {P : Nat → Nat → Nat} {W H k : Nat} (h : Cov f P W H k 0) (hk : H ≤ 8 * k) (x y : Nat) (hx : x < W) (hy : y < H) : f x y = decide (P x y = 0) := by
  by_cases h0 : P x y = 0
  · exact (h.2 x y hx hy (.inl (by omega)) h0).trans (decide_eq_true h0).symm
  · have : f x y ≠ true := fun e => h0 (h.1 x y e)
    exact (Bool.eq_false_iff.2 this).trans (decide_eq_false h0).symm

set_option maxRecDepth 20000 in
set_option maxHeartbeats 1600000 in
theorem thAll_c (w : World) (this : Value) (G cap W H N p B rs sw sh Q L : Nat) (ws : List Nat) (P : Nat → Nat → Nat) (hp : Pix w G W H P) (hP : ∀ x y, P x y = 0 ∨ P x y = L) (hL : 1 ≤ L) (hL2 : L < 256) (hb : BM w p B W H rs ws (fun _ _ => false)) (hN : W * H = N) (hW1 : 40 ≤ W) (hH1 : 40 ≤ H) (hW : W ≤ 300) (hH : H ≤ 300)
    (hsw : sw = (W + 7) / 8) (hsh : sh = (H + 7) / 8) (hq : Points w Q sw sh L) (hG : G ≠ B) (hQ : Q ≠ B) (hQ2 : ∀ y, y < sh → ∀ R, w.cell? ⟨Q, y, none⟩ = some (.slice (some ⟨R, 0, none⟩) sw sw) → R ≠ B) :
    Calls Tryz.prog 327 #[this, .slice (some ⟨G, 0, none⟩) N cap, .int .i64 sw, .int .i64 sh, .int .i64 W, .int .i64 H, .slice (some ⟨Q, 0, none⟩) sh sh, .pointer (some ⟨p, 0, none⟩)] w (fun e w' => e = .returned (.tuple #[]) ∧ ∃ ws' f', BM w' p B W H rs ws' f' ∧ (∀ x y, x < W → y < H → f' x y = decide (P x y = 0)) ∧ QZ.Mod (fun k => k = B) w w') := by
  have hP8 : ∀ x y, P x y < 256 := fun x y => by rcases hP x y with e | e <;> omega
  have hs5 : 5 ≤ sw ∧ sw ≤ 38 := by omega
  have hs6 : 5 ≤ sh ∧ sh ≤ 38 := by omega
  obtain ⟨hs5a, hs5b⟩ := hs5
  obtain ⟨hs6a, hs6b⟩ := hs6
  have hc0 : Cov (fun _ _ => false) P W H 0 0 := ⟨fun x y h => (by cases h), fun x y hx hy h => by omega⟩
  obtain ⟨K, hK⟩ : ∃ K, L - 1 = K := ⟨_, rfl⟩
  have hpt : ∀ wx, QZ.Mod (fun k => k = B) w wx → ∀ y, y < sh → ∃ R, wx.cell? ⟨Q, y, none⟩ = some (.slice (some ⟨R, 0, none⟩) sw sw) ∧ ∀ x, x < sw → ∃ v : Nat, wx.cell? ⟨R, x, none⟩ = some (.int .i64 v) ∧ v ≤ K := fun wx hx y hy => by
    obtain ⟨R, h1, h2⟩ := hq y hy
    refine ⟨R, cell_mod hx (show ¬ Q = B from hQ) h1, fun x hxs => ?_⟩
    obtain ⟨v, h3, h4⟩ := h2 x hxs
    exact ⟨v, cell_mod hx (hQ2 y hy R h1) h3, by omega⟩
  obtain ⟨h8, hh8⟩ : ∃ h8, H - 8 = h8 := ⟨_, rfl⟩
  obtain ⟨w8, hw8⟩ : ∃ w8, W - 8 = w8 := ⟨_, rfl⟩
  have hh8i : (H : Int) - 8 = (h8 : Int) := by omega
  have hw8i : (W : Int) - 8 = (w8 : Int) := by omega
  obtain ⟨s3, hs3⟩ : ∃ s3, sh - 3 = s3 := ⟨_, rfl⟩
  have hs3i : (sh : Int) - 3 = (s3 : Int) := by omega
  obtain ⟨r3, hr3⟩ : ∃ r3, sw - 3 = r3 := ⟨_, rfl⟩
  have hr3i : (sw : Int) - 3 = (r3 : Int) := by omega
  have hhl : h8 ≤ 292 ∧ w8 ≤ 292 := by omega
  obtain ⟨hhl1, hhl2⟩ := hhl
  have Hp := Lib.hid hp
  have HP := Lib.hid hP
  have Hb := Lib.hid hb
  have HN := Lib.hid hN
  have Hsw := Lib.hid hsw
  have Hsh := Lib.hid hsh
  have Hq := Lib.hid hq
  have Hc0 := Lib.hid hc0
  have HK := Lib.hid hK
  have Hpt := Lib.hid hpt
  have HP8 := Lib.hid hP8
  have Hh8 := Lib.hid hh8
  have Hw8 := Lib.hid hw8
  have Hs3 := Lib.hid hs3
  have Hr3 := Lib.hid hr3
  clear hp hP hb hN hsw hsh hq hc0 hK hpt hP8 hh8 hw8 hs3 hr3
  go_enter Tryz.func327, Tryz.ntmps327
  go_wp2_with fail
  go_loopw [18, 19, 20, 21, 22, 23, 24, 25, 26, 27] (fun a _ _ _ _ _ _ _ _ _ wr => ∃ k : Nat, k ≤ sh ∧ a = .int .i64 k ∧ (∃ ws' f', BM wr p B W H rs ws' f' ∧ Cov f' P W H k 0) ∧ QZ.Mod (fun k => k = B) w wr) (fun a _ _ _ _ _ _ _ _ _ _ => sh - (intOf a).toNat)
  case atStart => exact ⟨0, by omega, rfl, ⟨ws, _, Hb.out, Hc0.out⟩, QZ.Mod.refl _ _⟩
  case round =>
    obtain ⟨k, hk, rfl, ⟨us, f, hbm, hcv⟩, hm⟩ := hrel
    by_cases hlt : k < sh
    · obtain ⟨k8, hk8⟩ : ∃ k8, 8 * k = k8 := ⟨_, rfl⟩
      have hk8i : (k : Int) * 8 = (k8 : Int) := by omega
      have Hbm := Lib.hid hbm
      have Hcv := Lib.hid hcv
      have Hm := Lib.hid hm
      have Hk8 := Lib.hid hk8
      clear hbm hcv hm hk8
      by_cases hgy : h8 < k8
      all_goals
        go_wp2_with fail
        refine (cap_c wr this k s3 (by have := Hs3.out; omega)).mono ?_
        rintro e w2 ⟨⟨top, rfl, ht1, ht2⟩, rfl⟩
        go_wp2_with fail
        generalize decide ((k : Int) < (sh : Int)) = bb
        go_loopw [21, 22, 23, 24, 25, 26, 27] (fun a _ _ _ _ _ _ wr => ∃ j : Nat, j ≤ sw ∧ a = .int .i64 j ∧ (∃ ws' f', BM wr p B W H rs ws' f' ∧ Cov f' P W H k j) ∧ QZ.Mod (fun k => k = B) w wr) (fun a _ _ _ _ _ _ _ => sw - (intOf a).toNat)
        case atStart => exact ⟨0, by omega, rfl, ⟨us, f, Hbm.out, Hcv.out⟩, Hm.out⟩
        case round =>
          obtain ⟨j, hj, rfl, ⟨us, f, hbm, hcv⟩, hm⟩ := hrel
          by_cases hjl : j < sw
          · obtain ⟨j8, hj8⟩ : ∃ j8, 8 * j = j8 := ⟨_, rfl⟩
            have hj8i : (j : Int) * 8 = (j8 : Int) := by omega
            have Hbm_1 := Lib.hid hbm
            have Hcv_1 := Lib.hid hcv
            have Hm_1 := Lib.hid hm
            have Hj8 := Lib.hid hj8
            clear hbm hcv hm hj8
            by_cases hgx : w8 < j8
            all_goals
              go_wp2_with fail
              refine (cap_c wr this j r3 (by have := Hr3.out; omega)).mono ?_
              rintro e w2 ⟨⟨lf, rfl, hf1, hf2⟩, rfl⟩
              go_wp2_with fail
              obtain ⟨wo, hwo⟩ : ∃ wo : World, wo = wr := ⟨_, rfl⟩
              subst hwo
              go_loopw [25, 24, 26] (fun a s _ wz => ∃ n t : Nat, n ≤ 5 ∧ a = .int .i64 ((n : Int) - 2) ∧ s = .int .i64 t ∧ t ≤ n * (5 * K) ∧ QZ.Mod (fun _ => False) wo wz) (fun a _ _ _ => (3 - intOf a).toNat)
              case atStart => exact ⟨0, 0, by omega, rfl, rfl, by omega, QZ.Mod.refl _ _⟩
              case round =>
                obtain ⟨n, t, hn, rfl, rfl, ht, hmz⟩ := hrel
                by_cases hn5 : n < 5
                · have tz : decide ((n : Int) - 2 ≤ 2) = true := by simp <;> omega
                  obtain ⟨r, hr⟩ : ∃ r, top + n - 2 = r := ⟨_, rfl⟩
                  have hri : (top : Int) + ((n : Int) - 2) = (r : Int) := by omega
                  have hMz := Hm_1.out.trans hmz.none
                  obtain ⟨R, c1, c2⟩ := Hpt.out _ hMz r (by have := Hs3.out; omega)
                  obtain ⟨q0, hq0⟩ : ∃ q, lf - 2 = q := ⟨_, rfl⟩
                  obtain ⟨q1, hq1⟩ : ∃ q, lf - 1 = q := ⟨_, rfl⟩
                  obtain ⟨q3, hq3⟩ : ∃ q, lf + 1 = q := ⟨_, rfl⟩
                  obtain ⟨q4, hq4⟩ : ∃ q, lf + 2 = q := ⟨_, rfl⟩
                  have i0 : (lf : Int) - 2 = (q0 : Int) := by omega
                  have i1 : (lf : Int) - 1 = (q1 : Int) := by omega
                  have i3 : (lf : Int) + 1 = (q3 : Int) := by omega
                  have i4 : (lf : Int) + 2 = (q4 : Int) := by omega
                  have hr3' := Hr3.out
                  obtain ⟨v0, a0, b0⟩ := c2 q0 (by omega)
                  obtain ⟨v1, a1, b1⟩ := c2 q1 (by omega)
                  obtain ⟨v2, a2, b2⟩ := c2 lf (by omega)
                  obtain ⟨v3, a3, b3⟩ := c2 q3 (by omega)
                  obtain ⟨v4, a4, b4⟩ := c2 q4 (by omega)
                  have l0 : q0 < sw := by omega
                  have l1 : q1 < sw := by omega
                  have l2 : lf < sw := by omega
                  have l3 : q3 < sw := by omega
                  have l4 : q4 < sw := by omega
                  have lr : r < sh := by have := Hs3.out; omega
                  have hKl : K ≤ 254 := by have := HK.out; omega
                  have htl : t ≤ 10000 := by
                    have : n * (5 * K) ≤ 5 * (5 * K) := Nat.mul_le_mul_right _ hn
                    omega
                  have hnxt : t + (v0 + v1 + v2 + v3 + v4) ≤ (n + 1) * (5 * K) := by rw [Nat.succ_mul]; omega
                  clear c2
                  have Hr := Lib.hid hr
                  have HMz := Lib.hid hMz
                  have Hq0 := Lib.hid hq0
                  have Hq1 := Lib.hid hq1
                  have Hq3 := Lib.hid hq3
                  have Hq4 := Lib.hid hq4
                  have Hr3' := Lib.hid hr3'
                  have Ht := Lib.hid ht
                  have Hmz := Lib.hid hmz
                  have Hnxt := Lib.hid hnxt
                  clear hr hMz hq0 hq1 hq3 hq4 hr3' ht hmz hnxt
                  go_wp2_with fail
                  go_quiet (fail)
                  go_wp2_with fail
                  go_roundw
                  case rel => exact ⟨n + 1, t + (v0 + v1 + v2 + v3 + v4), by omega, by go_num, by go_num, Hnxt.out, Hmz.out.trans (mod_drewN _ _ _)⟩
                  case measure => simp [intOf] <;> omega
                · obtain rfl : 5 = n := by omega
                  have hKl : K ≤ 254 := by have := HK.out; omega
                  obtain ⟨T, hT⟩ : ∃ T, t / 25 = T := ⟨_, rfl⟩
                  have hTK : T ≤ K := by omega
                  have hTi : (t : Int) / 25 = (T : Int) := by omega
                  have htl : t ≤ 10000 := by omega
                  have hMz := Hm_1.out.trans hmz.none
                  have hpz := Hp.out.mod hMz (show ¬ G = B from hG)
                  have hbz := Hbm_1.out.mod hmz (fun f => f) (fun f => f)
                  have hTL : T < L := by have := HK.out; omega
                  have HMz := Lib.hid hMz
                  have Hpz := Lib.hid hpz
                  have Hbz := Lib.hid hbz
                  have Hmz := Lib.hid hmz
                  have Ht := Lib.hid ht
                  have HT := Lib.hid hT
                  clear hMz hpz hbz hmz ht hT
                  go_wp2_with fail
                  refine (thBlock_c _ this G cap W H N p B rs us f P Hpz.out HP8.out Hbz.out hG HN.out _ _ T (by have := Hw8.out; omega) (by have := Hh8.out; omega) (by omega) hW hH).mono ?_
                  rintro e w3 ⟨rfl, us3, hb3, hm3⟩
                  have hcv3 : ∃ f3, BM w3 p B W H rs us3 f3 ∧ Cov f3 P W H k (j + 1) := ⟨_, hb3, Hcv_1.out.step (L := L) HP.out hTL (by have := Hw8.out; have := Hj8.out; split <;> omega) (by have := Hh8.out; have := Hk8.out; split <;> omega) (by omega) (by omega)⟩
                  obtain ⟨f3, hb4, hcv4⟩ := hcv3
                  have hM3 := HMz.out.trans hm3
                  clear hb3 hm3
                  have Hb4 := Lib.hid hb4
                  have Hcv4 := Lib.hid hcv4
                  have HM3 := Lib.hid hM3
                  clear hb4 hcv4 hM3
                  go_wp2_with fail
                  go_roundw
                  case rel => exact ⟨j + 1, by omega, by go_num, ⟨us3, f3, Hb4.out, Hcv4.out⟩, HM3.out⟩
                  case measure => simp [intOf] <;> omega
          · obtain rfl : sw = j := by omega
            have hcv2 := hcv.row (by have := Hsw.out; omega)
            have Hbm_1 := Lib.hid hbm
            have Hcv2 := Lib.hid hcv2
            have Hm_1 := Lib.hid hm
            clear hbm hcv2 hm
            go_wp2_with fail
            go_roundw
            case rel => exact ⟨k + 1, by omega, by go_num, ⟨us, f, Hbm_1.out, Hcv2.out⟩, Hm_1.out⟩
            case measure => simp [intOf] <;> omega
    · obtain rfl : sh = k := by omega
      have hall := fun x y hx hy => hcv.all (by have := Hsh.out; omega) x y hx hy
      have Hbm := Lib.hid hbm
      have Hm := Lib.hid hm
      have Hall := Lib.hid hall
      clear hbm hm hall
      go_wp2_with fail
      go_end0
      exact ⟨rfl, us, f, Hbm.out, Hall.out, Hm.out⟩
end Go.Proofs.YtnpkihobbcglcaaGreatDoor
/- Black points of blocks of eight by eight. -/
open Go Go.RowKit
namespace Go.Proofs.YtnpkihobbcglcaaGreatDoor
open Go.QZ

theorem iRow117 : (Tryz.prog.info? 117).map (fun i => (i.zero, i.size, i.bytes)) = some (some (.slice none 0 0), 1, 24) := by kernel_rfl

/-- A row of numbers below L. -/
def RowL (w : World) (R sw L : Nat) : Prop := ∃ vs : List Nat, vs.length = sw ∧ Blk w R (cellsN .i64 vs) ∧ ∀ v ∈ vs, v < L
theorem RowL.mod {S : Nat → Prop} {w w' : World} {R sw L : Nat} (h : RowL w R sw L) (hm : QZ.Mod S w w') (hS : ¬ S R) : RowL w' R sw L := by
  obtain ⟨vs, h1, h2, h3⟩ := h
  exact ⟨vs, h1, hm.blk hS h2, h3⟩
theorem RowL.get {w : World} {R sw L : Nat} (h : RowL w R sw L) (x : Nat) (hx : x < sw) : ∃ v : Nat, w.cell? ⟨R, x, none⟩ = some (.int .i64 v) ∧ v < L := by
  obtain ⟨vs, h1, h2, h3⟩ := h
  refine ⟨nth vs x, ?_, ?_⟩
  · rw [h2.cell, cellsN_get _ _ _ (by omega)]
  · unfold nth
    rw [List.getD_eq_getElem?_getD, List.getElem?_eq_getElem (by omega)]
    exact h3 _ (List.getElem_mem _)
theorem RowL.set {w : World} {R sw L : Nat} (h : RowL w R sw L) (x v : Nat) (hv : v < L) : RowL (w.setCell ⟨R, x, none⟩ (.int .i64 v)) R sw L := by
  obtain ⟨vs, h1, h2, h3⟩ := h
  refine ⟨vs.set x v, by rw [List.length_set]; exact h1, ?_, fun y hy => ?_⟩
  · have := h2.set x (.int .i64 v)
    rwa [cellsN_set] at this
  · rcases List.mem_or_eq_of_mem_set hy with h | h
    · exact h3 y h
    · rw [h]; exact hv
theorem RowL.lt {w : World} {R sw L : Nat} (h : RowL w R sw L) : R < w.heap.size := by
  obtain ⟨vs, h1, h2, h3⟩ := h
  exact h2.lt

/-- The first k rows of black points are there. -/
def PtTo (w : World) (Q sw sh L k : Nat) (wr : World) : Prop := ∃ qs : List Value, Blk wr Q qs ∧ qs.length = sh ∧ (∀ y, y < k → ∃ R, qs[y]? = some (.slice (some ⟨R, 0, none⟩) sw sw) ∧ Q < R ∧ RowL wr R sw L) ∧ QZ.Mod (fun j => Q ≤ j) w wr
theorem PtTo.row {w wr : World} {Q sw sh L k : Nat} (h : PtTo w Q sw sh L k wr) (y : Nat) (hy : y < k) : ∃ R, wr.cell? ⟨Q, y, none⟩ = some (.slice (some ⟨R, 0, none⟩) sw sw) ∧ RowL wr R sw L := by
  obtain ⟨qs, h1, h2, h3, h4⟩ := h
  obtain ⟨R, a, b, c⟩ := h3 y hy
  exact ⟨R, by rw [h1.cell]; exact a, c⟩
theorem PtTo.put {w wr : World} {Q sw sh L k R : Nat} (h : PtTo w Q sw sh L k wr) (y : Nat) (hy : y < k) (hR : wr.cell? ⟨Q, y, none⟩ = some (.slice (some ⟨R, 0, none⟩) sw sw)) (x v : Nat) (hv : v < L) : PtTo w Q sw sh L k (wr.setCell ⟨R, x, none⟩ (.int .i64 v)) := by
  obtain ⟨qs, h1, h2, h3, h4⟩ := h
  obtain ⟨R', a, b, c⟩ := h3 y hy
  have : R' = R := by
    rw [h1.cell, a] at hR
    injection hR with hR
    injection hR with e1 _ _
    injection e1 with e1
    injection e1
  subst this
  have hs := (QZ.Mod.refl (fun q => q = R') wr).setCell (p := ⟨R', x, none⟩) (.inr rfl) (.int .i64 v)
  refine ⟨qs, hs.blk (by omega) h1, h2, fun z hz => ?_, h4.trans (hs.mono (fun q _ hq => by omega))⟩
  obtain ⟨R2, a2, b2, c2⟩ := h3 z hz
  refine ⟨R2, a2, b2, ?_⟩
  by_cases e : R2 = R'
  · subst e; exact c2.set x v hv
  · exact c2.mod hs (fun h => e h)
theorem PtTo.drew {w wr : World} {Q sw sh L k : Nat} (h : PtTo w Q sw sh L k wr) (n : Nat) : PtTo w Q sw sh L k (wr.drewN n) := by
  obtain ⟨qs, h1, h2, h3, h4⟩ := h
  exact ⟨qs, h1, h2, fun y hy => by
    obtain ⟨R, a, b, c⟩ := h3 y hy
    exact ⟨R, a, b, c.mod (mod_drewN (fun _ => False) wr n) (fun f => f)⟩, h4.trans (mod_drewN _ _ _)⟩
/-- A new row. -/
theorem PtTo.grow {w wr : World} {Q sw sh L k : Nat} (h : PtTo w Q sw sh L k wr) (hk : k < sh) (hL : 1 ≤ L) : PtTo w Q sw sh L (k + 1) ((wr.alloc (zrow 3 (.int .i64 0) sw)).setCell ⟨Q, k, none⟩ (.slice (some ⟨wr.heap.size, 0, none⟩) sw sw)) := by
  obtain ⟨qs, h1, h2, h3, h4⟩ := h
  have hQl := h1.lt
  have hm := (QZ.Mod.refl (fun _ => False) wr).alloc (zrow 3 (.int .i64 0) sw)
  have hb1 := h1.alloc (zrow 3 (.int .i64 0) sw)
  have hs := (QZ.Mod.refl (fun q => q = Q) (wr.alloc (zrow 3 (.int .i64 0) sw))).setCell (p := ⟨Q, k, none⟩) (.inr rfl) (.slice (some ⟨wr.heap.size, 0, none⟩) sw sw)
  have hnew : RowL (wr.alloc (zrow 3 (.int .i64 0) sw)) wr.heap.size sw L := by
    refine ⟨List.replicate sw 0, by rw [List.length_replicate], ?_, fun v hv => by rw [List.eq_of_mem_replicate hv]; omega⟩
    rw [← cellsN_rep]; exact Blk.made wr 3 _ sw
  refine ⟨qs.set k (.slice (some ⟨wr.heap.size, 0, none⟩) sw sw), hb1.set k _, by rw [List.length_set]; exact h2, fun y hy => ?_, (h4.trans hm.none).trans (hs.mono (fun q _ hq => by omega))⟩
  by_cases e : y = k
  · subst e
    exact ⟨wr.heap.size, by rw [List.getElem?_set_self (by omega)], hQl, hnew.mod hs (by omega)⟩
  · obtain ⟨R, a, b, c⟩ := h3 y (by omega)
    exact ⟨R, by rw [List.getElem?_set_ne (Ne.symm e)]; exact a, b, (c.mod hm (fun f => f)).mod hs (by omega)⟩
theorem PtTo.frozen {w wr : World} {Q sw sh L k : Nat} (h : PtTo w Q sw sh L k wr) (y : Nat) : wr.frozen? ⟨Q, y, none⟩ = false := by
  obtain ⟨qs, h1, _⟩ := h
  exact h1.frozen y
theorem PtTo.cell {w wr : World} {Q sw sh L k : Nat} (h : PtTo w Q sw sh L k wr) (y : Nat) (hy : y < sh) : ∃ v, wr.cell? ⟨Q, y, none⟩ = some v := by
  obtain ⟨qs, h1, h2, _⟩ := h
  exact ⟨qs[y]'(by omega), by rw [h1.cell]; exact List.getElem?_eq_getElem (by omega)⟩
theorem PtTo.mod {w wr : World} {Q sw sh L k : Nat} (h : PtTo w Q sw sh L k wr) : QZ.Mod (fun j => Q ≤ j) w wr := by
  obtain ⟨qs, h1, h2, h3, h4⟩ := h
  exact h4
end Go.Proofs.YtnpkihobbcglcaaGreatDoor
