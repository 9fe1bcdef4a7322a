/- Part 8 of the proof of FnPXQuick (a QR code that is written for a text says this text in a picture): parts of the road. No condition. -/
import Derived.Test.YtnpkihobbcglcaaGreatDoorG06
/- BitMatrix in memory: what its modules are; one set, one flipped. -/
open Go Go.RowKit
namespace Go.Proofs.YtnpkihobbcglcaaGreatDoor
open Go.QZ

def updB (f : Nat → Nat → Bool) (x y : Nat) (b : Bool) : Nat → Nat → Bool := fun a c => if a = x ∧ c = y then b else f a c

/-- A BitMatrix at block p, its words in block B. -/
structure BM (w : World) (p B W H rs : Nat) (ws : List Nat) (f : Nat → Nat → Bool) : Prop where
  head : Blk w p [.int .i64 W, .int .i64 H, .int .i64 rs, .slice (some ⟨B, 0, none⟩) ws.length ws.length]
  words : Blk w B (cellsN .u32 ws)
  ne : p ≠ B
  rsE : rs = (W + 31) / 32
  len : ws.length = H * rs
  sW : W ≤ 1000
  sH : H ≤ 1000
  lt : ∀ x ∈ ws, x < 4294967296
  bits : ∀ x y, x < W → y < H → (nth ws (y * rs + x / 32)).testBit (x % 32) = f x y

section
variable {w : World} {p B W H rs : Nat} {ws : List Nat} {f : Nat → Nat → Bool}

theorem BM.mod {S : Nat → Prop} {w' : World} (h : BM w p B W H rs ws f) (hm : QZ.Mod S w w') (hp : ¬ S p) (hB : ¬ S B) : BM w' p B W H rs ws f :=
  ⟨hm.blk hp h.head, hm.blk hB h.words, h.ne, h.rsE, h.len, h.sW, h.sH, h.lt, h.bits⟩
theorem BM.congr {g : Nat → Nat → Bool} (h : BM w p B W H rs ws f) (e : ∀ x y, x < W → y < H → f x y = g x y) : BM w p B W H rs ws g :=
  ⟨h.head, h.words, h.ne, h.rsE, h.len, h.sW, h.sH, h.lt, fun x y hx hy => (h.bits x y hx hy).trans (e x y hx hy)⟩
theorem BM.c0 (h : BM w p B W H rs ws f) : w.cell? ⟨p, 0, none⟩ = some (.int .i64 W) := by rw [h.head.cell]; rfl
theorem BM.c1 (h : BM w p B W H rs ws f) : w.cell? ⟨p, 1, none⟩ = some (.int .i64 H) := by rw [h.head.cell]; rfl
theorem BM.c2 (h : BM w p B W H rs ws f) : w.cell? ⟨p, 2, none⟩ = some (.int .i64 rs) := by rw [h.head.cell]; rfl
theorem BM.c3 (h : BM w p B W H rs ws f) : w.cell? ⟨p, 3, none⟩ = some (.slice (some ⟨B, 0, none⟩) ws.length ws.length) := by rw [h.head.cell]; rfl
theorem BM.cw (h : BM w p B W H rs ws f) (j : Nat) (hj : j < ws.length) : w.cell? ⟨B, j, none⟩ = some (.int .u32 (nth ws j : Nat)) := by
  rw [h.words.cell, cellsN_get _ _ _ hj]
theorem BM.wlt (h : BM w p B W H rs ws f) (j : Nat) : nth ws j < 4294967296 := nth_lt (by decide) h.lt j
theorem row_lt {H rs y a : Nat} (hy : y < H) (ha : a < rs) : y * rs + a < H * rs := by
  have := Nat.mul_le_mul_right rs (show y + 1 ≤ H from hy)
  rw [Nat.succ_mul] at this; omega
theorem BM.off (h : BM w p B W H rs ws f) {x y : Nat} (hx : x < W) (hy : y < H) : y * rs + x / 32 < ws.length := by
  rw [h.len]; exact row_lt hy (by rw [h.rsE]; omega)
theorem BM.few (h : BM w p B W H rs ws f) : ws.length ≤ 32000 ∧ rs ≤ 32 := by
  have h1 := h.rsE; have h2 := h.sW; have h3 := h.sH
  have hr : rs ≤ 32 := by omega
  refine ⟨?_, hr⟩
  rw [h.len]
  exact Nat.le_trans (Nat.mul_le_mul h3 hr) (by decide)
theorem row_inj {rs a b y z : Nat} (ha : a < rs) (hb : b < rs) (h : y * rs + a = z * rs + b) : y = z ∧ a = b := by
  have h1 : (y * rs + a) / rs = y := by rw [Nat.mul_comm, Nat.mul_add_div (by omega), Nat.div_eq_of_lt ha]; rfl
  have h2 : (z * rs + b) / rs = z := by rw [Nat.mul_comm, Nat.mul_add_div (by omega), Nat.div_eq_of_lt hb]; rfl
  have e : y = z := by rw [← h1, h, h2]
  subst e
  exact ⟨rfl, by omega⟩

/-- A word of it turned. -/
theorem BM.put (h : BM w p B W H rs ws f) {x y : Nat} (hx : x < W) (hy : y < H) (v : Nat) (hv : v < 4294967296) (b : Bool)
    (hb : ∀ j, j < 32 → v.testBit j = if j = x % 32 then b else (nth ws (y * rs + x / 32)).testBit j) :
    BM (w.setCell ⟨B, y * rs + x / 32, none⟩ (.int .u32 (v : Nat))) p B W H rs (ws.set (y * rs + x / 32) v) (updB f x y b) := by
  have ho := h.off hx hy
  have hr := h.rsE
  refine ⟨?_, ?_, h.ne, h.rsE, by rw [List.length_set]; exact h.len, h.sW, h.sH, fun u hu => ?_, fun a c ha hc => ?_⟩
  · rw [List.length_set]; exact h.head.set_other h.ne _
  · have := h.words.set (y * rs + x / 32) (.int .u32 (v : Nat))
    rwa [cellsN_set] at this
  · rcases List.mem_or_eq_of_mem_set hu with hu | hu
    · exact h.lt u hu
    · rw [hu]; exact hv
  · rw [nth_set _ _ _ _ ho]
    unfold updB
    by_cases e : c * rs + a / 32 = y * rs + x / 32
    · obtain ⟨e1, e2⟩ := row_inj (by omega) (by omega) e
      subst e1
      rw [if_pos e, hb _ (Nat.mod_lt _ (by decide))]
      by_cases e3 : a % 32 = x % 32
      · rw [if_pos e3, if_pos ⟨by omega, rfl⟩]
      · rw [if_neg e3, if_neg (fun he => e3 (by rw [he.1])), ← e2]
        exact h.bits a c ha hc
    · rw [if_neg e, if_neg (fun he => e (by rw [he.1, he.2]))]
      exact h.bits a c ha hc
theorem BM.set (h : BM w p B W H rs ws f) {x y : Nat} (hx : x < W) (hy : y < H) :
    BM (w.setCell ⟨B, y * rs + x / 32, none⟩ (.int .u32 (orb (nth ws (y * rs + x / 32)) (x % 32) : Nat))) p B W H rs (ws.set (y * rs + x / 32) (orb (nth ws (y * rs + x / 32)) (x % 32))) (updB f x y true) := by
  refine h.put hx hy _ (orb_lt (h.wlt _) (Nat.mod_lt _ (by decide))) true (fun j hj => ?_)
  unfold orb
  rw [Nat.testBit_or, Nat.testBit_two_pow]
  by_cases e : j = x % 32
  · subst e; simp
  · rw [if_neg e]
    have : decide (x % 32 = j) = false := by rw [decide_eq_false_iff_not]; exact fun h => e h.symm
    rw [this, Bool.or_false]
theorem BM.flip (h : BM w p B W H rs ws f) {x y : Nat} (hx : x < W) (hy : y < H) :
    BM (w.setCell ⟨B, y * rs + x / 32, none⟩ (.int .u32 (xw (nth ws (y * rs + x / 32)) (2 ^ (x % 32)) : Nat))) p B W H rs (ws.set (y * rs + x / 32) (xw (nth ws (y * rs + x / 32)) (2 ^ (x % 32)))) (updB f x y (!f x y)) := by
  refine h.put hx hy _ (xw_lt (h.wlt _) (pow_lt32 _ (Nat.mod_lt _ (by decide)))) _ (fun j hj => ?_)
  unfold xw
  rw [Nat.testBit_xor, Nat.testBit_two_pow]
  by_cases e : j = x % 32
  · subst e
    have := h.bits x y hx hy
    rw [if_pos rfl, ← this]; simp
  · rw [if_neg e]
    have : decide (x % 32 = j) = false := by rw [decide_eq_false_iff_not]; exact fun h => e h.symm
    rw [this, Bool.xor_false]
end
/-- What of a row's place the walk reckons. -/
theorem row_wrap {H rs y W : Nat} (hy : y < H) (hH : H ≤ 1000) (hr : rs = (W + 31) / 32) (hW : W ≤ 1000) : wrap64 ((y : Int) * (rs : Int)) = ((y * rs : Nat) : Int) ∧ y * rs ≤ 32000 := by
  have h1 : y * rs ≤ 1000 * 32 := Nat.mul_le_mul (by omega) (by omega)
  refine ⟨?_, h1⟩
  rw [← Int.natCast_mul]
  generalize y * rs = q at *
  unfold wrap64; omega
end Go.Proofs.YtnpkihobbcglcaaGreatDoor
/- BitMatrix: its functions. -/
open Go Go.RowKit
namespace Go.Proofs.YtnpkihobbcglcaaGreatDoor
open Go.QZ

/-- A matrix was turned into another one. -/
def Turned (w : World) (p B W H rs : Nat) (f : Nat → Nat → Bool) (v : Value) (e : Ending) (w' : World) : Prop :=
  e = .returned v ∧ (∃ ws, BM w' p B W H rs ws f) ∧ QZ.Mod (· = B) w w'

theorem xw_run2 {a k : Nat} (ha : a < 4294967296) (hk : k < 32) : bits .xor .u32 (a : Int) (2 ^ k % 4294967296) = (xw a (2 ^ k) : Int) := by
  have hp := pow_lt32 k hk
  have e : ((2 : Int) ^ k % 4294967296) = ((2 ^ k : Nat) : Int) := by rw [pow_cast]; generalize 2 ^ k = q at *; omega
  rw [e, xw_run ha hp]

set_option maxHeartbeats 800000 in
theorem bmSet_c (w : World) (p B W H rs : Nat) (ws : List Nat) (f : Nat → Nat → Bool) (h : BM w p B W H rs ws f) (x y : Nat) (hx : x < W) (hy : y < H) :
    Calls Tryz.prog 148 #[.pointer (some ⟨p, 0, none⟩), .int .i64 x, .int .i64 y] w (Turned w p B W H rs (updB f x y true) (.tuple #[])) := by
  have c2 := h.c2
  have c3 := h.c3
  have hrw := (row_wrap hy h.sH h.rsE h.sW).1
  have hql := (row_wrap hy h.sH h.rsE h.sW).2
  have ho := h.off hx hy
  have hfw := h.few.1
  have hxl := h.sW
  have cw := h.cw _ ho
  have hfr := h.words.frozen (y * rs + x / 32)
  have hor := orb_run (h.wlt (y * rs + x / 32)) (show x % 32 < 32 by omega)
  have Hset := Lib.hid (h.set hx hy)
  have Hm := Lib.hid ((QZ.Mod.refl (· = B) w).setCell (p := ⟨B, y * rs + x / 32, none⟩) (.inr rfl) (.int .u32 (orb (nth ws (y * rs + x / 32)) (x % 32) : Nat)))
  generalize nth ws (y * rs + x / 32) = v at *
  generalize y * rs = q at *
  clear h
  go_enter Tryz.func148, Tryz.ntmps148
  go_wp2_with fail
  go_end0
  exact ⟨rfl, ⟨_, Hset.out⟩, Hm.out⟩

set_option maxHeartbeats 800000 in
theorem bmFlip_c (w : World) (p B W H rs : Nat) (ws : List Nat) (f : Nat → Nat → Bool) (h : BM w p B W H rs ws f) (x y : Nat) (hx : x < W) (hy : y < H) :
    Calls Tryz.prog 196 #[.pointer (some ⟨p, 0, none⟩), .int .i64 x, .int .i64 y] w (Turned w p B W H rs (updB f x y (!f x y)) (.tuple #[])) := by
  have c2 := h.c2
  have c3 := h.c3
  have hrw := (row_wrap hy h.sH h.rsE h.sW).1
  have hql := (row_wrap hy h.sH h.rsE h.sW).2
  have ho := h.off hx hy
  have hfw := h.few.1
  have hxl := h.sW
  have cw := h.cw _ ho
  have hfr := h.words.frozen (y * rs + x / 32)
  have hor := xw_run2 (h.wlt (y * rs + x / 32)) (show x % 32 < 32 by omega)
  have Hset := Lib.hid (h.flip hx hy)
  have Hm := Lib.hid ((QZ.Mod.refl (· = B) w).setCell (p := ⟨B, y * rs + x / 32, none⟩) (.inr rfl) (.int .u32 (xw (nth ws (y * rs + x / 32)) (2 ^ (x % 32)) : Nat)))
  generalize nth ws (y * rs + x / 32) = v at *
  generalize y * rs = q at *
  clear h
  go_enter Tryz.func196, Tryz.ntmps196
  go_wp2_with fail
  go_end0
  exact ⟨rfl, ⟨_, Hset.out⟩, Hm.out⟩

/-- A new matrix, all light. -/
def NewBM (w : World) (W H : Nat) (e : Ending) (w' : World) : Prop :=
  ∃ p B rs ws, e = .returned (.tuple #[.pointer (some ⟨p, 0, none⟩), .nilIface]) ∧ BM w' p B W H rs ws (fun _ _ => false) ∧ w.heap.size ≤ p ∧ w.heap.size ≤ B ∧ QZ.Mod (fun _ => False) w w'

theorem newBM_c (w : World) (W H : Nat) (hW : 1 ≤ W) (hH : 1 ≤ H) (hW2 : W ≤ 1000) (hH2 : H ≤ 1000) : Calls Tryz.prog 147 #[.int .i64 W, .int .i64 H] w (NewBM w W H) := by
  obtain ⟨rs, hrs⟩ : ∃ rs, (W + 31) / 32 = rs := ⟨_, rfl⟩
  have hrsI : ((W : Int) + 31) / 32 = (rs : Int) := by omega
  have hr32 : rs ≤ 32 := by omega
  obtain ⟨n, hn⟩ : ∃ n, H * rs = n := ⟨_, rfl⟩
  have hn32 : n ≤ 32000 := by rw [← hn]; exact Nat.le_trans (Nat.mul_le_mul hH2 hr32) (by decide)
  have hnI : wrap64 ((rs : Int) * (H : Int)) = (n : Int) := by
    rw [← Int.natCast_mul, Nat.mul_comm, hn]; unfold wrap64; omega
  have t0 : decide ((W : Int) < 1) = false := by simp; omega
  have t1 : decide ((H : Int) < 1) = false := by simp; omega
  have hmk := make_run (P := Tryz.prog) Tryz.underlying151 iu32 rfl (n : Int) (n : Int) n n rfl rfl (Nat.le_refl _) (by omega) (by omega)
  have Hrs := Lib.hid hrs; have Hn := Lib.hid hn
  clear hrs hn
  go_enter Tryz.func147, Tryz.ntmps147
  go_wp2_with fail
  go_ret2
  have hb := (Blk.made w 204 (.int .u32 0) n).alloc (.cells #[.int .i64 W, .int .i64 H, .int .i64 rs, .slice (some ⟨w.heap.size, 0, none⟩) n n] 239)
  have hh := Blk.new (w.alloc (zrow 204 (.int .u32 0) n)) [.int .i64 W, .int .i64 H, .int .i64 rs, .slice (some ⟨w.heap.size, 0, none⟩) n n] 239
  rw [World.size_alloc] at hh
  rw [show List.replicate n (Value.int .u32 0) = cellsN .u32 (List.replicate n 0) from cellsN_rep .u32 n 0] at hb
  refine ⟨w.heap.size + 1, w.heap.size, rs, List.replicate n 0, rfl, ⟨by rw [List.length_replicate]; exact hh, hb, by omega, Hrs.out.symm, by rw [List.length_replicate]; exact Hn.out.symm, hW2, hH2, fun x hx => by rw [(List.mem_replicate.1 hx).2]; decide, fun x y _ _ => ?_⟩, by omega, by omega, (QZ.Mod.refl _ _).alloc _ |>.alloc _⟩
  unfold nth
  rw [List.getD_eq_getElem?_getD, List.getElem?_replicate]
  split <;> simp

theorem shr_bit (v k : Nat) (hv : v < 4294967296) : (bits .and .u32 ((v : Int) / 2 ^ k) 1 != 0) = v.testBit k := by
  have e : (v : Int) / 2 ^ k = ((v / 2 ^ k : Nat) : Int) := by rw [pow_cast, ← Int.natCast_ediv]
  have hl : v / 2 ^ k ≤ v := Nat.div_le_self _ _
  have h1 := and_u32_nat (v / 2 ^ k) 1 (by omega) (by decide)
  rw [show ((1 : Nat) : Int) = 1 from rfl] at h1
  rw [e, h1, Nat.testBit_eq_decide_div_mod_eq, Nat.and_one_is_mod]
  generalize v / 2 ^ k = q
  rcases Nat.mod_two_eq_zero_or_one q with e | e <;> simp [e]

set_option maxHeartbeats 800000 in
theorem bmGet_c (w : World) (p B W H rs : Nat) (ws : List Nat) (f : Nat → Nat → Bool) (h : BM w p B W H rs ws f) (x y : Nat) (hx : x < W) (hy : y < H) :
    Calls Tryz.prog 116 #[.pointer (some ⟨p, 0, none⟩), .int .i64 x, .int .i64 y] w fun e w' => e = .returned (.bool (f x y)) ∧ w = w' := by
  have c0 := h.c0
  have c1 := h.c1
  have c2 := h.c2
  have c3 := h.c3
  have hrw := (row_wrap hy h.sH h.rsE h.sW).1
  have hql := (row_wrap hy h.sH h.rsE h.sW).2
  have ho := h.off hx hy
  have hfw := h.few.1
  have hxl := h.sW
  have cw := h.cw _ ho
  have Hb := Lib.hid (h.bits x y hx hy)
  have hv := h.wlt (y * rs + x / 32)
  have t0 : decide ((x : Int) < 0) = false := by simp
  have t1 : decide ((y : Int) < 0) = false := by simp
  have t2 : decide ((W : Int) ≤ (x : Int)) = false := by simp; omega
  have t3 : decide ((H : Int) ≤ (y : Int)) = false := by simp; omega
  have t4 : decide (W ≤ x) = false := by simp; omega
  have t5 : decide (H ≤ y) = false := by simp; omega
  generalize nth ws (y * rs + x / 32) = v at *
  generalize y * rs = q at *
  clear h
  go_enter Tryz.func116, Tryz.ntmps116
  go_wp2_with fail
  go_ret
  exact ⟨by rw [← Hb.out, ← shr_bit v (x % 32) hv]; rfl, rfl⟩
end Go.Proofs.YtnpkihobbcglcaaGreatDoor
