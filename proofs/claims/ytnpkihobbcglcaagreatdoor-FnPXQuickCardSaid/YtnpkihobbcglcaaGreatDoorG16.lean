/- Part 16 of the proof of FnPXQuick (a QR code that is written for a text says this text in a picture): parts of the road. No condition. -/
import Derived.Test.YtnpkihobbcglcaaGreatDoorG03
import Derived.Test.YtnpkihobbcglcaaGreatDoorG06
/- Bits of bytes, and the number that some of them say: numbers and lists alone. -/
open Go Go.RowKit
namespace Go.Proofs.YtnpkihobbcglcaaGreatDoor
open Go.QZ

/-- Bit i of bytes, the highest one of each byte first. -/
def bitAt (xs : List Nat) (i : Nat) : Bool := (nth xs (i / 8)).testBit (7 - i % 8)
/-- The number of k bits from a place on. -/
def num (f : Nat → Bool) (i : Nat) : Nat → Nat
  | 0 => 0
  | k + 1 => 2 * num f i k + (if f (i + k) then 1 else 0)
theorem num_lt (f : Nat → Bool) (i k : Nat) : num f i k < 2 ^ k := by
  induction k with
  | zero => exact Nat.one_pos
  | succ k ih => unfold num; rw [Nat.pow_succ]; split <;> omega
theorem num_add (f : Nat → Bool) (i a b : Nat) : num f i (a + b) = num f i a * 2 ^ b + num f (i + a) b := by
  induction b with
  | zero => simp [num]
  | succ b ih =>
    show 2 * num f i (a + b) + _ = num f i a * 2 ^ (b + 1) + (2 * num f (i + a) b + _)
    rw [ih, Nat.pow_succ, Nat.mul_add, ← Nat.mul_assoc, Nat.mul_comm 2 (num f i a), Nat.mul_assoc (num f i a), Nat.mul_comm 2 (2 ^ b), Nat.add_assoc, Nat.add_assoc i a b]; rfl
theorem num_congr {f g : Nat → Bool} {i j : Nat} (k : Nat) (h : ∀ m, m < k → f (i + m) = g (j + m)) : num f i k = num g j k := by
  induction k with
  | zero => rfl
  | succ k ih => unfold num; rw [ih (fun m hm => h m (by omega)), h k (by omega)]
theorem num_byte0 : ∀ b, b < 256 → ∀ o, o < 9 → ∀ k, k < 9 → o + k ≤ 8 → num (fun i => b.testBit (7 - i)) o k = b / 2 ^ (8 - o - k) % 2 ^ k := by decide +kernel
theorem num_byte (xs : List Nat) (h : ∀ x ∈ xs, x < 256) (j o k : Nat) (hk : o + k ≤ 8) : num (bitAt xs) (8 * j + o) k = nth xs j / 2 ^ (8 - o - k) % 2 ^ k := by
  rw [← num_byte0 (nth xs j) (nth_lt (by decide) h j) o (by omega) k (by omega) hk]
  apply num_congr
  intro m hm
  unfold bitAt
  rw [show (8 * j + o + m) / 8 = j by omega, show (8 * j + o + m) % 8 = o + m by omega]
theorem num_top (v k : Nat) : ∀ m, m ≤ k → v < 2 ^ k → num (fun i => v.testBit (k - 1 - i)) 0 m = v / 2 ^ (k - m) := by
  intro m
  induction m with
  | zero => intro _ h; rw [Nat.sub_zero, Nat.div_eq_of_lt h]; rfl
  | succ m ih =>
    intro h1 h2
    unfold num
    rw [ih (by omega) h2, Nat.zero_add, Nat.testBit_eq_decide_div_mod_eq]
    obtain ⟨j, hj⟩ : ∃ j, k - (m + 1) = j := ⟨_, rfl⟩
    rw [hj, show k - m = j + 1 by omega, show k - 1 - m = j by omega, Nat.pow_succ, ← Nat.div_div_eq_div_mul]
    generalize v / 2 ^ j = q
    rcases Nat.mod_two_eq_zero_or_one q with e | e <;> simp [e] <;> omega
theorem beBits_bth (v k i : Nat) (h : i < k) : bth (beBits v k) i = v.testBit (k - 1 - i) := by
  unfold bth beBits; simp [List.getD_eq_getElem?_getD, h]
theorem bth_app_left (a b : List Bool) (i : Nat) (h : i < a.length) : bth (a ++ b) i = bth a i := by
  unfold bth; rw [List.getD_eq_getElem?_getD, List.getD_eq_getElem?_getD, List.getElem?_append_left h]
theorem bth_app_right (a b : List Bool) (i : Nat) : bth (a ++ b) (a.length + i) = bth b i := by
  unfold bth; rw [List.getD_eq_getElem?_getD, List.getD_eq_getElem?_getD, List.getElem?_append_right (by omega), Nat.add_sub_cancel_left]
/-- A number that stands among bits. -/
theorem num_of (f : Nat → Bool) (pre post : List Bool) (v k : Nat) (hv : v < 2 ^ k) (h : ∀ i, f i = bth (pre ++ beBits v k ++ post) i) : num f pre.length k = v := by
  rw [num_congr (g := fun i => v.testBit (k - 1 - i)) (j := 0) k (fun m hm => ?_), num_top v k k (Nat.le_refl _) hv]
  · simp
  · rw [h, List.append_assoc, bth_app_right, bth_app_left _ _ _ (by rw [beBits_length]; exact hm), beBits_bth _ _ _ hm, Nat.zero_add]
end Go.Proofs.YtnpkihobbcglcaaGreatDoor
/- What is written for a text: bits by mode; bytes of bits; bits of bytes: numbers and lists alone. -/
open Go Go.RowKit
namespace Go.Proofs.YtnpkihobbcglcaaGreatDoor
open Go.QZ

/-- The code of a character of the alphanumeric set; 99: it has none. -/
def alnT : List Nat := [99,99,99,99,99,99,99,99,99,99,99,99,99,99,99,99,99,99,99,99,99,99,99,99,99,99,99,99,99,99,99,99,36,99,99,99,37,38,99,99,99,99,39,40,99,41,42,43,0,1,2,3,4,5,6,7,8,9,44,99,99,99,99,99,99,10,11,12,13,14,15,16,17,18,19,20,21,22,23,24,25,26,27,28,29,30,31,32,33,34,35,99,99,99,99,99]
def alnOf (c : Nat) : Nat := alnT.getD c 99
def alnC : List Nat := [48,49,50,51,52,53,54,55,56,57,65,66,67,68,69,70,71,72,73,74,75,76,77,78,79,80,81,82,83,84,85,86,87,88,89,90,32,36,37,42,43,45,46,47,58]
theorem aln_back : ∀ c, c < 256 → alnOf c ≠ 99 → alnOf c < 45 ∧ nth alnC (alnOf c) = c := by decide +kernel

/-- Digits, alphanumeric characters, bytes as bits. -/
def encN : List Nat → List Bool
  | [] => []
  | [a] => beBits (a - 48) 4
  | [a, b] => beBits ((a - 48) * 10 + (b - 48)) 7
  | a :: b :: c :: r => beBits ((a - 48) * 100 + (b - 48) * 10 + (c - 48)) 10 ++ encN r
def encA : List Nat → List Bool
  | [] => []
  | [a] => beBits (alnOf a) 6
  | a :: b :: r => beBits (alnOf a * 45 + alnOf b) 11 ++ encA r
def encB (s : List Nat) : List Bool := s.flatMap fun b => beBits b 8

theorem encN_len : ∀ s : List Nat, (encN s).length ≤ 8 * s.length
  | [] => Nat.le_refl _
  | [a] => by simp [encN, beBits_length]
  | [a, b] => by simp [encN, beBits_length]
  | a :: b :: c :: r => by
    have := encN_len r
    simp only [encN, List.length_append, beBits_length, List.length_cons]; omega
theorem encA_len : ∀ s : List Nat, (encA s).length ≤ 8 * s.length
  | [] => Nat.le_refl _
  | [a] => by simp [encA, beBits_length]
  | a :: b :: r => by
    have := encA_len r
    simp only [encA, List.length_append, beBits_length, List.length_cons]; omega
theorem encB_len (s : List Nat) : (encB s).length = 8 * s.length := by
  induction s with
  | nil => rfl
  | cons a r ih =>
    have : encB (a :: r) = beBits a 8 ++ encB r := by simp [encB]
    rw [this, List.length_append, beBits_length, ih, List.length_cons]; omega
theorem encB_snoc (s : List Nat) (b : Nat) : encB (s ++ [b]) = encB s ++ beBits b 8 := by simp [encB]

/-- The bits of bytes that were made of bits. -/
theorem pb_bit (bs : List Bool) (o : Nat) : ∀ j, j ≤ 8 → ∀ k, k < 8 → (pb bs o j).testBit (7 - k) = (decide (k < j) && bth bs (o + k)) := by
  intro j
  induction j with
  | zero => intro _ k _; simp [pb]
  | succ j ih =>
    intro hj k hk
    unfold pb
    by_cases e : k = j
    · subst e
      split
      · rename_i h; rw [Nat.testBit_or, Nat.testBit_two_pow, h]; simp
      · rename_i h; rw [ih (by omega) k hk]; simp [h]
    · have hd : decide (k < j + 1) = decide (k < j) := by rw [decide_eq_decide]; omega
      split
      · rw [Nat.testBit_or, ih (by omega) k hk, Nat.testBit_two_pow, hd]
        have : decide (7 - j = 7 - k) = false := by rw [decide_eq_false_iff_not]; omega
        rw [this, Bool.or_false]
      · rw [ih (by omega) k hk, hd]
theorem bitAt_bytes (bs : List Bool) (n i : Nat) (h : i < 8 * n) : bitAt (bytesFrom bs 0 n) i = bth bs i := by
  unfold bitAt
  have h1 : nth (bytesFrom bs 0 n) (i / 8) = byteAt bs (8 * (i / 8)) := by
    unfold bytesFrom nth
    rw [List.getD_eq_getElem?_getD, List.getElem?_map, List.getElem?_range (by omega)]
    simp
  rw [h1]
  unfold byteAt
  rw [pb_bit _ _ 8 (by omega) (i % 8) (by omega)]
  have : decide (i % 8 < 8) = true := by rw [decide_eq_true_iff]; omega
  rw [this, Bool.true_and, Nat.div_add_mod]
/-- Bytes as bits, and back. -/
theorem encB_bth (xs : List Nat) : ∀ i, bth (encB xs) i = (if i < 8 * xs.length then bitAt xs i else false) := by
  induction xs with
  | nil => intro i; rw [if_neg (by simp)]; rfl
  | cons a r ih =>
    intro i
    have e : encB (a :: r) = beBits a 8 ++ encB r := by simp [encB]
    rw [e]
    by_cases h : i < 8
    · rw [bth_app_left _ _ _ (by rw [beBits_length]; exact h), beBits_bth _ _ _ h, if_pos (by simp only [List.length_cons]; omega)]
      unfold bitAt
      rw [show i / 8 = 0 by omega, show i % 8 = i by omega]
      rfl
    · obtain ⟨k, rfl⟩ : ∃ k, i = 8 + k := ⟨i - 8, by omega⟩
      have := bth_app_right (beBits a 8) (encB r) k
      rw [beBits_length] at this
      rw [this, ih]
      have e2 : bitAt (a :: r) (8 + k) = bitAt r k := by
        unfold bitAt
        rw [show (8 + k) / 8 = k / 8 + 1 by omega, show (8 + k) % 8 = k % 8 by omega]
        rfl
      rw [e2]
      have : (8 + k < 8 * (a :: r).length) ↔ k < 8 * r.length := by simp only [List.length_cons]; omega
      simp only [this]
theorem bytesFrom_get (bs : List Bool) (o n k : Nat) (h : k < n) : nth (bytesFrom bs o n) k = byteAt bs (o + 8 * k) := by
  unfold bytesFrom nth
  rw [List.getD_eq_getElem?_getD, List.getElem?_map, List.getElem?_range h]; rfl
theorem byte_of_bits : ∀ b, b < 256 → pb (beBits b 8) 0 8 = b := by decide +kernel
theorem pb_congr (a b : List Bool) (o p : Nat) : ∀ j, (∀ k, k < j → bth a (o + k) = bth b (p + k)) → pb a o j = pb b p j := by
  intro j
  induction j with
  | zero => intro _; rfl
  | succ j ih => intro h; unfold pb; rw [ih (fun k hk => h k (by omega)), h j (by omega)]
theorem byteAt_encB (xs : List Nat) (h : ∀ x ∈ xs, x < 256) (k : Nat) (hk : k < xs.length) : byteAt (encB xs) (8 * k) = nth xs k := by
  rw [← byte_of_bits (nth xs k) (nth_lt (by decide) h k)]
  unfold byteAt
  apply pb_congr
  intro m hm
  rw [encB_bth, if_pos (by omega), beBits_bth _ _ _ (by omega)]
  unfold bitAt
  rw [show (8 * k + m) / 8 = k by omega, show (8 * k + m) % 8 = m by omega, show 8 - 1 - m = 7 - m by omega]; simp
end Go.Proofs.YtnpkihobbcglcaaGreatDoor
/- The alphanumeric table; the code of a character. -/
open Go Go.RowKit
namespace Go.Proofs.YtnpkihobbcglcaaGreatDoor
open Go.QZ

/-- The code as the program has it: -1 where there is none. -/
def codeI (x : Nat) : Int := if x = 99 then -1 else (x : Int)
def codeCells : List Value := alnT.map fun x => Value.int .i64 (codeI x)
theorem alnT_len : alnT.length = 96 := by decide
theorem code_at (c : Nat) (hc : c < 96) : codeCells[c]? = some (.int .i64 (codeI (alnOf c))) := by
  unfold codeCells alnOf
  rw [List.getElem?_map, List.getElem?_eq_getElem (by rw [alnT_len]; exact hc), List.getD_eq_getElem?_getD, List.getElem?_eq_getElem (by rw [alnT_len]; exact hc)]
  rfl
theorem aln_out (c : Nat) (hc : ¬ c < 96) : alnOf c = 99 := by
  unfold alnOf
  rw [List.getD_eq_getElem?_getD, List.getElem?_eq_none (by rw [alnT_len]; omega)]
  rfl

set_option maxRecDepth 20000 in
theorem alnTab_c (w : World) : Calls Tryz.prog 120 #[] w fun e w' => ∃ B, e = .returned (.slice (some ⟨B, 0, none⟩) 96 96) ∧ Blk w' B codeCells ∧ QZ.Mod (fun _ => False) w w' := by
  go_enter Tryz.func120, Tryz.ntmps120
  iterate 11 go_step
  refine wpList_rows rt117 w [codeCells] [_] 1 _ w [] ?h1 ?h2 (RowsAt.start w) ?h3
  case h1 => kernel_rfl
  case h2 =>
    intro vs hvs
    simp only [List.mem_singleton] at hvs
    subst hvs
    refine ⟨by unfold codeCells; rw [List.length_map, alnT_len]; decide, fun v hv => ?_⟩
    simp only [codeCells, List.mem_map] at hv
    obtain ⟨x, _, rfl⟩ := hv
    rfl
  case h3 =>
    intro w' hR
    have hB := hR.rows 0 (by simp)
    have hm := hR.mod
    have HB := Lib.hid hB
    have Hm := Lib.hid hm
    clear hB hm
    clear hR
    change wpList _ _ _ _ ({ tmps := #[.slice none 0 0, .slice (some ⟨w.heap.size, 0, none⟩) 96 96], defers := [] } : Act) w'
    go_wp2
    go_ret
    exact ⟨_, rfl, HB.out, Hm.out⟩

theorem code_c (w : World) (c : Nat) (hc : c < 256) : Calls Tryz.prog 79 #[.int .u8 c] w fun e w' => e = .returned (.int .i64 (codeI (alnOf c))) ∧ QZ.Mod (fun _ => False) w w' := by
  by_cases h : c < 96
  · have t1 : decide ((c : Int) < 96) = true := by simp; omega
    have Hc := Lib.hid (code_at c h)
    obtain ⟨z, hz⟩ : ∃ z, codeI (alnOf c) = z := ⟨_, rfl⟩
    rw [hz] at Hc ⊢
    clear hz
    go_enter Tryz.func79, Tryz.ntmps79
    go_wp2_with fail
    refine (alnTab_c w).mono ?_
    rintro e w1 ⟨B, rfl, hB, hm1⟩
    have HB := Lib.hid hB
    have Hm1 := Lib.hid hm1
    clear hB hm1
    go_wp2_with fail
    refine (alnTab_c w1).mono ?_
    rintro e w2 ⟨B2, rfl, hB2, hm2⟩
    have c0 := hB2.at c Hc.out
    have hm3 := Hm1.out.trans hm2
    have Hm3 := Lib.hid hm3
    clear hm3
    clear hB2 hm2
    go_wp2
    go_ret
    exact ⟨rfl, Hm3.out⟩
  · have t1 : decide ((c : Int) < 96) = false := by simp; omega
    rw [aln_out c h]
    go_enter Tryz.func79, Tryz.ntmps79
    go_wp2_with fail
    refine (alnTab_c w).mono ?_
    rintro e w1 ⟨B, rfl, hB, hm1⟩
    have HB := Lib.hid hB
    have Hm1 := Lib.hid hm1
    clear hB hm1
    go_wp2
    go_ret
    exact ⟨rfl, Hm1.out⟩
end Go.Proofs.YtnpkihobbcglcaaGreatDoor
