/- Part 19 of the proof of FnPXQuick (a QR code that is written for a text says this text in a picture): parts of the road. No condition. -/
import Derived.Test.YtnpkihobbcglcaaGreatDoorG10
import Derived.Test.YtnpkihobbcglcaaGreatDoorG15
import Derived.Test.YtnpkihobbcglcaaGreatDoorG18
/- Bits, read one by one into bytes: numbers and lists alone. -/
open Go Go.RowKit
namespace Go.Proofs.YtnpkihobbcglcaaGreatDoor
open Go.QZ

theorem num_bit (f : Nat → Bool) (i k : Nat) : ∀ j, j < k → (num f i k).testBit (k - 1 - j) = f (i + j) := by
  induction k with
  | zero => intro j h; omega
  | succ k ih =>
    intro j h
    unfold num
    by_cases e : j = k
    · subst e
      rw [show j + 1 - 1 - j = 0 by omega, Nat.testBit_zero]
      cases f (i + j) <;> simp
    · obtain ⟨s, hs⟩ : ∃ s, k - 1 - j = s := ⟨_, rfl⟩
      rw [show k + 1 - 1 - j = s + 1 by omega, Nat.testBit_succ]
      have : (2 * num f i k + if f (i + k) = true then 1 else 0) / 2 = num f i k := by split <;> omega
      rw [this, ← hs]
      exact ih j (by omega)
theorem byteAt_num (bs : List Bool) (o : Nat) : byteAt bs o = num (bth bs) o 8 := by
  have hl := num_lt (bth bs) o 8
  have h1 := byte_of_bits _ hl
  rw [← h1]
  unfold byteAt
  apply pb_congr
  intro k hk
  rw [beBits_bth _ _ _ (by omega), Nat.zero_add, num_bit _ _ _ _ hk]

/-- One bit more: bytes that are whole, the bits of the next one as a number, how many. -/
def rdStep (s : List Nat × Nat × Nat) (b : Bool) : List Nat × Nat × Nat := if s.2.2 + 1 = 8 then (s.1 ++ [bitIn s.2.1 b], 0, 0) else (s.1, bitIn s.2.1 b, s.2.2 + 1)
def rdSt (L : List Bool) : List Nat × Nat × Nat := L.foldl rdStep ([], 0, 0)
theorem rdSt_snoc (L : List Bool) (b : Bool) : rdSt (L ++ [b]) = rdStep (rdSt L) b := by unfold rdSt; rw [List.foldl_append]; rfl
theorem rdSt_spec : ∀ n (L : List Bool), L.length = n → (rdSt L).1 = bytesFrom L 0 (n / 8) ∧ (rdSt L).2.1 = num (bth L) (8 * (n / 8)) (n % 8) ∧ (rdSt L).2.2 = n % 8 := by
  intro n
  induction n with
  | zero => intro L h; obtain rfl := List.eq_nil_of_length_eq_zero h; exact ⟨rfl, rfl, rfl⟩
  | succ n ih =>
    intro L h
    rcases List.eq_nil_or_concat L with rfl | ⟨M, b, rfl⟩
    · simp at h
    · rw [List.concat_eq_append] at h ⊢
      have hM : M.length = n := by rw [List.length_append] at h; simpa using h
      obtain ⟨h1, h2, h3⟩ := ih M hM
      have hb1 : ∀ i, i < n → bth (M ++ [b]) i = bth M i := fun i hi => bth_app_left _ _ _ (by omega)
      have hb2 : bth (M ++ [b]) n = b := by
        have := bth_app_right M [b] 0
        rw [hM, Nat.add_zero] at this
        rw [this]; rfl
      have hbf : bytesFrom (M ++ [b]) 0 (n / 8) = bytesFrom M 0 (n / 8) := by
        unfold bytesFrom
        apply List.map_congr_left
        intro i hi
        rw [List.mem_range] at hi
        exact pb_congr _ _ _ _ 8 (fun k hk => hb1 _ (by omega))
      have hnu : num (bth (M ++ [b])) (8 * (n / 8)) (n % 8) = num (bth M) (8 * (n / 8)) (n % 8) := num_congr _ (fun k hk => hb1 _ (by omega))
      have hsucc : ∀ i k, num (bth (M ++ [b])) i (k + 1) = 2 * num (bth (M ++ [b])) i k + (if bth (M ++ [b]) (i + k) then 1 else 0) := fun _ _ => rfl
      have hbi : ∀ q, bitIn q b = 2 * q + (if b then 1 else 0) := fun q => rfl
      rw [rdSt_snoc]
      unfold rdStep
      rw [h1, h2, h3]
      by_cases e : n % 8 + 1 = 8
      · rw [if_pos e]
        have e1 : (n + 1) / 8 = n / 8 + 1 := by omega
        have e2 : (n + 1) % 8 = 0 := by omega
        refine ⟨?_, ?_, e2.symm⟩
        · show bytesFrom M 0 (n / 8) ++ [bitIn (num (bth M) (8 * (n / 8)) (n % 8)) b] = _
          have h8 : num (bth (M ++ [b])) (8 * (n / 8)) 8 = num (bth (M ++ [b])) (8 * (n / 8)) (n % 8 + 1) := by rw [e]
          have hone : bytesFrom (M ++ [b]) (0 + 8 * (n / 8)) 1 = [byteAt (M ++ [b]) (0 + 8 * (n / 8) + 8 * 0)] := rfl
          rw [e1, bytesFrom_add, hbf, hone, byteAt_num, show 0 + 8 * (n / 8) + 8 * 0 = 8 * (n / 8) by omega, h8, hsucc, hnu, hbi, show 8 * (n / 8) + n % 8 = n by omega, hb2]
        · rw [e2]; rfl
      · rw [if_neg e]
        have e1 : (n + 1) / 8 = n / 8 := by omega
        have e2 : (n + 1) % 8 = n % 8 + 1 := by omega
        refine ⟨by rw [e1, hbf], ?_, e2.symm⟩
        show bitIn (num (bth M) (8 * (n / 8)) (n % 8)) b = _
        rw [e1, e2, hsucc, hnu, hbi, show 8 * (n / 8) + n % 8 = n by omega, hb2]

/-- A list with zeroes behind it, its next place set. -/
theorem fill_set (a : List Nat) (n c : Nat) (h : a.length < n) : (a ++ List.replicate (n - a.length) 0).set a.length c = (a ++ [c]) ++ List.replicate (n - (a ++ [c]).length) 0 := by
  obtain ⟨k, hk⟩ : ∃ k, n - a.length = k + 1 := ⟨n - a.length - 1, by omega⟩
  rw [hk, List.length_append, List.length_singleton, show n - (a.length + 1) = k by omega, List.replicate_succ]
  simp
/-- The read bits up to a step, as bytes. -/
def cwSt (g : Nat → Nat → Bool) (f : Nat → Nat → Int) (m d n : Nat) : List Nat × Nat × Nat := rdSt (readTo g f m d n)
theorem cwSt_hit {g : Nat → Nat → Bool} {f : Nat → Nat → Int} {m d n : Nat} (h : freeN f d n = true) : cwSt g f m d (n + 1) = rdStep (cwSt g f m d n) (g (edX d n) (edY d n) ^^ maskB m (edX d n) (edY d n)) := by
  unfold cwSt
  have : readTo g f m d (n + 1) = readTo g f m d n ++ [g (edX d n) (edY d n) ^^ maskB m (edX d n) (edY d n)] := by
    show (if freeN f d n = true then _ else _) = _
    rw [if_pos h]
  rw [this, rdSt_snoc]
theorem cwSt_miss {g : Nat → Nat → Bool} {f : Nat → Nat → Int} {m d n : Nat} (h : freeN f d n = false) : cwSt g f m d (n + 1) = cwSt g f m d n := by
  unfold cwSt
  have : readTo g f m d (n + 1) = readTo g f m d n := by
    show (if freeN f d n = true then _ else _) = _
    rw [h, if_neg (by decide)]
  rw [this]
theorem cwSt_few (g : Nat → Nat → Bool) (f : Nat → Nat → Int) (m d n : Nat) : (cwSt g f m d n).1.length = cnt f d n / 8 ∧ (cwSt g f m d n).2.1 < 128 ∧ (cwSt g f m d n).2.2 = cnt f d n % 8 := by
  obtain ⟨h1, h2, h3⟩ := rdSt_spec _ (readTo g f m d n) (readTo_len g f m d n)
  refine ⟨by unfold cwSt; rw [h1, bytesFrom_length], ?_, h3⟩
  unfold cwSt
  rw [h2]
  have := num_lt (bth (readTo g f m d n)) (8 * (cnt f d n / 8)) (cnt f d n % 8)
  have h7 : 2 ^ (cnt f d n % 8) ≤ 2 ^ 7 := Nat.pow_le_pow_right (by decide) (by omega)
  omega
/-- All words. -/
theorem cwSt_all (g : Nat → Nat → Bool) (v l m : Nat) (hv1 : 1 ≤ v) (hv : v < 8) : (cwSt g (fnF v l m) m (17 + 4 * v) (zzN v)).1 = bytesFrom (readTo g (fnF v l m) m (17 + 4 * v) (zzN v)) 0 (totV v) := by
  have h := (rdSt_spec _ (readTo g (fnF v l m) m (17 + 4 * v) (zzN v)) (readTo_len _ _ _ _ _)).1
  obtain ⟨c1, c2⟩ := cnt_room v l m hv1 hv
  unfold cwSt
  rw [h, show cnt (fnF v l m) (17 + 4 * v) (zzN v) / 8 = totV v by omega]
end Go.Proofs.YtnpkihobbcglcaaGreatDoor
