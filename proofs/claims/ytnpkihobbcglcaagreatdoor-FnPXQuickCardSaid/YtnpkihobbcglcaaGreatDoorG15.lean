/- Part 15 of the proof of FnPXQuick (a QR code that is written for a text says this text in a picture): parts of the road. No condition. -/
import Derived.Test.YtnpkihobbcglcaaGreatDoorG10
import Derived.Test.YtnpkihobbcglcaaGreatDoorG13
import Derived.Test.YtnpkihobbcglcaaGreatDoorG14
/- How many places of a symbol are free; where all bits are placed: numbers alone. -/
open Go Go.RowKit
namespace Go.Proofs.YtnpkihobbcglcaaGreatDoor
open Go.QZ

/-- The words of a version in all. -/
def totV (v : Nat) : Nat := totTo (ecD v 0).1 (ecD v 0).2 (ecD v 0).2.length
def cntP (v : Nat) : Nat → Nat
  | 0 => 0
  | n + 1 => cntP v n + (if fpF v (edX (17 + 4 * v) n) (edY (17 + 4 * v) n) then 0 else 1)
theorem cntP_all : ∀ v, v < 8 → 1 ≤ v → 8 * totV v ≤ cntP v (zzN v) ∧ cntP v (zzN v) < 8 * totV v + 8 := by decide +kernel
theorem cnt_cntP (v l m : Nat) (hv1 : 1 ≤ v) (hv : v < 8) : ∀ n, n ≤ zzN v → cnt (fnF v l m) (17 + 4 * v) n = cntP v n := by
  intro n
  induction n with
  | zero => intro _; rfl
  | succ n ih =>
    intro h
    have hx := edX_lt (d := 17 + 4 * v) (n := n) (by omega) (by omega) (show n < zzN v by omega)
    have hy := edY_lt (d := 17 + 4 * v) (n := n) (by omega)
    unfold cnt cntP freeN
    rw [ih (by omega), free_fp v l m _ _ hv1 hv hx hy]
    cases fpF v (edX (17 + 4 * v) n) (edY (17 + 4 * v) n) <;> rfl
theorem cnt_room (v l m : Nat) (hv1 : 1 ≤ v) (hv : v < 8) : 8 * totV v ≤ cnt (fnF v l m) (17 + 4 * v) (zzN v) ∧ cnt (fnF v l m) (17 + 4 * v) (zzN v) < 8 * totV v + 8 := by
  rw [cnt_cntP v l m hv1 hv _ (Nat.le_refl _)]
  exact cntP_all v hv hv1
theorem qr_end (v l m : Nat) (bs : List Bool) (hv1 : 1 ≤ v) (hv : v < 8) (hb : bs.length = 8 * totV v) : (edI bs m (17 + 4 * v) (fnF v l m) (zzN v)).2 = bs.length := by
  rw [(edI_spec bs m (17 + 4 * v) (fnF v l m) (by omega) (by omega) (zzN v) (Nat.le_refl _)).1]
  have := (cnt_room v l m hv1 hv).1
  omega
/-- What stands where no data stands. -/
theorem qr_fixed (v l m : Nat) (bs : List Bool) (x y : Nat) (hv1 : 1 ≤ v) (h : fnF v l m x y ≠ -1) : qrF v l m bs x y = fnF v l m x y := by
  unfold qrF
  refine (edI_spec bs m (17 + 4 * v) (fnF v l m) (by omega) (by omega) (zzN v) (Nat.le_refl _)).2.1 x y (fun j _ hf he => h ?_)
  unfold freeN at hf
  rw [decide_eq_true_iff, he.1, he.2] at hf
  exact hf
/-- The bits that are read are the bits that were written. -/
theorem qr_read (v l m : Nat) (bs : List Bool) (hv1 : 1 ≤ v) (hv : v < 8) (g : Nat → Nat → Bool) (hg : ∀ x y, x < 17 + 4 * v → y < 17 + 4 * v → g x y = decide (qrF v l m bs x y = 1)) :
    ∀ i, i < 8 * totV v → bth (readTo g (fnF v l m) m (17 + 4 * v) (zzN v)) i = bth bs i := by
  intro i hi
  have hr := (cnt_room v l m hv1 hv).1
  refine readTo_bth bs g (fnF v l m) m (17 + 4 * v) (zzN v) (fun j hj hf => ?_) (zzN v) (Nat.le_refl _) i (by omega)
  have hx := edX_lt (d := 17 + 4 * v) (n := j) (by omega) (by omega) hj
  have hy := edY_lt (d := 17 + 4 * v) (n := j) (by omega)
  rw [hg _ _ hx hy]
  unfold qrF
  rw [(edI_spec bs m (17 + 4 * v) (fnF v l m) (by omega) (by omega) (zzN v) (Nat.le_refl _)).2.2 j hj hf]
  cases bth bs (cnt (fnF v l m) (17 + 4 * v) j) ^^ maskB m (edX (17 + 4 * v) j) (edY (17 + 4 * v) j) <;> decide
end Go.Proofs.YtnpkihobbcglcaaGreatDoor
/- The format and the version that a symbol's modules say: numbers alone. -/
open Go Go.RowKit
namespace Go.Proofs.YtnpkihobbcglcaaGreatDoor
open Go.QZ

theorem rdF_congr (f g : Nat → Nat → Bool) : ∀ (l : List (Nat × Nat)) (v : Nat), (∀ p ∈ l, f p.1 p.2 = g p.1 p.2) → rdF f v l = rdF g v l := by
  intro l
  induction l with
  | nil => intro _ _; rfl
  | cons p r ih =>
    intro v h
    unfold rdF
    rw [h p List.mem_cons_self]
    exact ih _ (fun q hq => h q (List.mem_cons_of_mem _ hq))
def fixB (v l m x y : Nat) : Bool := decide (fnC v l m x y = 1)
/-- The places of the version's bits at the upper right. -/
def pV (d : Nat) : List (Nat × Nat) := (List.range 18).map fun i => (d - 9 - i % 3, 5 - i / 3)
theorem free_places : ∀ v, v < 8 → 1 ≤ v → ∀ p ∈ p1 6 ++ p2 (17 + 4 * v) 8, p.1 < 17 + 4 * v ∧ p.2 < 17 + 4 * v ∧ fpF v p.1 p.2 = true := by decide +kernel
theorem free_pV : ∀ p ∈ pV 45, p.1 < 45 ∧ p.2 < 45 ∧ fpF 7 p.1 p.2 = true := by decide +kernel
theorem ver_bits : ∀ l, l < 4 → ∀ m, m < 8 → rdF (fixB 7 l m) 0 (pV 45) = 31892 := by decide +kernel
theorem fmt_bits : ∀ v, v < 8 → 1 ≤ v → ∀ l, l < 4 → ∀ m, m < 8 → (rdF (fixB v l m) 0 (p1 6) : Int) = tget lookT (8 * l + m) 0 ∧ rdF (fixB v l m) 0 (p2 (17 + 4 * v) 8) = rdF (fixB v l m) 0 (p1 6) := by decide +kernel

theorem qr_places (v l m : Nat) (bs : List Bool) (hv1 : 1 ≤ v) (hv : v < 8) (g : Nat → Nat → Bool) (hg : ∀ x y, x < 17 + 4 * v → y < 17 + 4 * v → g x y = decide (qrF v l m bs x y = 1)) (ps : List (Nat × Nat)) (hp : ∀ p ∈ ps, p.1 < 17 + 4 * v ∧ p.2 < 17 + 4 * v ∧ fpF v p.1 p.2 = true) : rdF g 0 ps = rdF (fixB v l m) 0 ps := by
  apply rdF_congr
  intro p h
  obtain ⟨h1, h2, h3⟩ := hp p h
  have hf := free_fp v l m p.1 p.2 hv1 hv h1 h2
  rw [h3] at hf
  have hne : fnF v l m p.1 p.2 ≠ -1 := by simpa using hf
  rw [hg _ _ h1 h2, qr_fixed v l m bs _ _ hv1 hne, fnF_closed v l m hv]; rfl
theorem qr_format (v l m : Nat) (bs : List Bool) (hv1 : 1 ≤ v) (hv : v < 8) (hl : l < 4) (hm : m < 8) (g : Nat → Nat → Bool) (hg : ∀ x y, x < 17 + 4 * v → y < 17 + 4 * v → g x y = decide (qrF v l m bs x y = 1)) :
    (rdF g 0 (p1 6) : Int) = tget lookT (8 * l + m) 0 ∧ rdF g 0 (p2 (17 + 4 * v) 8) = rdF g 0 (p1 6) := by
  have hp := free_places v hv hv1
  rw [qr_places v l m bs hv1 hv g hg _ (fun p h => hp p (List.mem_append_left _ h)), qr_places v l m bs hv1 hv g hg _ (fun p h => hp p (List.mem_append_right _ h))]
  exact fmt_bits v hv hv1 l hl m hm
theorem qr_version (l m : Nat) (bs : List Bool) (hl : l < 4) (hm : m < 8) (g : Nat → Nat → Bool) (hg : ∀ x y, x < 45 → y < 45 → g x y = decide (qrF 7 l m bs x y = 1)) : rdF g 0 (pV 45) = 31892 := by
  rw [qr_places 7 l m bs (by omega) (by omega) g hg _ free_pV]
  exact ver_bits l hl m hm
end Go.Proofs.YtnpkihobbcglcaaGreatDoor
