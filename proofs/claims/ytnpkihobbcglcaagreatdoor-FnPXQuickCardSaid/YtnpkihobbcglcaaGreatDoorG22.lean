/- Part 22 of the proof of FnPXQuick (a QR code that is written for a text says this text in a picture): parts of the road. No condition. -/
import Derived.Test.YtnpkihobbcglcaaGreatDoorG15
import Derived.Test.YtnpkihobbcglcaaGreatDoorG18
import Derived.Test.YtnpkihobbcglcaaGreatDoorG21
/- Which version a text of at most 60 bytes needs; the shape of its blocks: numbers alone. -/
open Go Go.RowKit
namespace Go.Proofs.YtnpkihobbcglcaaGreatDoor
open Go.QZ

def leastV (l k : Nat) : Nat := ((List.range 8).find? fun v => Nat.ble 1 v && Nat.ble k (roomD v l)).getD 0
theorem least_all : ∀ l, l < 4 → ∀ k, k < 63 → 1 ≤ leastV l k ∧ leastV l k < 8 ∧ k ≤ roomD (leastV l k) l ∧ ∀ u, u < leastV l k → 1 ≤ u → ¬ k ≤ roomD u l := by decide +kernel
theorem fits_some (l n : Nat) (hl : l < 4) (hn : n ≤ 496) : ∃ v, Fits n l v := by
  obtain ⟨h1, h2, h3, h4⟩ := least_all l hl ((n + 7) / 8) (by omega)
  exact ⟨_, h1, h2, h3, fun u hu1 hu2 => h4 u hu2 hu1⟩

/-- The blocks of a version at a level: how many, how many longer ones, the data words of a short one, the error correction words of each. -/
def nbV (v l : Nat) : Nat := cntTo (ecL v l).2 (ecL v l).2.length
def lgV (v l : Nat) : Nat := if (ecL v l).2.length = 2 then ((ecL v l).2.getD 1 (0, 0)).1 else 0
def dtV (v l : Nat) : Nat := ((ecL v l).2.getD 0 (0, 0)).2
def ecV (v l : Nat) : Nat := (ecL v l).1
def shB (nb r : Nat) : Bool := (nb == 1 && r == 0) || (nb == 2 && r == 0) || (nb == 4 && r == 0) || (nb == 4 && r == 2) || (nb == 5 && r == 1) || (nb == 6 && r == 4)
theorem shape_sh : ∀ v, v < 8 → 1 ≤ v → ∀ l, l < 4 → shB (nbV v l) (lgV v l) = true := by decide +kernel
theorem shape_n1 : ∀ v, v < 8 → 1 ≤ v → ∀ l, l < 4 → totV v = nbV v l * (dtV v l + ecV v l) + lgV v l ∧ roomD v l = nbV v l * dtV v l + lgV v l ∧ 1 ≤ dtV v l ∧ dtV v l + ecV v l ≤ 200 := by decide +kernel
theorem shape_n2 : ∀ v, v < 8 → 1 ≤ v → ∀ l, l < 4 → 1 ≤ ecV v l ∧ ecV v l ≤ 30 ∧ roomD v l ≤ 1000 ∧ totV v ≤ 200 := by decide +kernel
theorem shape_of {nb r : Nat} (h : shB nb r = true) : Shape nb r ∧ r < nb ∧ nb ≤ 6 := by
  unfold shB at h
  simp only [Bool.or_eq_true, Bool.and_eq_true, beq_iff_eq] at h
  unfold Shape; omega
theorem shape_all (v : Nat) (h8 : v < 8) (h1 : 1 ≤ v) (l : Nat) (hl : l < 4) : Shape (nbV v l) (lgV v l) ∧ totV v = nbV v l * (dtV v l + ecV v l) + lgV v l ∧ roomD v l = nbV v l * dtV v l + lgV v l ∧ 1 ≤ dtV v l ∧ dtV v l + ecV v l ≤ 200 ∧ 1 ≤ ecV v l ∧ ecV v l ≤ 30 ∧ roomD v l ≤ 1000 ∧ lgV v l < nbV v l ∧ nbV v l ≤ 6 ∧ totV v ≤ 200 := by
  obtain ⟨a1, a2, a3⟩ := shape_of (shape_sh v h8 h1 l hl)
  obtain ⟨b1, b2, b3, b4⟩ := shape_n1 v h8 h1 l hl
  obtain ⟨c1, c2, c3, c4⟩ := shape_n2 v h8 h1 l hl
  exact ⟨a1, b1, b2, b3, b4, c1, c2, c3, a2, a3, c4⟩
theorem shape_blocks : ∀ v, v < 8 → 1 ≤ v → ∀ l, l < 4 → (ecL v l).2 = if lgV v l = 0 then [(nbV v l, dtV v l)] else [(nbV v l - lgV v l, dtV v l), (lgV v l, dtV v l + 1)] := by decide +kernel
theorem blocks_some : ∀ v, v < 8 → 1 ≤ v → ∀ l, l < 4 → 0 < (ecL v l).2.length ∧ (ecL v l).2.length ≤ 4 := by decide +kernel
end Go.Proofs.YtnpkihobbcglcaaGreatDoor
