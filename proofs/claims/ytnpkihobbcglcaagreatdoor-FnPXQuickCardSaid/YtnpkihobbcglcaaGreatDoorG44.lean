/- Part 44 of the proof of FnPXQuick (a QR code that is written for a text says this text in a picture): parts of the road. No condition. -/
import Derived.Test.YtnpkihobbcglcaaGreatDoorG09
import Derived.Test.YtnpkihobbcglcaaGreatDoorG21
import Derived.Test.YtnpkihobbcglcaaGreatDoorG28
/- Rows of bools that are appended to a list of rows. -/
open Go Go.RowKit
namespace Go.Proofs.YtnpkihobbcglcaaGreatDoor
open Go.QZ

/-- A row of d bools that can be read; its block is at N or above. -/
def RowAt (N : Nat) (w : World) (u : Value) (d : Nat) (g : Nat → Bool) : Prop := ∃ G cap, u = .slice (some ⟨G, 0, none⟩) d cap ∧ (∀ x, x < d → w.cell? ⟨G, x, none⟩ = some (.bool (g x))) ∧ N ≤ G ∧ G < w.heap.size
theorem RowAt.weak {N M : Nat} {w : World} {u : Value} {d : Nat} {g : Nat → Bool} (h : RowAt N w u d g) (hm : M ≤ N) : RowAt M w u d g := by
  obtain ⟨G, cap, h1, h2, h3, h4⟩ := h
  exact ⟨G, cap, h1, h2, by omega, h4⟩
theorem RowAt.mod {S : Nat → Prop} {N : Nat} {w w' : World} {u : Value} {d : Nat} {g : Nat → Bool} (h : RowAt N w u d g) (hm : QZ.Mod S w w') (hS : ∀ k, S k → k < N ∨ w.heap.size ≤ k) : RowAt N w' u d g := by
  obtain ⟨G, cap, h1, h2, h3, h4⟩ := h
  exact ⟨G, cap, h1, fun x hx => cell_mod hm (fun s => by have := hS _ s; omega) (h2 x hx), h3, by have := hm.size; omega⟩
theorem RowAt.keep {N base : Nat} {T : TypeId} {v : Value} {us : List Value} {w w' : World} {u : Value} {d : Nat} {g : Nat → Bool} (ho : Own w base T v us) (hu : ∃ a n c, us[0]? = some (.slice a n c)) (h : RowAt N w u d g) (hd : 0 < d) (hm : QZ.Mod (fun k => v.ownBlock = some k) w w') : RowAt N w' u d g := by
  obtain ⟨G, cap, h1, h2, h3, h4⟩ := h
  obtain ⟨a, n, c, hu⟩ := hu
  have hl : 0 < us.length := by
    rcases Nat.lt_or_ge 0 us.length with h | h
    · exact h
    · rw [List.getElem?_eq_none h] at hu; cases hu
  obtain ⟨R, cap2, rfl, _, _, _, hc⟩ := ho.full hl
  have c0 := hc 0 _ hu
  have d0 := h2 0 hd
  refine ⟨G, cap, h1, fun x hx => cell_mod hm (fun s => ?_) (h2 x hx), h3, by have := hm.size; omega⟩
  have : R = G := by simpa [Value.ownBlock] using s
  subst this; rw [d0] at c0; simp at c0

/-- i rows are done: they are the values us in the slice vv. -/
def Rowed (base d : Nat) (f : Nat → Nat → Bool) (i : Nat) (vv : Value) (us : List Value) (wr : World) : Prop :=
  us.length = i ∧ Own wr base 56 vv us ∧ ∀ j, j < i → RowAt base wr (us.getD j undef) d (fun x => f x j)
theorem Rowed.start (base d : Nat) (f : Nat → Nat → Bool) (w : World) : Rowed base d f 0 (.slice none 0 0) [] w := ⟨rfl, Own.start w base 56, fun j h => by omega⟩
theorem Rowed.mod {S : Nat → Prop} {base d : Nat} {f : Nat → Nat → Bool} {i : Nat} {vv : Value} {us : List Value} {w w' : World} (h : Rowed base d f i vv us w) (hm : QZ.Mod S w w') (hS : ∀ k, S k → k < base ∨ w.heap.size ≤ k) : Rowed base d f i vv us w' := by
  obtain ⟨h1, h2, h3⟩ := h
  exact ⟨h1, h2.mod hm (fun k hk s => by have := h2.block k hk; have := hS k s; omega), fun j hj => (h3 j hj).mod hm hS⟩
theorem Rowed.step {base d : Nat} {f : Nat → Nat → Bool} {i : Nat} {vv : Value} {us : List Value} {w1 w2 : World} {v' u : Value} (h : Rowed base d f i vv us w1) (hd : 0 < d) (hr : RowAt base w1 u d (fun x => f x i)) (hrn : ∀ G c, u = .slice (some ⟨G, 0, none⟩) d c → vv.ownBlock ≠ some G)
    (ho : Own w2 base 56 v' (us ++ [u])) (hm2 : QZ.Mod (fun k => vv.ownBlock = some k) w1 w2) : Rowed base d f (i + 1) v' (us ++ [u]) w2 := by
  obtain ⟨h1, h2, h3⟩ := h
  refine ⟨by simp [h1], ho, fun j hj => ?_⟩
  by_cases e : j = i
  · subst e
    have e1 : (us ++ [u]).getD j undef = u := by simp [List.getD_eq_getElem?_getD, ← h1]
    rw [e1]
    obtain ⟨G, cap, g1, g2, g3, g4⟩ := hr
    exact ⟨G, cap, g1, fun x hx => cell_mod hm2 (fun s => hrn G cap g1 s) (g2 x hx), g3, by have := hm2.size; omega⟩
  · have hji : j < i := by omega
    have hjl : j < us.length := by omega
    have e1 : (us ++ [u]).getD j undef = us.getD j undef := by simp [List.getD_eq_getElem?_getD, List.getElem?_append_left hjl]
    rw [e1]
    obtain ⟨G, cap, g1, _⟩ := h3 0 (by omega)
    refine (h3 j hji).keep h2 ⟨some ⟨G, 0, none⟩, d, cap, ?_⟩ hd hm2
    rw [← g1, List.getD_eq_getElem?_getD, List.getElem?_eq_getElem (by omega)]; rfl
theorem Rowed.rows2 {base d n : Nat} {f : Nat → Nat → Bool} {vv : Value} {us : List Value} {w : World} (h : Rowed base d f n vv us w) (hn : 0 < n) : ∃ R cap, vv = .slice (some ⟨R, 0, none⟩) n cap ∧ Rows2 w R d n f ∧ base ≤ R ∧ R < w.heap.size := by
  obtain ⟨h1, h2, h3⟩ := h
  obtain ⟨R, cap, hv, hb, hlt, _, hc⟩ := h2.full (by omega)
  rw [h1] at hv
  refine ⟨R, cap, hv, fun y hy => ?_, hb, hlt⟩
  obtain ⟨G, c2, g1, g2, _, _⟩ := h3 y hy
  refine ⟨G, c2, hc y _ ?_, g2⟩
  rw [← g1, List.getD_eq_getElem?_getD, List.getElem?_eq_getElem (by omega)]; rfl
end Go.Proofs.YtnpkihobbcglcaaGreatDoor
