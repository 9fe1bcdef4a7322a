/- Part 18 of the proof of FnPXQuick (a QR code that is written for a text says this text in a picture): parts of the road. No condition. -/
import Derived.Test.YtnpkihobbcglcaaGreatDoorG02
import Derived.Test.YtnpkihobbcglcaaGreatDoorG08
import Derived.Test.YtnpkihobbcglcaaGreatDoorG16
/- Code words of blocks in turns, and back: numbers and lists alone. -/
open Go Go.RowKit
namespace Go.Proofs.YtnpkihobbcglcaaGreatDoor
open Go.QZ

/-- The i-th word of each block that has one; all words in turns. -/
def rowOf (bl : List (List Nat)) (i : Nat) : List Nat := bl.filterMap fun b => b[i]?
def inter (bl : List (List Nat)) : Nat → List Nat
  | 0 => []
  | i + 1 => inter bl i ++ rowOf bl i

theorem row_full (i : Nat) : ∀ bl : List (List Nat), (∀ b ∈ bl, i < b.length) → rowOf bl i = bl.map fun b => nth b i := by
  intro bl
  induction bl with
  | nil => intro _; rfl
  | cons b r ih =>
    intro h
    have hb := h b List.mem_cons_self
    have e : b[i]? = some (nth b i) := by simp [nth, List.getD_eq_getElem?_getD, hb]
    unfold rowOf at *
    simp only [List.filterMap_cons, e, List.map_cons]; rw [ih (fun x hx => h x (List.mem_cons_of_mem _ hx))]
theorem row_none (i : Nat) : ∀ bl : List (List Nat), (∀ b ∈ bl, b.length ≤ i) → rowOf bl i = [] := by
  intro bl
  induction bl with
  | nil => intro _; rfl
  | cons b r ih =>
    intro h
    have hb := h b List.mem_cons_self
    unfold rowOf at *
    have e : b[i]? = none := by simp [hb]
    simp only [List.filterMap_cons, e]; exact ih (fun x hx => h x (List.mem_cons_of_mem _ hx))
theorem row_app (a b : List (List Nat)) (i : Nat) : rowOf (a ++ b) i = rowOf a i ++ rowOf b i := by unfold rowOf; rw [List.filterMap_append]
theorem row_take (bl : List (List Nat)) (i k : Nat) (h : k < bl.length) : rowOf (bl.take (k + 1)) i = rowOf (bl.take k) i ++ (if i < (bl.getD k []).length then [nth (bl.getD k []) i] else []) := by
  rw [List.take_succ_eq_append_getElem h, row_app]
  congr 1
  have e : bl.getD k [] = bl[k] := by simp [List.getD_eq_getElem?_getD, h]
  rw [e]
  unfold rowOf
  by_cases hi : i < bl[k].length
  · have e2 : (bl[k])[i]? = some (nth bl[k] i) := by simp [nth, List.getD_eq_getElem?_getD, hi]
    rw [if_pos hi]; simp only [List.filterMap_cons, e2, List.filterMap_nil]
  · have e2 : (bl[k])[i]? = none := by simp; omega
    rw [if_neg hi]; simp only [List.filterMap_cons, e2, List.filterMap_nil]
theorem nth_app_left (a b : List Nat) (i : Nat) (h : i < a.length) : nth (a ++ b) i = nth a i := by
  unfold nth; rw [List.getD_eq_getElem?_getD, List.getD_eq_getElem?_getD, List.getElem?_append_left h]
theorem nth_app_right (a b : List Nat) (i : Nat) : nth (a ++ b) (a.length + i) = nth b i := by
  unfold nth; rw [List.getD_eq_getElem?_getD, List.getD_eq_getElem?_getD, List.getElem?_append_right (by omega), Nat.add_sub_cancel_left]
theorem nth_map (bl : List (List Nat)) (i j : Nat) (h : j < bl.length) : nth (bl.map fun b => nth b i) j = nth (bl.getD j []) i := by
  simp [nth, List.getD_eq_getElem?_getD, h]
theorem inter_full (bl : List (List Nat)) : ∀ s, (∀ b ∈ bl, s ≤ b.length) → (inter bl s).length = s * bl.length ∧ ∀ i j, i < s → j < bl.length → nth (inter bl s) (i * bl.length + j) = nth (bl.getD j []) i := by
  intro s
  induction s with
  | zero => intro _; exact ⟨by simp [inter], fun i j h => by omega⟩
  | succ s ih =>
    intro h
    obtain ⟨h1, h2⟩ := ih (fun b hb => by have := h b hb; omega)
    have hr := row_full s bl (fun b hb => h b hb)
    refine ⟨by unfold inter; rw [List.length_append, h1, hr, List.length_map, Nat.succ_mul], fun i j hi hj => ?_⟩
    unfold inter
    by_cases e : i = s
    · subst e
      rw [← h1, nth_app_right, hr, nth_map _ _ _ hj]
    · rw [nth_app_left _ _ _ (by rw [h1]; exact row_lt (by omega) hj)]
      exact h2 i j (by omega) hj

/-- Where word k of block j lies among n blocks, the first ls of which have s words of data and the others one more. -/
def rho (n s ls j k : Nat) : Nat :=
  if k < s then k * n + j else if ls ≤ j then (if k = s then s * n + (j - ls) else s * n + (n - ls) + (k - s - 1) * n + j) else s * n + (n - ls) + (k - s) * n + j
theorem rho_inj {n s ls j k j' k' : Nat} (hj : j < n) (hj' : j' < n) (hl : ls ≤ n) (h : rho n s ls j k = rho n s ls j' k') : j = j' ∧ k = k' := by
  have low : ∀ k j, k < s → j < n → k * n + j < s * n := fun k j a b => row_lt a b
  have mid : ∀ a b c d : Nat, a < n → b < n → s * n + (n - ls) + c * n + a = s * n + (n - ls) + d * n + b → c = d ∧ a = b := fun a b c d ha hb e => row_inj ha hb (by omega)
  unfold rho at h
  by_cases a : k < s
  · have l1 := low k j a hj
    rw [if_pos a] at h
    by_cases a' : k' < s
    · rw [if_pos a'] at h
      obtain ⟨e1, e2⟩ := row_inj hj hj' h; exact ⟨e2, e1⟩
    · rw [if_neg a'] at h
      generalize k * n + j = q at *
      split at h
      · split at h
        · omega
        · generalize (k' - s - 1) * n = r at *; omega
      · generalize (k' - s) * n = r at *; omega
  · rw [if_neg a] at h
    by_cases a' : k' < s
    · have l1 := low k' j' a' hj'
      rw [if_pos a'] at h
      generalize k' * n + j' = q at *
      split at h
      · split at h
        · omega
        · generalize (k - s - 1) * n = r at *; omega
      · generalize (k - s) * n = r at *; omega
    · rw [if_neg a'] at h
      by_cases b : ls ≤ j
      · rw [if_pos b] at h
        by_cases c : k = s
        · rw [if_pos c] at h
          by_cases b' : ls ≤ j'
          · rw [if_pos b'] at h
            by_cases c' : k' = s
            · rw [if_pos c'] at h; omega
            · rw [if_neg c'] at h
              generalize (k' - s - 1) * n = r at *; omega
          · rw [if_neg b'] at h
            generalize (k' - s) * n = r at *; omega
        · rw [if_neg c] at h
          by_cases b' : ls ≤ j'
          · rw [if_pos b'] at h
            by_cases c' : k' = s
            · rw [if_pos c'] at h
              generalize (k - s - 1) * n = r at *; omega
            · rw [if_neg c'] at h
              obtain ⟨e1, e2⟩ := mid _ _ _ _ hj hj' h
              omega
          · rw [if_neg b'] at h
            obtain ⟨e1, e2⟩ := mid _ _ _ _ hj hj' h
            omega
      · rw [if_neg b] at h
        by_cases b' : ls ≤ j'
        · rw [if_pos b'] at h
          by_cases c' : k' = s
          · rw [if_pos c'] at h
            generalize (k - s) * n = r at *; omega
          · rw [if_neg c'] at h
            obtain ⟨e1, e2⟩ := mid _ _ _ _ hj hj' h
            omega
        · rw [if_neg b'] at h
          obtain ⟨e1, e2⟩ := mid _ _ _ _ hj hj' h
          omega

/-- The words of blocks in turns hold each word at its place. -/
theorem turns_at (A L E : List (List Nat)) (s e : Nat) (hA : ∀ b ∈ A, b.length = s) (hL : ∀ b ∈ L, b.length = s + 1) (hE : ∀ b ∈ E, b.length = e) (hn : E.length = A.length + L.length) (m : Nat) (hm : m = if L.length = 0 then s else s + 1) (j k : Nat) (hj : j < E.length) (hk : k < ((A ++ L).getD j []).length + e) :
    nth (inter (A ++ L) m ++ inter E e) (rho E.length s A.length j k) = nth ((A ++ L).getD j [] ++ E.getD j []) k := by
  have hlen : (A ++ L).length = E.length := by rw [List.length_append]; omega
  obtain ⟨i1, i2⟩ := inter_full (A ++ L) s (fun b hb => by
    rcases List.mem_append.1 hb with h | h
    · rw [hA b h]; exact Nat.le_refl _
    · rw [hL b h]; omega)
  obtain ⟨e1, e2⟩ := inter_full E e (fun b hb => by rw [hE b hb]; exact Nat.le_refl _)
  rw [hlen] at i1 i2
  have hrow : rowOf (A ++ L) s = L.map fun b => nth b s := by
    rw [row_app, row_none s A (fun b hb => by rw [hA b hb]; exact Nat.le_refl _), row_full s L (fun b hb => by rw [hL b hb]; omega), List.nil_append]
  have hint : inter (A ++ L) m = inter (A ++ L) s ++ L.map fun b => nth b s := by
    rw [hm]
    by_cases h : L.length = 0
    · rw [if_pos h]
      have : L = [] := List.eq_nil_of_length_eq_zero h
      subst this; simp
    · rw [if_neg h, ← hrow]; rfl
  have hdl : ((A ++ L).getD j []).length = if A.length ≤ j then s + 1 else s := by
    rw [List.getD_eq_getElem?_getD]
    by_cases h : A.length ≤ j
    · rw [if_pos h, List.getElem?_append_right h, List.getElem?_eq_getElem (by omega)]
      exact hL _ (List.getElem_mem _)
    · rw [if_neg h, List.getElem?_append_left (by omega), List.getElem?_eq_getElem (by omega)]
      exact hA _ (List.getElem_mem _)
  rw [hint]
  unfold rho
  by_cases a : k < s
  · rw [if_pos a, nth_app_left _ _ _ (by rw [List.length_append, i1]; have := row_lt a hj; omega), nth_app_left _ _ _ (by rw [i1]; exact row_lt a hj), i2 k j a hj, nth_app_left _ _ _ (by rw [hdl]; split <;> omega)]
  · rw [if_neg a]
    by_cases b : A.length ≤ j
    · rw [if_pos b]
      rw [if_pos b] at hdl
      by_cases c : k = s
      · subst c
        rw [if_pos rfl, nth_app_left _ _ _ (by rw [List.length_append, i1, List.length_map]; omega)]
        rw [← i1, nth_app_right, nth_map _ _ _ (by omega), nth_app_left _ _ _ (by rw [hdl]; omega)]
        congr 1
        rw [List.getD_eq_getElem?_getD, List.getD_eq_getElem?_getD, List.getElem?_append_right b]
      · rw [if_neg c]
        have el : (inter (A ++ L) s ++ L.map fun b => nth b s).length = s * E.length + (E.length - A.length) := by rw [List.length_append, i1, List.length_map]; omega
        rw [Nat.add_assoc _ _ j, ← el, nth_app_right, e2 _ j (by omega) hj]
        have : k = ((A ++ L).getD j []).length + (k - s - 1) := by rw [hdl]; omega
        conv => rhs; rw [this]
        rw [nth_app_right]
    · rw [if_neg b]
      rw [if_neg b] at hdl
      have el : (inter (A ++ L) s ++ L.map fun b => nth b s).length = s * E.length + (E.length - A.length) := by rw [List.length_append, i1, List.length_map]; omega
      rw [Nat.add_assoc _ _ j, ← el, nth_app_right, e2 _ j (by omega) hj]
      have : k = ((A ++ L).getD j []).length + (k - s) := by rw [hdl]; omega
      conv => rhs; rw [this]
      rw [nth_app_right]

/-- A block of which the words from the first o places are already there. -/
def fillJ (raw : List Nat) (n s ls o len j : Nat) : List Nat := (List.range len).map fun k => if rho n s ls j k < o then nth raw (rho n s ls j k) else 0
theorem fillJ_len (raw : List Nat) (n s ls o len j : Nat) : (fillJ raw n s ls o len j).length = len := by simp [fillJ]
theorem fillJ_zero (raw : List Nat) (n s ls len j : Nat) : fillJ raw n s ls 0 len j = List.replicate len 0 := by
  apply List.ext_getElem (by simp [fillJ])
  intro i h1 h2; simp [fillJ]
theorem fillJ_set (raw : List Nat) (n s ls o len j k : Nat) (hj : j < n) (hl : ls ≤ n) (h : rho n s ls j k = o) : (fillJ raw n s ls o len j).set k (nth raw o) = fillJ raw n s ls (o + 1) len j := by
  apply List.ext_getElem (by simp [fillJ])
  intro i h1 h2
  simp only [fillJ, List.getElem_set, List.getElem_map, List.getElem_range]
  by_cases e : k = i
  · subst e; rw [if_pos rfl, h, if_pos (by omega)]
  · rw [if_neg e]
    have : rho n s ls j i ≠ o := fun h2 => e (rho_inj hj hj hl (h.trans h2.symm)).2
    by_cases c : rho n s ls j i < o
    · rw [if_pos c, if_pos (by omega)]
    · rw [if_neg c, if_neg (by omega)]
theorem fillJ_other (raw : List Nat) (n s ls o len j j' k : Nat) (hj : j < n) (hj' : j' < n) (hl : ls ≤ n) (h : rho n s ls j k = o) (hne : j' ≠ j) : fillJ raw n s ls (o + 1) len j' = fillJ raw n s ls o len j' := by
  unfold fillJ
  apply List.map_congr_left
  intro i _
  have : rho n s ls j' i ≠ o := fun h2 => hne (rho_inj hj' hj hl (h2.trans h.symm)).1
  by_cases c : rho n s ls j' i < o
  · rw [if_pos c, if_pos (by omega)]
  · rw [if_neg c, if_neg (by omega)]
end Go.Proofs.YtnpkihobbcglcaaGreatDoor
/- The bytes of a block. -/
open Go Go.RowKit
namespace Go.Proofs.YtnpkihobbcglcaaGreatDoor
open Go.QZ

def Shape (nb r : Nat) : Prop := (nb = 1 ∧ r = 0) ∨ (nb = 2 ∧ r = 0) ∨ (nb = 4 ∧ r = 0) ∨ (nb = 4 ∧ r = 2) ∨ (nb = 5 ∧ r = 1) ∨ (nb = 6 ∧ r = 4)

theorem tup3 {a b a' b' : Int} (h1 : a = a') (h2 : b = b') : Ending.returned (.tuple #[.int .i64 a, .int .i64 b, .nilIface]) = .returned (.tuple #[.int .i64 a', .int .i64 b', .nilIface]) := by rw [h1, h2]

set_option maxRecDepth 20000 in
set_option maxHeartbeats 3200000 in
theorem numBytes_c (w : World) (nb r t d id total dat : Nat) (hsh : Shape nb r) (htot : total = nb * t + r) (hdat : dat = nb * d + r) (hd : d ≤ t) (ht : t ≤ 200) (hid : id < nb) :
    Calls Tryz.prog 97 #[.int .i64 total, .int .i64 dat, .int .i64 nb, .int .i64 id] w fun e w' => e = .returned (.tuple #[.int .i64 (if id < nb - r then d else d + 1 : Nat), .int .i64 (t - d : Nat), .nilIface]) ∧ w = w' := by
  obtain ⟨x, hx⟩ : ∃ x, (if id < nb - r then d else d + 1 : Nat) = x := ⟨_, rfl⟩
  rw [hx]
  obtain ⟨rfl, rfl⟩ | ⟨rfl, rfl⟩ | ⟨rfl, rfl⟩ | ⟨rfl, rfl⟩ | ⟨rfl, rfl⟩ | ⟨rfl, rfl⟩ := hsh
  · have hlt : id < 1 - 0 := by omega
    all_goals
      first | rw [if_pos hlt] at hx | rw [if_neg hlt] at hx
      first | (have t1 : decide ((id : Int) < 1) = true := by simp; omega) | (have t1 : decide ((id : Int) < 1) = false := by simp; omega)
      have Hx := Lib.hid hx
      clear hx
      go_enter Tryz.func97, Tryz.ntmps97
      go_wp2
      go_ret3
      exact ⟨tup3 (by have := Hx.out; omega) (by omega), rfl⟩
  · have hlt : id < 2 - 0 := by omega
    all_goals
      first | rw [if_pos hlt] at hx | rw [if_neg hlt] at hx
      first | (have t1 : decide ((id : Int) < 2) = true := by simp; omega) | (have t1 : decide ((id : Int) < 2) = false := by simp; omega)
      have Hx := Lib.hid hx
      clear hx
      go_enter Tryz.func97, Tryz.ntmps97
      go_wp2
      go_ret3
      exact ⟨tup3 (by have := Hx.out; omega) (by omega), rfl⟩
  · have hlt : id < 4 - 0 := by omega
    all_goals
      first | rw [if_pos hlt] at hx | rw [if_neg hlt] at hx
      first | (have t1 : decide ((id : Int) < 4) = true := by simp; omega) | (have t1 : decide ((id : Int) < 4) = false := by simp; omega)
      have Hx := Lib.hid hx
      clear hx
      go_enter Tryz.func97, Tryz.ntmps97
      go_wp2
      go_ret3
      exact ⟨tup3 (by have := Hx.out; omega) (by omega), rfl⟩
  · by_cases hlt : id < 4 - 2
    all_goals
      first | rw [if_pos hlt] at hx | rw [if_neg hlt] at hx
      first | (have t1 : decide ((id : Int) < 2) = true := by simp; omega) | (have t1 : decide ((id : Int) < 2) = false := by simp; omega)
      have Hx := Lib.hid hx
      clear hx
      go_enter Tryz.func97, Tryz.ntmps97
      go_wp2
      go_ret3
      exact ⟨tup3 (by have := Hx.out; omega) (by omega), rfl⟩
  · by_cases hlt : id < 5 - 1
    all_goals
      first | rw [if_pos hlt] at hx | rw [if_neg hlt] at hx
      first | (have t1 : decide ((id : Int) < 4) = true := by simp; omega) | (have t1 : decide ((id : Int) < 4) = false := by simp; omega)
      have Hx := Lib.hid hx
      clear hx
      go_enter Tryz.func97, Tryz.ntmps97
      go_wp2
      go_ret3
      exact ⟨tup3 (by have := Hx.out; omega) (by omega), rfl⟩
  · by_cases hlt : id < 6 - 4
    all_goals
      first | rw [if_pos hlt] at hx | rw [if_neg hlt] at hx
      first | (have t1 : decide ((id : Int) < 2) = true := by simp; omega) | (have t1 : decide ((id : Int) < 2) = false := by simp; omega)
      have Hx := Lib.hid hx
      clear hx
      go_enter Tryz.func97, Tryz.ntmps97
      go_wp2
      go_ret3
      exact ⟨tup3 (by have := Hx.out; omega) (by omega), rfl⟩
end Go.Proofs.YtnpkihobbcglcaaGreatDoor
/- The blocks of a symbol's data: where they begin, how long they are, their bits in turns. -/
open Go Go.RowKit
namespace Go.Proofs.YtnpkihobbcglcaaGreatDoor
open Go.QZ

def dLen (nb r d j : Nat) : Nat := if j < nb - r then d else d + 1
def dOff (nb r d j : Nat) : Nat := j * d + (j - (nb - r))
theorem dOff_succ (nb r d j : Nat) : dOff nb r d (j + 1) = dOff nb r d j + dLen nb r d j := by
  unfold dOff dLen
  rw [Nat.succ_mul]
  generalize j * d = q
  split <;> omega
theorem dOff_all (nb r d : Nat) (h : r ≤ nb) : dOff nb r d nb = nb * d + r := by
  unfold dOff; generalize nb * d = q; omega
theorem dOff_mono (nb r d j : Nat) (h : j < nb) (hr : r ≤ nb) : dOff nb r d j + dLen nb r d j ≤ nb * d + r := by
  rw [← dOff_succ]
  unfold dOff
  have := Nat.mul_le_mul_right d (show j + 1 ≤ nb by omega)
  omega
def dRow (bs : List Bool) (nb r d j : Nat) : List Nat := bytesFrom bs (8 * dOff nb r d j) (dLen nb r d j)
theorem dRow_len (bs : List Bool) (nb r d j : Nat) : (dRow bs nb r d j).length = dLen nb r d j := bytesFrom_length _ _ _
def dRows (bs : List Bool) (nb r d : Nat) : List (List Nat) := (List.range nb).map (dRow bs nb r d)
theorem dRows_len (bs : List Bool) (nb r d : Nat) : (dRows bs nb r d).length = nb := by simp [dRows]
theorem dRows_get (bs : List Bool) (nb r d j : Nat) (h : j < nb) : (dRows bs nb r d).getD j [] = dRow bs nb r d j := by
  simp [dRows, List.getD_eq_getElem?_getD, h]

/-- The longest block up to now. -/
def mxTo (nb r d : Nat) : Nat → Nat
  | 0 => 0
  | i + 1 => if mxTo nb r d i < dLen nb r d i then dLen nb r d i else mxTo nb r d i
theorem mxTo_eq (nb r d : Nat) : ∀ i, i ≤ nb → mxTo nb r d i = if i = 0 then 0 else if i ≤ nb - r then d else d + 1 := by
  intro i
  induction i with
  | zero => intro _; rfl
  | succ i ih =>
    intro h
    unfold mxTo
    rw [ih (by omega)]
    unfold dLen
    (repeat' split) <;> omega
theorem mxTo_all (nb r d : Nat) (h : r < nb) : mxTo nb r d nb = if r = 0 then d else d + 1 := by
  rw [mxTo_eq _ _ _ _ (Nat.le_refl _)]
  (repeat' split) <;> omega
theorem mxTo_le (nb r d i : Nat) (h : i ≤ nb) : mxTo nb r d i ≤ d + 1 := by
  rw [mxTo_eq _ _ _ _ h]
  (repeat' split) <;> omega

theorem encB_app (a b : List Nat) : encB (a ++ b) = encB a ++ encB b := by unfold encB; rw [List.flatMap_append]
/-- The bits written after i whole turns and k blocks of the next. -/
def turnB (pre : List Bool) (bl : List (List Nat)) (i k : Nat) : List Bool := pre ++ encB (inter bl i ++ rowOf (bl.take k) i)
theorem turnB_zero (pre : List Bool) (bl : List (List Nat)) : turnB pre bl 0 0 = pre := by simp [turnB, inter, rowOf, encB]
theorem turnB_at (pre : List Bool) (bl : List (List Nat)) (i : Nat) : turnB pre bl i 0 = pre ++ encB (inter bl i) := by simp [turnB, rowOf]
theorem turnB_next (pre : List Bool) (bl : List (List Nat)) (i : Nat) : turnB pre bl i bl.length = turnB pre bl (i + 1) 0 := by
  unfold turnB
  rw [List.take_length]
  simp [inter, rowOf]
theorem turnB_add (pre : List Bool) (bl : List (List Nat)) (i k : Nat) (h : k < bl.length) (hi : i < (bl.getD k []).length) : turnB pre bl i (k + 1) = turnB pre bl i k ++ beBits (nth (bl.getD k []) i) 8 := by
  unfold turnB
  rw [row_take _ _ _ h, if_pos hi, ← List.append_assoc, encB_snoc, List.append_assoc]
theorem turnB_skip (pre : List Bool) (bl : List (List Nat)) (i k : Nat) (h : k < bl.length) (hi : ¬ i < (bl.getD k []).length) : turnB pre bl i (k + 1) = turnB pre bl i k := by
  unfold turnB
  rw [row_take _ _ _ h, if_neg hi, List.append_nil]
theorem row_len_le (bl : List (List Nat)) (i : Nat) : (rowOf bl i).length ≤ bl.length := by unfold rowOf; exact List.length_filterMap_le _ _
theorem inter_len_le (bl : List (List Nat)) : ∀ i, (inter bl i).length ≤ i * bl.length := by
  intro i
  induction i with
  | zero => simp [inter]
  | succ i ih =>
    have := row_len_le bl i
    unfold inter
    rw [List.length_append, Nat.succ_mul]; omega
theorem turnB_len (pre : List Bool) (bl : List (List Nat)) (i k : Nat) (n b : Nat) (hb : bl.length ≤ b) (hi : i ≤ n) : (turnB pre bl i k).length ≤ pre.length + 8 * (n * b + b) := by
  unfold turnB
  have h1 := inter_len_le bl i
  have h2 := row_len_le (bl.take k) i
  have h3 : i * bl.length ≤ n * b := Nat.mul_le_mul hi hb
  have h4 : (bl.take k).length ≤ bl.length := by rw [List.length_take]; omega
  rw [List.length_append, encB_len, List.length_append]
  omega

/-- The short blocks and the long ones. -/
theorem dRows_short (bs : List Bool) (nb r d : Nat) : ∀ b ∈ (dRows bs nb r d).take (nb - r), b.length = d := by
  intro b hb
  obtain ⟨i, hi, rfl⟩ := List.mem_iff_getElem.1 hb
  rw [List.length_take, dRows_len] at hi
  simp only [List.getElem_take, dRows, List.getElem_map, List.getElem_range, dRow_len]
  unfold dLen
  rw [if_pos (by omega)]
theorem dRows_long (bs : List Bool) (nb r d : Nat) : ∀ b ∈ (dRows bs nb r d).drop (nb - r), b.length = d + 1 := by
  intro b hb
  obtain ⟨i, hi, rfl⟩ := List.mem_iff_getElem.1 hb
  rw [List.length_drop, dRows_len] at hi
  simp only [List.getElem_drop, dRows, List.getElem_map, List.getElem_range, dRow_len]
  unfold dLen
  rw [if_neg (by omega)]
theorem dRows_inter_len (bs : List Bool) (nb r d : Nat) (h : r < nb) : (inter (dRows bs nb r d) (if r = 0 then d else d + 1)).length = nb * d + r := by
  have hs := dRows_short bs nb r d
  have hl := dRows_long bs nb r d
  have happ := List.take_append_drop (nb - r) (dRows bs nb r d)
  have hlen := dRows_len bs nb r d
  have hdl : ((dRows bs nb r d).drop (nb - r)).length = r := by rw [List.length_drop, hlen]; omega
  have hall : ∀ b ∈ dRows bs nb r d, d ≤ b.length := by
    intro b hb
    rw [← happ] at hb
    rcases List.mem_append.1 hb with h | h
    · rw [hs b h]; exact Nat.le_refl _
    · rw [hl b h]; omega
  have h1 := (inter_full _ d hall).1
  rw [hlen] at h1
  by_cases h0 : r = 0
  · rw [if_pos h0, h1, Nat.mul_comm, h0]; rfl
  · rw [if_neg h0]
    unfold inter
    rw [List.length_append, h1]
    have : rowOf (dRows bs nb r d) d = ((dRows bs nb r d).drop (nb - r)).map fun b => nth b d := by
      rw [← happ, row_app, row_none d _ (fun b hb => by rw [hs b hb]; exact Nat.le_refl _), List.nil_append, row_full d _ (fun b hb => by rw [hl b hb]; omega), happ]
    rw [this, List.length_map, hdl, Nat.mul_comm]
theorem eRows_inter_len (es : List (List Nat)) (n : Nat) (h : ∀ e ∈ es, e.length = n) : (inter es n).length = n * es.length := (inter_full es n (fun b hb => by rw [h b hb]; exact Nat.le_refl _)).1
end Go.Proofs.YtnpkihobbcglcaaGreatDoor
/- What is left of a stream of bits: numbers and lists alone. -/
open Go Go.RowKit
namespace Go.Proofs.YtnpkihobbcglcaaGreatDoor
open Go.QZ

/-- Of the bits of n bytes, those from pos on are rest. -/
def Left (ys : List Nat) (n pos : Nat) (rest : List Bool) : Prop := pos + rest.length = 8 * n ∧ ∃ pre : List Bool, pre.length = pos ∧ ∀ i, bitAt ys i = bth (pre ++ rest) i

theorem Left.start (ys : List Nat) (bs : List Bool) (n : Nat) (hl : bs.length = 8 * n) (h : ∀ i, bitAt ys i = bth bs i) : Left ys n 0 bs := ⟨by omega, [], rfl, h⟩
theorem Left.take {ys : List Nat} {n pos v k : Nat} {post : List Bool} (h : Left ys n pos (beBits v k ++ post)) (hv : v < 2 ^ k) : num (bitAt ys) pos k = v ∧ Left ys n (pos + k) post ∧ pos + k ≤ 8 * n := by
  obtain ⟨hl, pre, rfl, hb⟩ := h
  rw [List.length_append, beBits_length] at hl
  have e : ∀ i, bitAt ys i = bth (pre ++ beBits v k ++ post) i := fun i => by rw [hb i, List.append_assoc]
  refine ⟨num_of _ pre post v k hv e, ⟨by omega, pre ++ beBits v k, by rw [List.length_append, beBits_length], e⟩, by omega⟩
end Go.Proofs.YtnpkihobbcglcaaGreatDoor
/- The words of a symbol, read back: numbers and lists alone. -/
open Go Go.RowKit
namespace Go.Proofs.YtnpkihobbcglcaaGreatDoor
open Go.QZ

theorem bytesFrom_add (bs : List Bool) (o n m : Nat) : bytesFrom bs o (n + m) = bytesFrom bs o n ++ bytesFrom bs (o + 8 * n) m := by
  unfold bytesFrom
  rw [List.range_add, List.map_append, List.map_map]
  congr 1
  apply List.map_congr_left
  intro i _
  show byteAt bs (o + 8 * (n + i)) = byteAt bs (o + 8 * n + 8 * i)
  congr 1
  omega
/-- The words that bits say. -/
theorem raw_words (words : List Nat) (hs : ∀ x ∈ words, x < 256) (rb : List Bool) (h : ∀ i, i < 8 * words.length → bth rb i = bth (encB words) i) : bytesFrom rb 0 words.length = words := by
  apply List.ext_getElem (bytesFrom_length _ _ _)
  intro k h1 h2
  have e1 : (bytesFrom rb 0 words.length)[k] = nth (bytesFrom rb 0 words.length) k := by simp [nth, List.getD_eq_getElem?_getD, h1]
  have e2 : words[k] = nth words k := by simp [nth, List.getD_eq_getElem?_getD, h2]
  rw [e1, e2, bytesFrom_get _ _ _ _ h2, ← byteAt_encB words hs k h2]
  unfold byteAt
  apply pb_congr
  intro m hm
  rw [Nat.zero_add]
  exact h _ (by omega)
/-- The data of the blocks, one behind the other. -/
theorem dRows_flat (bs : List Bool) (nb r d : Nat) : ∀ j, j ≤ nb → ((dRows bs nb r d).take j).flatten = bytesFrom bs 0 (dOff nb r d j) := by
  intro j
  induction j with
  | zero => intro _; simp [dOff, bytesFrom]
  | succ j ih =>
    intro h
    have hl : j < (dRows bs nb r d).length := by rw [dRows_len]; omega
    rw [List.take_succ_eq_append_getElem hl, List.flatten_append, ih (by omega), dOff_succ, bytesFrom_add, Nat.zero_add]
    congr 1
    have := dRows_get bs nb r d j (by omega)
    rw [List.getD_eq_getElem?_getD, List.getElem?_eq_getElem hl] at this
    simp only [Option.getD_some] at this
    rw [this]; simp [dRow]
theorem dRows_flat_all (bs : List Bool) (nb r d : Nat) (h : r ≤ nb) : (dRows bs nb r d).flatten = bytesFrom bs 0 (nb * d + r) := by
  have := dRows_flat bs nb r d nb (Nat.le_refl _)
  rwa [dOff_all _ _ _ h, List.take_of_length_le (by rw [dRows_len]; exact Nat.le_refl _)] at this
/-- The bits of bytes of bits are these bits. -/
theorem bitAt_all (bs : List Bool) (n : Nat) (h : bs.length = 8 * n) (i : Nat) : bitAt (bytesFrom bs 0 n) i = bth bs i := by
  by_cases hi : i < 8 * n
  · exact bitAt_bytes bs n i hi
  · rw [bth_out (by omega)]
    unfold bitAt
    have : nth (bytesFrom bs 0 n) (i / 8) = 0 := by
      unfold nth
      rw [List.getD_eq_getElem?_getD, List.getElem?_eq_none (by rw [bytesFrom_length]; omega)]; rfl
    rw [this, Nat.zero_testBit]
end Go.Proofs.YtnpkihobbcglcaaGreatDoor
