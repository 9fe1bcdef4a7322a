/- Part 12 of the proof of FnPXQuick (a QR code that is written for a text says this text in a picture): parts of the road. No condition. -/
import Derived.Test.YtnpkihobbcglcaaGreatDoorG01
import Derived.Test.YtnpkihobbcglcaaGreatDoorG02
import Derived.Test.YtnpkihobbcglcaaGreatDoorG06
/- GF(256) of QR codes, and polynomials over it: numbers and lists alone. (The two tables are written by gen_gf.py.) -/
namespace Go
namespace QZ

/-- Twice a number of the field. -/
def xtm (x : Nat) : Nat := if 256 ≤ 2 * x then (2 * x ^^^ 285) &&& 255 else 2 * x
def expF : Nat → Nat
  | 0 => 1
  | i + 1 => xtm (expF i)
def expL : List Nat := [1, 2, 4, 8, 16, 32, 64, 128, 29, 58, 116, 232, 205, 135, 19, 38, 76, 152, 45, 90, 180, 117, 234, 201, 143, 3, 6, 12, 24, 48, 96, 192, 157, 39, 78, 156, 37, 74, 148, 53, 106, 212, 181, 119, 238, 193, 159, 35, 70, 140, 5, 10, 20, 40, 80, 160, 93, 186, 105, 210, 185, 111, 222, 161, 95, 190, 97, 194, 153, 47, 94, 188, 101, 202, 137, 15, 30, 60, 120, 240, 253, 231, 211, 187, 107, 214, 177, 127, 254, 225, 223, 163, 91, 182, 113, 226, 217, 175, 67, 134, 17, 34, 68, 136, 13, 26, 52, 104, 208, 189, 103, 206, 129, 31, 62, 124, 248, 237, 199, 147, 59, 118, 236, 197, 151, 51, 102, 204, 133, 23, 46, 92, 184, 109, 218, 169, 79, 158, 33, 66, 132, 21, 42, 84, 168, 77, 154, 41, 82, 164, 85, 170, 73, 146, 57, 114, 228, 213, 183, 115, 230, 209, 191, 99, 198, 145, 63, 126, 252, 229, 215, 179, 123, 246, 241, 255, 227, 219, 171, 75, 150, 49, 98, 196, 149, 55, 110, 220, 165, 87, 174, 65, 130, 25, 50, 100, 200, 141, 7, 14, 28, 56, 112, 224, 221, 167, 83, 166, 81, 162, 89, 178, 121, 242, 249, 239, 195, 155, 43, 86, 172, 69, 138, 9, 18, 36, 72, 144, 61, 122, 244, 245, 247, 243, 251, 235, 203, 139, 11, 22, 44, 88, 176, 125, 250, 233, 207, 131, 27, 54, 108, 216, 173, 71, 142, 1]
def logL : List Nat := [0, 0, 1, 25, 2, 50, 26, 198, 3, 223, 51, 238, 27, 104, 199, 75, 4, 100, 224, 14, 52, 141, 239, 129, 28, 193, 105, 248, 200, 8, 76, 113, 5, 138, 101, 47, 225, 36, 15, 33, 53, 147, 142, 218, 240, 18, 130, 69, 29, 181, 194, 125, 106, 39, 249, 185, 201, 154, 9, 120, 77, 228, 114, 166, 6, 191, 139, 98, 102, 221, 48, 253, 226, 152, 37, 179, 16, 145, 34, 136, 54, 208, 148, 206, 143, 150, 219, 189, 241, 210, 19, 92, 131, 56, 70, 64, 30, 66, 182, 163, 195, 72, 126, 110, 107, 58, 40, 84, 250, 133, 186, 61, 202, 94, 155, 159, 10, 21, 121, 43, 78, 212, 229, 172, 115, 243, 167, 87, 7, 112, 192, 247, 140, 128, 99, 13, 103, 74, 222, 237, 49, 197, 254, 24, 227, 165, 153, 119, 38, 184, 180, 124, 17, 68, 146, 217, 35, 32, 137, 46, 55, 63, 209, 91, 149, 188, 207, 205, 144, 135, 151, 178, 220, 252, 190, 97, 242, 86, 211, 171, 20, 42, 93, 158, 132, 60, 57, 83, 71, 109, 65, 162, 31, 45, 67, 216, 183, 123, 164, 118, 196, 23, 73, 236, 127, 12, 111, 246, 108, 161, 59, 82, 41, 157, 85, 170, 251, 96, 134, 177, 187, 204, 62, 90, 203, 89, 95, 176, 156, 169, 160, 81, 11, 245, 22, 235, 122, 117, 44, 215, 79, 174, 213, 233, 230, 231, 173, 232, 116, 214, 244, 234, 168, 80, 88, 175]

def gmul (a b : Nat) : Nat := if a = 0 ∨ b = 0 then 0 else nth expL ((nth logL a + nth logL b) % 255)

theorem expL_eq : expL = (List.range 256).map expF := by decide +kernel
theorem expL_len : expL.length = 256 := by decide +kernel
theorem logL_len : logL.length = 256 := by decide +kernel
theorem exp_at (i : Nat) (h : i < 256) : nth expL i = expF i := by
  rw [expL_eq]; simp [nth, List.getD_eq_getElem?_getD, h]
theorem log_all : ∀ a, a < 256 → a = 0 ∨ (nth logL a < 255 ∧ nth expL (nth logL a) = a) := by decide +kernel
theorem log_exp : ∀ i, i < 255 → nth logL (nth expL i) = i := by decide +kernel
theorem xtm_lt (x : Nat) (h : x < 256) : xtm x < 256 := by
  unfold xtm
  split
  · exact Nat.lt_of_le_of_lt Nat.and_le_right (by decide)
  · omega
theorem exp_lt (i : Nat) : expF i < 256 := by
  induction i with
  | zero => decide
  | succ i ih => exact xtm_lt _ ih
theorem exp255 : expF 255 = 1 := by decide +kernel
theorem exp_per (i : Nat) : expF (i + 255) = expF i := by
  induction i with
  | zero => exact exp255
  | succ i ih => rw [show i + 1 + 255 = (i + 255) + 1 by omega]; show xtm (expF (i + 255)) = xtm (expF i); rw [ih]
theorem exp_mod (i : Nat) : expF (i % 255) = expF i := by
  have h : ∀ q r, expF (r + 255 * q) = expF r := by
    intro q
    induction q with
    | zero => intro r; rfl
    | succ q ih => intro r; rw [show r + 255 * (q + 1) = (r + 255 * q) + 255 by omega, exp_per, ih]
  conv => rhs; rw [← Nat.mod_add_div i 255]
  rw [h]
theorem exp_pos (i : Nat) : expF i ≠ 0 := by
  rw [← exp_mod]
  have : ∀ j, j < 255 → expF j ≠ 0 := by
    have h : ∀ j, j < 255 → nth expL j ≠ 0 := by decide +kernel
    intro j hj; rw [← exp_at j (by omega)]; exact h j hj
  exact this _ (Nat.mod_lt _ (by decide))
theorem lg_of (a : Nat) (h : a < 256) (h0 : a ≠ 0) : nth logL a < 255 ∧ expF (nth logL a) = a := by
  rcases log_all a h with e | ⟨h1, h2⟩
  · exact absurd e h0
  · exact ⟨h1, by rw [← exp_at _ (by omega)]; exact h2⟩
theorem lg_exp (i : Nat) (h : i < 255) : nth logL (expF i) = i := by rw [← exp_at i (by omega)]; exact log_exp i h
theorem gmul_exp (i j : Nat) (hi : i < 255) (hj : j < 255) : gmul (expF i) (expF j) = expF (i + j) := by
  unfold gmul
  rw [if_neg (by intro h; rcases h with h | h <;> exact exp_pos _ h), lg_exp i hi, lg_exp j hj, exp_at _ (Nat.lt_trans (Nat.mod_lt _ (by decide)) (by decide)), exp_mod]
theorem gmul_zero_left (b : Nat) : gmul 0 b = 0 := by unfold gmul; rw [if_pos (.inl rfl)]
theorem gmul_zero_right (b : Nat) : gmul b 0 = 0 := by unfold gmul; rw [if_pos (.inr rfl)]
theorem gmul_comm (a b : Nat) : gmul a b = gmul b a := by
  unfold gmul
  by_cases h : a = 0 ∨ b = 0
  · rw [if_pos h, if_pos h.symm]
  · rw [if_neg h, if_neg (fun k => h k.symm), Nat.add_comm]
theorem gmul_lt (a b : Nat) : gmul a b < 256 := by
  unfold gmul
  split
  · decide
  · exact nth_lt (by decide) (by decide +kernel) _
theorem gmul_ne (a b : Nat) (ha : a < 256) (hb : b < 256) (h1 : a ≠ 0) (h2 : b ≠ 0) : gmul a b ≠ 0 := by
  obtain ⟨i1, e1⟩ := lg_of a ha h1
  obtain ⟨i2, e2⟩ := lg_of b hb h2
  rw [← e1, ← e2, gmul_exp _ _ i1 i2]; exact exp_pos _

/-- Doubling again and again. -/
def xtms : Nat → Nat → Nat
  | 0, a => a
  | n + 1, a => xtm (xtms n a)
theorem xtms_exp (n i : Nat) : xtms n (expF i) = expF (i + n) := by
  induction n with
  | zero => rfl
  | succ n ih => show xtm (xtms n (expF i)) = xtm (expF (i + n)); rw [ih]
theorem xtms_zero (n : Nat) : xtms n 0 = 0 := by
  induction n with
  | zero => rfl
  | succ n ih => show xtm (xtms n 0) = 0; rw [ih]; rfl
theorem gmul_xtms (a j : Nat) (ha : a < 256) (hj : j < 255) : gmul a (expF j) = xtms j a := by
  by_cases h : a = 0
  · subst h; rw [gmul_zero_left, xtms_zero]
  · obtain ⟨h1, h2⟩ := lg_of a ha h
    conv => lhs; rw [← h2]
    rw [gmul_exp _ _ h1 hj]
    conv => rhs; rw [← h2]
    rw [xtms_exp]

def xorN (a b : Nat) : Nat := a ^^^ b
theorem xorN_lt {a b : Nat} (ha : a < 256) (hb : b < 256) : xorN a b < 256 := Nat.xor_lt_two_pow (n := 8) ha hb
theorem xorN_self (a : Nat) : xorN a a = 0 := Nat.xor_self a
theorem xorN_zero (a : Nat) : xorN a 0 = a := Nat.xor_zero a
theorem zero_xorN (a : Nat) : xorN 0 a = a := Nat.zero_xor a
theorem xorN_assoc (a b c : Nat) : xorN (xorN a b) c = xorN a (xorN b c) := Nat.xor_assoc a b c
theorem xorN_comm (a b : Nat) : xorN a b = xorN b a := Nat.xor_comm a b
theorem xtm_lin : ∀ x, x < 256 → ∀ y, y < 256 → xtm (x ^^^ y) = xtm x ^^^ xtm y := by decide +kernel
theorem xtms_lin (n x y : Nat) (hx : x < 256) (hy : y < 256) : xtms n (xorN x y) = xorN (xtms n x) (xtms n y) ∧ xtms n x < 256 ∧ xtms n y < 256 := by
  induction n with
  | zero => exact ⟨rfl, hx, hy⟩
  | succ n ih =>
    obtain ⟨h1, h2, h3⟩ := ih
    refine ⟨?_, xtm_lt _ h2, xtm_lt _ h3⟩
    show xtm (xtms n (xorN x y)) = _
    rw [h1]; exact xtm_lin _ h2 _ h3
theorem gmul_dist (x y c : Nat) (hx : x < 256) (hy : y < 256) (hc : c < 256) : gmul (xorN x y) c = xorN (gmul x c) (gmul y c) := by
  by_cases h : c = 0
  · subst h; rw [gmul_zero_right, gmul_zero_right, gmul_zero_right]; rfl
  · obtain ⟨h1, h2⟩ := lg_of c hc h
    rw [← h2, gmul_xtms _ _ (xorN_lt hx hy) h1, gmul_xtms _ _ hx h1, gmul_xtms _ _ hy h1]
    exact (xtms_lin _ x y hx hy).1
theorem gmul_assoc (a b c : Nat) (ha : a < 256) (hb : b < 256) (hc : c < 256) : gmul (gmul a b) c = gmul a (gmul b c) := by
  by_cases h1 : a = 0
  · subst h1; rw [gmul_zero_left, gmul_zero_left, gmul_zero_left]
  by_cases h2 : b = 0
  · subst h2; rw [gmul_zero_right, gmul_zero_left, gmul_zero_right]
  by_cases h3 : c = 0
  · subst h3; rw [gmul_zero_right, gmul_zero_right, gmul_zero_right]
  obtain ⟨i1, e1⟩ := lg_of a ha h1
  obtain ⟨i2, e2⟩ := lg_of b hb h2
  obtain ⟨i3, e3⟩ := lg_of c hc h3
  have m : ∀ i, i % 255 < 255 := fun i => Nat.mod_lt _ (by decide)
  rw [← e1, ← e2, ← e3, gmul_exp _ _ i1 i2, gmul_exp _ _ i2 i3, ← exp_mod (nth logL a + nth logL b), ← exp_mod (nth logL b + nth logL c), gmul_exp _ _ (m _) i3, gmul_exp _ _ i1 (m _), ← exp_mod, ← exp_mod (nth logL a + _)]
  congr 1
  omega
theorem gmul_one (a : Nat) (ha : a < 256) : gmul a 1 = a := by
  have := gmul_xtms a 0 ha (by decide)
  exact this
theorem one_gmul (a : Nat) (ha : a < 256) : gmul 1 a = a := by rw [gmul_comm]; exact gmul_one a ha

/-- The value of a polynomial (the highest coefficient first). -/
def evF (a : Nat) (r : Nat) (p : List Nat) : Nat := p.foldl (fun r c => xorN (gmul a r) c) r
def ev (a : Nat) (p : List Nat) : Nat := evF a 0 p
def Small (p : List Nat) : Prop := ∀ x ∈ p, x < 256

theorem Small.tail {x : Nat} {p : List Nat} (h : Small (x :: p)) : Small p := fun y hy => h y (List.mem_cons_of_mem _ hy)
theorem Small.head {x : Nat} {p : List Nat} (h : Small (x :: p)) : x < 256 := h x List.mem_cons_self
theorem Small.app {p q : List Nat} (h : Small p) (k : Small q) : Small (p ++ q) := fun y hy => (List.mem_append.1 hy).elim (h y) (k y)
theorem small_zeros (n : Nat) : Small (List.replicate n 0) := fun y hy => by rw [(List.mem_replicate.1 hy).2]; decide
theorem evF_lt (a : Nat) (p : List Nat) : ∀ r, r < 256 → Small p → evF a r p < 256 := by
  induction p with
  | nil => intro r hr _; exact hr
  | cons x p ih => intro r hr hs; exact ih _ (xorN_lt (gmul_lt _ _) hs.head) hs.tail
theorem ev_lt (a : Nat) (p : List Nat) (h : Small p) : ev a p < 256 := evF_lt a p 0 (by decide) h
theorem evF_app (a r : Nat) (p q : List Nat) : evF a r (p ++ q) = evF a (evF a r p) q := by unfold evF; rw [List.foldl_append]
theorem ev_zero_cons (a : Nat) (p : List Nat) : ev a (0 :: p) = ev a p := by
  show evF a (xorN (gmul a 0) 0) p = evF a 0 p
  rw [gmul_zero_right]; rfl
theorem ev_zeros_app (a n : Nat) (p : List Nat) : ev a (List.replicate n 0 ++ p) = ev a p := by
  induction n with
  | zero => rfl
  | succ n ih => rw [List.replicate_succ, List.cons_append, ev_zero_cons, ih]
theorem evF_zeros (a n : Nat) : evF a 0 (List.replicate n 0) = 0 := by
  have := ev_zeros_app a n []
  rw [List.append_nil] at this; exact this
theorem ev_root_zeros (a n : Nat) (p : List Nat) (h : ev a p = 0) : ev a (p ++ List.replicate n 0) = 0 := by
  unfold ev at *
  rw [evF_app, h, evF_zeros]
theorem evF_scale (a c : Nat) (ha : a < 256) (hc : c < 256) (p : List Nat) : ∀ r, r < 256 → Small p → evF a (gmul r c) (p.map fun x => gmul x c) = gmul (evF a r p) c := by
  induction p with
  | nil => intro r _ _; rfl
  | cons x p ih =>
    intro r hr hs
    show evF a (xorN (gmul a (gmul r c)) (gmul x c)) (p.map fun x => gmul x c) = gmul (evF a (xorN (gmul a r) x) p) c
    rw [← ih _ (xorN_lt (gmul_lt _ _) hs.head) hs.tail, gmul_dist _ _ _ (gmul_lt _ _) hs.head hc, gmul_assoc a r c ha hr hc]
theorem ev_scale (a c : Nat) (ha : a < 256) (hc : c < 256) (p : List Nat) (hs : Small p) : ev a (p.map fun x => gmul x c) = gmul (ev a p) c := by
  have := evF_scale a c ha hc p 0 (by decide) hs
  rwa [gmul_zero_left] at this
/-- Polynomials of one length, added. -/
def addL (p q : List Nat) : List Nat := List.zipWith xorN p q
theorem xor4 (a b c d : Nat) : xorN (xorN a b) (xorN c d) = xorN (xorN a c) (xorN b d) := by
  rw [xorN_assoc, xorN_assoc, ← xorN_assoc b c d, xorN_comm b c, xorN_assoc c b d]
theorem evF_add (a : Nat) (ha : a < 256) : ∀ (p q : List Nat) (r s : Nat), p.length = q.length → r < 256 → s < 256 → Small p → Small q → evF a (xorN r s) (addL p q) = xorN (evF a r p) (evF a s q)
  | [], [], _, _, _, _, _, _, _ => rfl
  | x :: p, y :: q, r, s, hl, hr, hs, hp, hq => by
    show evF a (xorN (gmul a (xorN r s)) (xorN x y)) (addL p q) = xorN (evF a (xorN (gmul a r) x) p) (evF a (xorN (gmul a s) y) q)
    rw [← evF_add a ha p q _ _ (by simpa using hl) (xorN_lt (gmul_lt _ _) hp.head) (xorN_lt (gmul_lt _ _) hq.head) hp.tail hq.tail, gmul_comm a (xorN r s), gmul_dist _ _ _ hr hs ha, gmul_comm r a, gmul_comm s a, xor4]
  | [], _ :: _, _, _, h, _, _, _, _ => by simp at h
  | _ :: _, [], _, _, h, _, _, _, _ => by simp at h
theorem ev_add (a : Nat) (ha : a < 256) (p q : List Nat) (hl : p.length = q.length) (hp : Small p) (hq : Small q) : ev a (addL p q) = xorN (ev a p) (ev a q) :=
  evF_add a ha p q 0 0 hl (by decide) (by decide) hp hq
theorem small_add {p q : List Nat} (hp : Small p) (hq : Small q) : Small (addL p q) := by
  intro x hx
  unfold addL at hx
  obtain ⟨i, hi, rfl⟩ := List.getElem_of_mem hx
  rw [List.getElem_zipWith]
  exact xorN_lt (hp _ (List.getElem_mem _)) (hq _ (List.getElem_mem _))
/-- What stands behind data: its value is added. -/
theorem ev_tail (a : Nat) (ha : a < 256) (p q : List Nat) (hp : Small p) (hq : Small q) : ev a (p ++ q) = xorN (ev a (p ++ List.replicate q.length 0)) (ev a q) := by
  have e : p ++ q = addL (p ++ List.replicate q.length 0) (List.replicate p.length 0 ++ q) := by
    unfold addL
    rw [List.zipWith_append (by simp)]
    congr 1
    · apply List.ext_getElem (by simp)
      intro i h1 h2; simp [xorN_zero]
    · apply List.ext_getElem (by simp)
      intro i h1 h2; simp [zero_xorN]
  conv => lhs; rw [e]
  rw [ev_add a ha _ _ (by simp) (hp.app (small_zeros _)) ((small_zeros _).app hq), ev_zeros_app]

/-- Without zeros ahead; but one, if there is nothing else. -/
def strip : List Nat → List Nat
  | [] => []
  | [x] => [x]
  | x :: y :: p => if x = 0 then strip (y :: p) else x :: y :: p
theorem ev_strip (a : Nat) : ∀ p : List Nat, ev a (strip p) = ev a p
  | [] => rfl
  | [_] => rfl
  | x :: y :: p => by
    unfold strip
    split
    · rename_i h; subst h; rw [ev_strip a (y :: p), ev_zero_cons]
    · rfl
theorem strip_len : ∀ p : List Nat, (strip p).length ≤ p.length
  | [] => Nat.le_refl _
  | [_] => Nat.le_refl _
  | x :: y :: p => by
    unfold strip
    split
    · have := strip_len (y :: p); simp only [List.length_cons] at *; omega
    · exact Nat.le_refl _
theorem strip_pos : ∀ p : List Nat, 0 < p.length → 0 < (strip p).length
  | [], h => h
  | [_], h => h
  | x :: y :: p, _ => by
    unfold strip
    split
    · exact strip_pos (y :: p) (by simp)
    · simp
theorem strip_small : ∀ p : List Nat, Small p → Small (strip p)
  | [], h => h
  | [_], h => h
  | x :: y :: p, h => by
    unfold strip
    split
    · exact strip_small (y :: p) h.tail
    · exact h
/-- In its form: the first coefficient is not 0, or it is the only one. -/
def Neat (p : List Nat) : Prop := 0 < p.length ∧ (1 < p.length → nth p 0 ≠ 0)
theorem strip_neat : ∀ p : List Nat, 0 < p.length → Neat (strip p)
  | [], h => by simp at h
  | [_], _ => ⟨by simp [strip], fun h => by simp [strip] at h⟩
  | x :: y :: p, _ => by
    unfold strip
    split
    · exact strip_neat (y :: p) (by simp)
    · rename_i h; exact ⟨by simp, fun _ => h⟩
theorem strip_of_neat {p : List Nat} (h : Neat p) : strip p = p := by
  match p, h with
  | [], h => rfl
  | [_], _ => rfl
  | x :: y :: p, h =>
    unfold strip
    rw [if_neg (show ¬ x = 0 from h.2 (by simp))]
theorem strip_drop : ∀ p : List Nat, ∃ k, strip p = p.drop k ∧ k ≤ p.length
  | [] => ⟨0, rfl, Nat.le_refl _⟩
  | [_] => ⟨0, rfl, by simp⟩
  | x :: y :: p => by
    unfold strip
    split
    · obtain ⟨k, h1, h2⟩ := strip_drop (y :: p)
      exact ⟨k + 1, h1, by simp only [List.length_cons] at *; omega⟩
    · exact ⟨0, rfl, by simp⟩
end QZ
end Go
/- The generators of Reed-Solomon codes, and why a code word has no error: numbers and lists alone. (The table is written by gen_rs.py.) -/
namespace Go
namespace QZ

/-- A product of polynomials after so many steps. -/
def mulS (p q : List Nat) : Nat → List Nat
  | 0 => List.replicate (p.length + q.length - 1) 0
  | n + 1 => (mulS p q n).set (n / q.length + n % q.length) (xorN (nth (mulS p q n) (n / q.length + n % q.length)) (gmul (nth p (n / q.length)) (nth q (n % q.length))))
theorem mulS_len (p q : List Nat) (n : Nat) : (mulS p q n).length = p.length + q.length - 1 := by
  induction n with
  | zero => simp [mulS]
  | succ n ih => unfold mulS; rw [List.length_set, ih]
theorem small_set {p : List Nat} (h : Small p) (k x : Nat) (hx : x < 256) : Small (p.set k x) := fun y hy => by
  rcases List.mem_or_eq_of_mem_set hy with hy | hy
  · exact h y hy
  · rw [hy]; exact hx
theorem small_nth {p : List Nat} (h : Small p) (k : Nat) : nth p k < 256 := nth_lt (by decide) h k
theorem mulS_small (p q : List Nat) (n : Nat) : Small (mulS p q n) := by
  induction n with
  | zero => exact small_zeros _
  | succ n ih => unfold mulS; exact small_set ih _ _ (xorN_lt (small_nth ih _) (gmul_lt _ _))
/-- The generators of degrees 0 to 30. -/
def gens : List (List Nat) := [[1], [1, 1], [1, 3, 2], [1, 7, 14, 8], [1, 15, 54, 120, 64], [1, 31, 198, 63, 147, 116], [1, 63, 1, 218, 32, 227, 38], [1, 127, 122, 154, 164, 11, 68, 117], [1, 255, 11, 81, 54, 239, 173, 200, 24], [1, 226, 207, 158, 245, 235, 164, 232, 197, 37], [1, 216, 194, 159, 111, 199, 94, 95, 113, 157, 193], [1, 172, 130, 163, 50, 123, 219, 162, 248, 144, 116, 160], [1, 68, 119, 67, 118, 220, 31, 7, 84, 92, 127, 213, 97], [1, 137, 73, 227, 17, 177, 17, 52, 13, 46, 43, 83, 132, 120], [1, 14, 54, 114, 70, 174, 151, 43, 158, 195, 127, 166, 210, 234, 163], [1, 29, 196, 111, 163, 112, 74, 10, 105, 105, 139, 132, 151, 32, 134, 26], [1, 59, 13, 104, 189, 68, 209, 30, 8, 163, 65, 41, 229, 98, 50, 36, 59], [1, 119, 66, 83, 120, 119, 22, 197, 83, 249, 41, 143, 134, 85, 53, 125, 99, 79], [1, 239, 251, 183, 113, 149, 175, 199, 215, 240, 220, 73, 82, 173, 75, 32, 67, 217, 146], [1, 194, 8, 26, 146, 20, 223, 187, 152, 85, 115, 238, 133, 146, 109, 173, 138, 33, 172, 179], [1, 152, 185, 240, 5, 111, 99, 6, 220, 112, 150, 69, 36, 187, 22, 228, 198, 121, 121, 165, 174], [1, 44, 243, 13, 131, 49, 132, 194, 67, 214, 28, 89, 124, 82, 158, 244, 37, 236, 142, 82, 255, 89], [1, 89, 179, 131, 176, 182, 244, 19, 189, 69, 40, 28, 137, 29, 123, 67, 253, 86, 218, 230, 26, 145, 245], [1, 179, 68, 154, 163, 140, 136, 190, 152, 25, 85, 19, 3, 196, 27, 113, 198, 18, 130, 2, 120, 93, 41, 71], [1, 122, 118, 169, 70, 178, 237, 216, 102, 115, 150, 229, 73, 130, 72, 61, 43, 206, 1, 237, 247, 127, 217, 144, 117], [1, 245, 49, 228, 53, 215, 6, 205, 210, 38, 82, 56, 80, 97, 139, 81, 134, 126, 168, 98, 226, 125, 23, 171, 173, 193], [1, 246, 51, 183, 4, 136, 98, 199, 152, 77, 56, 206, 24, 145, 40, 209, 117, 233, 42, 135, 68, 70, 144, 146, 77, 43, 94], [1, 240, 61, 29, 145, 144, 117, 150, 48, 58, 139, 94, 134, 193, 105, 33, 169, 202, 102, 123, 113, 195, 25, 213, 6, 152, 164, 217], [1, 252, 9, 28, 13, 18, 251, 208, 150, 103, 174, 100, 41, 167, 12, 247, 56, 117, 119, 233, 127, 181, 100, 121, 147, 176, 74, 58, 197], [1, 228, 193, 196, 48, 170, 86, 80, 217, 54, 143, 79, 32, 88, 255, 87, 24, 15, 251, 85, 82, 201, 58, 112, 191, 153, 108, 132, 143, 170], [1, 212, 246, 77, 73, 195, 192, 75, 98, 5, 70, 103, 177, 22, 217, 138, 51, 181, 246, 72, 25, 18, 46, 228, 74, 216, 195, 11, 106, 130, 150]]
def gen (d : Nat) : List Nat := gens.getD d []
theorem gen_step : ∀ d, d < 30 → gen (d + 1) = strip (mulS (gen d) [1, nth expL d] (2 * (d + 1))) := by decide +kernel
theorem gen_len : ∀ d, d < 31 → (gen d).length = d + 1 := by decide +kernel
theorem gen_head : ∀ d, d < 31 → nth (gen d) 0 = 1 := by decide +kernel
theorem gen_small : ∀ d, d < 31 → Small (gen d) := by unfold Small; decide +kernel
theorem gen_neat (d : Nat) (h : d < 31) : Neat (gen d) := ⟨by rw [gen_len d h]; omega, fun _ => by rw [gen_head d h]; decide⟩
theorem gen_root : ∀ d, d < 31 → ∀ i, i < d → ev (nth expL i) (gen d) = 0 := by decide +kernel

/-- A remainder stands for its dividend at each root of the generator. -/
def Stands (g p r : List Nat) : Prop := ∀ a, a < 256 → ev a g = 0 → ev a r = ev a p
theorem Stands.refl (g p : List Nat) : Stands g p p := fun _ _ _ => rfl

/-- A code word has no error. -/
theorem rs_zero (data rem : List Nat) (n : Nat) (hn : n < 31) (hd : Small data) (hr : Small rem) (hl : rem.length ≤ n) (h : Stands (gen n) (data ++ List.replicate n 0) rem) (i : Nat) (hi : i < n) :
    ev (nth expL i) (data ++ (List.replicate (n - rem.length) 0 ++ rem)) = 0 := by
  have ha : nth expL i < 256 := by rw [exp_at i (by omega)]; exact exp_lt i
  have e := h (nth expL i) ha (gen_root n hn i hi)
  rw [ev_tail _ ha _ _ hd ((small_zeros _).app hr), ev_zeros_app, e]
  have hlen : (List.replicate (n - rem.length) 0 ++ rem).length = n := by
    rw [List.length_append, List.length_replicate]; omega
  rw [hlen]
  exact xorN_self _

/-- The first coefficient is 0: nothing is lost. -/
def shift (g : List Nat) (c d : Nat) : List Nat := (g.map fun x => gmul x c) ++ List.replicate d 0
theorem shift_len (g : List Nat) (c d : Nat) : (shift g c d).length = g.length + d := by simp [shift]
theorem shift_small (g : List Nat) (c d : Nat) : Small (shift g c d) := by
  refine Small.app (fun x hx => ?_) (small_zeros d)
  obtain ⟨y, _, rfl⟩ := List.mem_map.1 hx
  exact gmul_lt _ _
theorem shift_head (g : List Nat) (c d : Nat) (hg : 0 < g.length) : nth (shift g c d) 0 = gmul (nth g 0) c := by
  cases g with
  | nil => simp at hg
  | cons x g => rfl
theorem ev_shift (a c d : Nat) (ha : a < 256) (hc : c < 256) (g : List Nat) (hg : Small g) (h : ev a g = 0) : ev a (shift g c d) = 0 := by
  refine ev_root_zeros a d _ ?_
  rw [ev_scale a c ha hc g hg, h, gmul_zero_left]
/-- One step of a division. -/
theorem Stands.step {g p r : List Nat} (h : Stands g p r) (hg : Small g) (hr : Small r) (c d : Nat) (hc : c < 256) (hl : r.length = g.length + d) : Stands g p (strip (addL r (shift g c d))) := by
  intro a ha h0
  rw [ev_strip, ev_add a ha _ _ (by rw [shift_len, hl]) hr (shift_small _ _ _), ev_shift a c d ha hc g hg h0, xorN_zero]
  exact h a ha h0
theorem step_len {g r : List Nat} (c d : Nat) (hl : r.length = g.length + d) (hg : 1 < g.length) (h0 : nth r 0 = gmul (nth g 0) c) : (strip (addL r (shift g c d))).length < r.length := by
  have hs := shift_head g c d (by omega)
  have hsl := shift_len g c d
  generalize shift g c d = s at *
  match r, s with
  | x :: y :: r, x2 :: y2 :: s =>
    have e : x = x2 := by
      have h1 : nth (x :: y :: r) 0 = x := rfl
      have h2 : nth (x2 :: y2 :: s) 0 = x2 := rfl
      rw [h1] at h0; rw [h2] at hs; rw [h0, hs]
    have : addL (x :: y :: r) (x2 :: y2 :: s) = 0 :: xorN y y2 :: addL r s := by
      show xorN x x2 :: xorN y y2 :: addL r s = _
      rw [e, xorN_self]
    rw [this]
    show (strip (0 :: xorN y y2 :: addL r s)).length < _
    unfold strip
    rw [if_pos rfl]
    have h1 := strip_len (xorN y y2 :: addL r s)
    have h2 : (addL r s).length ≤ r.length := by unfold addL; rw [List.length_zipWith]; omega
    simp only [List.length_cons] at h1 hl hsl ⊢
    omega
  | [], _ => simp at hl; omega
  | [x], _ => simp at hl; omega
  | _ :: _ :: _, [] => simp at hsl; omega
  | _ :: _ :: _, [x] => simp at hsl; omega
end QZ
end Go
/- GF(256) and polynomials in memory. -/
open Go Go.RowKit
namespace Go.Proofs.YtnpkihobbcglcaaGreatDoor
open Go.QZ

theorem strip_at : ∀ (cs : List Nat) (k : Nat), k < cs.length → (∀ j, j < k → nth cs j = 0) → nth cs k ≠ 0 → strip cs = cs.drop k
  | [], k, h, _, _ => by simp at h
  | [x], k, h, _, _ => by
    obtain rfl : k = 0 := by simp at h; omega
    rfl
  | x :: y :: p, k, h, hz, hk => by
    cases k with
    | zero =>
      unfold strip
      rw [if_neg (show ¬ x = 0 from hk)]; rfl
    | succ k =>
      unfold strip
      rw [if_pos (show x = 0 from hz 0 (by omega)), strip_at (y :: p) k (by simp only [List.length_cons] at *; omega) (fun j hj => hz (j + 1) (by omega)) hk]
      rfl
theorem strip_all : ∀ cs : List Nat, 0 < cs.length → (∀ j, j < cs.length → nth cs j = 0) → strip cs = [0]
  | [], h, _ => by simp at h
  | [x], _, hz => by
    have : x = 0 := hz 0 (by simp)
    rw [this]; rfl
  | x :: y :: p, _, hz => by
    unfold strip
    rw [if_pos (show x = 0 from hz 0 (by simp)), strip_all (y :: p) (by simp) (fun j hj => hz (j + 1) (by simp only [List.length_cons] at *; omega))]
theorem nth_drop (cs : List Nat) (k j : Nat) : nth (cs.drop k) j = nth cs (k + j) := by
  simp [nth, List.getD_eq_getElem?_getD]

/-- Numbers that can be read from a place on. -/
def RdN (w : World) (B off : Nat) (cs : List Nat) : Prop := ∀ j, j < cs.length → w.cell? ⟨B, off + j, none⟩ = some (.int .i64 (nth cs j : Nat))
theorem RdN.mod {S : Nat → Prop} {w w' : World} {B off : Nat} {cs : List Nat} (h : RdN w B off cs) (hm : QZ.Mod S w w') (hB : ¬ S B) : RdN w' B off cs := fun j hj => cell_mod hm hB (h j hj)
theorem RdN.of_blk {w : World} {B : Nat} {cs : List Nat} (h : Blk w B (cellsN .i64 cs)) : RdN w B 0 cs := fun j hj => by rw [Nat.zero_add, h.cell, cellsN_get _ _ _ hj]

/-- A polynomial at block p; its blocks are none of X. -/
structure PolyAt (X : Nat → Prop) (w : World) (F p B off cap : Nat) (cs : List Nat) : Prop where
  head : Blk w p [.pointer (some ⟨F, 0, none⟩), .slice (some ⟨B, off, none⟩) cs.length cap]
  cells : RdN w B off cs
  neat : Neat cs
  small : Small cs
  few : cs.length ≤ 100000
  xp : ¬ X p
  xB : ¬ X B
  capl : cs.length ≤ cap
def Poly (X : Nat → Prop) (w : World) (F p : Nat) (cs : List Nat) : Prop := ∃ B off cap, PolyAt X w F p B off cap cs
theorem Poly.mod {X S : Nat → Prop} {w w' : World} {F p : Nat} {cs : List Nat} (h : Poly X w F p cs) (hm : QZ.Mod S w w') (hS : ∀ k, S k → X k) : Poly X w' F p cs := by
  obtain ⟨B, off, cap, h⟩ := h
  exact ⟨B, off, cap, hm.blk (fun s => h.xp (hS _ s)) h.head, h.cells.mod hm (fun s => h.xB (hS _ s)), h.neat, h.small, h.few, h.xp, h.xB, h.capl⟩
theorem Poly.new {X : Nat → Prop} {w w' : World} {F p : Nat} {cs : List Nat} (h : Poly X w F p cs) (hm : QZ.Mod (fun _ => False) w w') : Poly X w' F p cs := h.mod hm (fun _ f => f.elim)
theorem Poly.weak {X Y : Nat → Prop} {w : World} {F p : Nat} {cs : List Nat} (h : Poly X w F p cs) (hS : ∀ k, Y k → X k) : Poly Y w F p cs := by
  obtain ⟨B, off, cap, h⟩ := h
  exact ⟨B, off, cap, h.head, h.cells, h.neat, h.small, h.few, fun s => h.xp (hS _ s), fun s => h.xB (hS _ s), h.capl⟩

/-- The field at block F. -/
structure GF (w : World) (F E L Z O : Nat) : Prop where
  head : Blk w F [.slice (some ⟨E, 0, none⟩) 256 256, .slice (some ⟨L, 0, none⟩) 256 256, .pointer (some ⟨Z, 0, none⟩), .pointer (some ⟨O, 0, none⟩), .int .i64 256, .int .i64 285, .int .i64 0]
  exp : RdN w E 0 expL
  log : RdN w L 0 logL
  old : F < w.heap.size
def Fld (X : Nat → Prop) (w : World) (F : Nat) : Prop := ∃ E L Z O, GF w F E L Z O ∧ ¬ X F ∧ ¬ X E ∧ ¬ X L ∧ Poly X w F Z [0]
theorem Fld.mod {X S : Nat → Prop} {w w' : World} {F : Nat} (h : Fld X w F) (hm : QZ.Mod S w w') (hS : ∀ k, S k → X k) : Fld X w' F := by
  obtain ⟨E, L, Z, O, h, hF, hE, hL, hZ⟩ := h
  exact ⟨E, L, Z, O, ⟨hm.blk (fun s => hF (hS _ s)) h.head, h.exp.mod hm (fun s => hE (hS _ s)), h.log.mod hm (fun s => hL (hS _ s)), Nat.lt_of_lt_of_le h.old hm.size⟩, hF, hE, hL, hZ.mod hm hS⟩
theorem Fld.new {X : Nat → Prop} {w w' : World} {F : Nat} (h : Fld X w F) (hm : QZ.Mod (fun _ => False) w w') : Fld X w' F := h.mod hm (fun _ f => f.elim)
theorem Fld.weak {X Y : Nat → Prop} {w : World} {F : Nat} (h : Fld X w F) (hS : ∀ k, Y k → X k) : Fld Y w F := by
  obtain ⟨E, L, Z, O, h, hF, hE, hL, hZ⟩ := h
  exact ⟨E, L, Z, O, h, fun s => hF (hS _ s), fun s => hE (hS _ s), fun s => hL (hS _ s), hZ.weak hS⟩

theorem exp_read {w : World} {F E L Z O : Nat} (h : GF w F E L Z O) (j : Nat) (hj : j < 256) : w.cell? ⟨E, j, none⟩ = some (.int .i64 (nth expL j : Nat)) := by
  have := h.exp j (by rw [expL_len]; exact hj); rwa [Nat.zero_add] at this
theorem log_read {w : World} {F E L Z O : Nat} (h : GF w F E L Z O) (j : Nat) (hj : j < 256) : w.cell? ⟨L, j, none⟩ = some (.int .i64 (nth logL j : Nat)) := by
  have := h.log j (by rw [logL_len]; exact hj); rwa [Nat.zero_add] at this
theorem log_lt (j : Nat) : nth logL j < 255 := nth_lt (by decide) (by decide +kernel) j

theorem gfExp_c (w : World) (F E L Z O : Nat) (h : GF w F E L Z O) (i : Nat) (hi : i < 256) : Calls Tryz.prog 200 #[.pointer (some ⟨F, 0, none⟩), .int .i64 i] w fun e w' => e = .returned (.int .i64 (nth expL i : Nat)) ∧ w = w' := by
  have c0 := h.head.cell 0
  have ce := exp_read h i hi
  clear h
  go_enter Tryz.func200, Tryz.ntmps200
  go_wp2
  go_ret
  exact ⟨rfl, rfl⟩

theorem gfMul_c (w : World) (F E L Z O : Nat) (h : GF w F E L Z O) (a b : Nat) (ha : a < 256) (hb : b < 256) : Calls Tryz.prog 204 #[.pointer (some ⟨F, 0, none⟩), .int .i64 a, .int .i64 b] w fun e w' => e = .returned (.int .i64 (gmul a b : Nat)) ∧ ∃ n, w.drewN n = w' := by
  have c0 := h.head.cell 0
  have c1 := h.head.cell 1
  have c4 := h.head.cell 4
  have la := log_read h a ha
  have lb := log_read h b hb
  have hla := log_lt a
  have hlb := log_lt b
  have ex := exp_read h ((nth logL a + nth logL b) % 255) (by omega)
  by_cases h0 : a = 0
  · subst h0
    have Hz := Lib.hid (gmul_zero_left b)
    go_enter Tryz.func204, Tryz.ntmps204
    go_wp2
    go_ret
    exact ⟨by rw [Hz.out]; rfl, 0, rfl⟩
  · by_cases h1 : b = 0
    · subst h1
      have Hz := Lib.hid (gmul_zero_right a)
      have ha0 : ((a : Int) == 0) = false := by rw [beq_eq_false_iff_ne]; omega
      go_enter Tryz.func204, Tryz.ntmps204
      go_wp2
      go_ret
      exact ⟨by rw [Hz.out]; rfl, 0, rfl⟩
    · have Hg : Hid (gmul a b = nth expL ((nth logL a + nth logL b) % 255)) := by
        show gmul a b = _
        unfold gmul; rw [if_neg (by omega)]
      have ha0 : ((a : Int) == 0) = false := by rw [beq_eq_false_iff_ne]; omega
      have hb0 : ((b : Int) == 0) = false := by rw [beq_eq_false_iff_ne]; omega
      generalize nth logL a = x at *
      generalize nth logL b = y at *
      have hm : IntKind.i64.wrap ((x : Int) + (y : Int)) = (x : Int) + (y : Int) := IntWalk.i64_in _ (by omega)
      have hr : (x : Int) + (y : Int) = ((x + y : Nat) : Int) := by omega
      obtain ⟨q, hq⟩ : ∃ q, (x + y) % 255 = q := ⟨_, rfl⟩
      rw [hq] at ex Hg
      have hq5 : q < 255 := by omega
      have ht : ((x : Int) + (y : Int)).tmod 255 = (q : Int) := by rw [Int.tmod_eq_emod_of_nonneg (by omega)]; omega
      have ht2 : ((x : Int) + (y : Int)) % 255 = (q : Int) := by omega
      have Hq := Lib.hid hq; clear hq hr h
      go_enter Tryz.func204, Tryz.ntmps204
      go_wp2
      go_quiet (fail)
      go_wp2
      go_ret
      exact ⟨by rw [Hg.out]; rfl, _, rfl⟩
end Go.Proofs.YtnpkihobbcglcaaGreatDoor
