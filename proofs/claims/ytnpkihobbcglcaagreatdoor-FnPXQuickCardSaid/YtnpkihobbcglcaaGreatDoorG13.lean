/- Part 13 of the proof of FnPXQuick (a QR code that is written for a text says this text in a picture): parts of the road. No condition. -/
import Derived.Deep.RegionHeld3
import Derived.Test.YtnpkihobbcglcaaGreatDoorG11
import Derived.Test.YtnpkihobbcglcaaGreatDoorG12
/- The error correction blocks of a level; a new version. -/
open Go Go.RowKit
namespace Go.Proofs.YtnpkihobbcglcaaGreatDoor
open Go.QZ

/-- One level's blocks: at place o of block C, its pairs at block B. -/
def EC (w : World) (C o B : Nat) (e : Nat × List (Nat × Nat)) : Prop :=
  w.cell? ⟨C, o, none⟩ = some (.int .i64 (e.1 : Nat)) ∧ w.cell? ⟨C, o + 1, none⟩ = some (.slice (some ⟨B, 0, none⟩) e.2.length e.2.length) ∧ Prs w B e.2
theorem EC.mod {S : Nat → Prop} {w w' : World} {C o B : Nat} {e : Nat × List (Nat × Nat)} (h : EC w C o B e) (hm : QZ.Mod S w w') (hC : ¬ S C) (hB : ¬ S B) : EC w' C o B e :=
  ⟨cell_mod hm hC h.1, cell_mod hm hC h.2.1, h.2.2.mod hm hB⟩
def Tame (e : Nat × List (Nat × Nat)) : Prop := e.1 ≤ 100 ∧ e.2.length ≤ 4 ∧ ∀ x ∈ e.2, x.1 ≤ 100 ∧ x.2 ≤ 1000

set_option maxHeartbeats 800000 in
theorem getTotalEC_c (w : World) (C o B : Nat) (e : Nat × List (Nat × Nat)) (h : EC w C o B e) (ht : Tame e) :
    Calls Tryz.prog 49 #[.pointer (some ⟨C, o, none⟩)] w fun r w' => r = .returned (.int .i64 (e.1 * cntTo e.2 e.2.length : Nat)) ∧ QZ.Mod (fun _ => False) w w' := by
  obtain ⟨per, bl⟩ := e
  obtain ⟨c0, c1, hp⟩ := h
  obtain ⟨t0, t1, t2⟩ := ht
  simp only at c0 c1 hp t0 t1 t2
  have Hc := fun w0 (hm : QZ.Mod (fun _ => False) w w0) => getNumBlocks_c w0 C o B bl (cell_mod hm (fun f => f) c1) (hp.mod hm (fun f => f)) (fun x hx => (t2 x hx).1) t1
  have hn : cntTo bl bl.length ≤ 400 := by
    have : ∀ k, k ≤ bl.length → cntTo bl k ≤ 100 * k := by
      intro k hk
      cases k with
      | zero => simp [cntTo]
      | succ k => exact (cntTo_le bl (fun x hx => (t2 x hx).1) k (by omega)).2
    have := this _ (Nat.le_refl _)
    omega
  have Hcl := Lib.hid Hc
  have hld : ∀ w', QZ.Mod (fun _ => False) w w' → w'.cell? ⟨C, o, none⟩ = some (.int .i64 (per : Nat)) := fun w' hm => cell_mod hm (fun f => f) c0
  clear c1 hp t2 Hc
  have Hld := Lib.hid hld
  have hpn : per * cntTo bl bl.length ≤ 40000 := Nat.le_trans (Nat.mul_le_mul t0 hn) (by omega)
  clear hld
  generalize cntTo bl bl.length = n at *
  go_enter Tryz.func49, Tryz.ntmps49
  go_wp2
  go_region_held3 (fun w' => w'.cell? ⟨C, o, none⟩ = some (.int .i64 (per : Nat))) (first | exact c0 | exact hc5) (first | (go_at_call 52; refine (Hcl.out _ ?_).mono ?_; exact (QZ.Mod.refl _ _).drew; rintro e w5 ⟨rfl, hm5⟩; have hc5 := Hld.out _ ((QZ.Mod.refl (fun _ => False) w).drew.trans hm5)))
  have hq : (per : Int) * (n : Int) = ((per * n : Nat) : Int) := by push_cast; rfl
  rw [hq]
  have hw : IntKind.i64.wrap ((per * n : Nat) : Int) = ((per * n : Nat) : Int) := by generalize per * n = q at *; exact IntWalk.i64_in _ (by omega)
  try rw [hw]
  obtain ⟨q, hq2⟩ : ∃ q, per * n = q := ⟨_, rfl⟩
  rw [hq2]
  have Hq2 := Lib.hid hq2
  clear hq2
  go_wp2
  go_ret
  exact ⟨by rw [Hq2.out]; rfl, (QZ.Mod.refl _ _).drew.trans hm5⟩

/-- The bytes of a level's blocks in all. -/
def totTo (per : Nat) (bl : List (Nat × Nat)) (k : Nat) : Nat := ((bl.take k).map (fun x => x.1 * (x.2 + per))).sum
theorem totTo_le (per : Nat) (bl : List (Nat × Nat)) (hb : ∀ x ∈ bl, x.1 * (x.2 + per) ≤ 200000) : ∀ k, k < bl.length → totTo per bl (k + 1) = totTo per bl k + (bl.getD k (0, 0)).1 * ((bl.getD k (0, 0)).2 + per) ∧ totTo per bl (k + 1) ≤ 200000 * (k + 1) := by
  have h1 : ∀ k, k < bl.length → totTo per bl (k + 1) = totTo per bl k + (bl.getD k (0, 0)).1 * ((bl.getD k (0, 0)).2 + per) := by
    intro k hk
    unfold totTo
    rw [List.take_add_one, List.getElem?_eq_getElem hk]
    rw [List.getD_eq_getElem?_getD, List.getElem?_eq_getElem hk]
    simp only [List.map_append, List.sum_append, Option.toList_some, List.map_cons, List.map_nil, List.sum_cons, List.sum_nil, Nat.add_zero, Option.getD_some]
  have h2 : ∀ k, k ≤ bl.length → totTo per bl k ≤ 200000 * k := by
    intro k
    induction k with
    | zero => intro _; simp [totTo]
    | succ k ih =>
      intro hk
      rw [h1 k (by omega)]
      have := ih (by omega)
      have h2 : (bl.getD k (0, 0)).1 * ((bl.getD k (0, 0)).2 + per) ≤ 200000 := by
        rw [List.getD_eq_getElem?_getD, List.getElem?_eq_getElem (by omega)]
        exact hb _ (List.getElem_mem _)
      omega
  exact fun k hk => ⟨h1 k hk, h2 (k + 1) hk⟩

/-- A new version was made: at a new block. -/
def NewVer (w : World) (v : Nat) (A C : Value) (tot : Nat) (e : Ending) (w' : World) : Prop :=
  ∃ p, e = .returned (.pointer (some ⟨p, 0, none⟩)) ∧ w.heap.size ≤ p ∧ Blk w' p [.int .i64 v, A, C, .int .i64 tot] ∧ QZ.Mod (fun _ => False) w w'

set_option maxHeartbeats 1600000 in
theorem newVersion_c (w : World) (v : Nat) (A : Option Addr) (an : Nat) (C B : Nat) (e : Nat × List (Nat × Nat)) (h : EC w C 0 B e) (ht : Tame e) :
    Calls Tryz.prog 126 #[.int .i64 v, .slice A an an, .slice (some ⟨C, 0, none⟩) 4 4] w (NewVer w v (.slice A an an) (.slice (some ⟨C, 0, none⟩) 4 4) (totTo e.1 e.2 e.2.length)) := by
  obtain ⟨per, bl⟩ := e
  obtain ⟨c0, c1, hp⟩ := h
  obtain ⟨t0, t1, t2⟩ := ht
  simp only at c0 c1 hp t0 t1 t2
  have Hb := Lib.hid (totTo_le per bl (fun x hx => by
    have := t2 x hx
    calc x.1 * (x.2 + per) ≤ 100 * 2000 := Nat.mul_le_mul this.1 (by omega)
      _ = 200000 := rfl))
  have Ht2 : Hid (∀ k, k < bl.length → (bl.getD k (0, 0)).1 ≤ 100 ∧ (bl.getD k (0, 0)).2 ≤ 1000) := by
    intro k hk
    have h2 : bl.getD k (0, 0) = bl[k] := by rw [List.getD_eq_getElem?_getD, List.getElem?_eq_getElem hk]; rfl
    rw [h2]; exact t2 _ (List.getElem_mem hk)
  have Hp := Lib.hid hp
  clear t2 hp
  go_enter Tryz.func126, Tryz.ntmps126
  go_wp2_with fail
  refine ((ECBlocks_GetECCodewordsPerBlock_c w C 0 _ c0)).mono ?_
  rintro e w1 ⟨rfl, rfl⟩
  go_wp2_with fail
  refine ((ECBlocks_GetECBlocks_c w C 0 _ c1)).mono ?_
  rintro e w1 ⟨rfl, rfl⟩
  go_wp2
  clear c0 c1
  go_loopw [7, 11, 20] (fun a _ b wr => ∃ (k : Nat), k ≤ bl.length ∧ b = .int .i64 k ∧ a = .int .i64 (totTo per bl k : Nat) ∧ totTo per bl k ≤ 200000 * k ∧ QZ.Mod (fun _ => False) w wr) (fun _ _ b _ => bl.length - (intOf b).toNat)
  case atStart => exact ⟨0, by omega, rfl, by simp [totTo], by simp [totTo], QZ.Mod.refl _ _⟩
  case round =>
    obtain ⟨k, hk, rfl, rfl, hc4, hm⟩ := hrel
    have Hm := Lib.hid hm
    clear hm
    by_cases hlt : k < bl.length
    · have c0 := ((Hp.out.mod Hm.out (fun f => f)) k hlt).1
      have c1 := ((Hp.out.mod Hm.out (fun f => f)) k hlt).2
      obtain ⟨n1, n2⟩ := Hb.out k hlt
      obtain ⟨x1, x2⟩ := Ht2.out k hlt
      obtain ⟨m, hm1⟩ : ∃ m, totTo per bl (k + 1) = m := ⟨_, rfl⟩
      rw [hm1] at n1 n2
      have Hq1 := Lib.hid hm1; clear hm1
      generalize totTo per bl k = n at *
      generalize bl.getD k (0, 0) = x at *
      obtain ⟨a, b⟩ := x
      simp only at c0 c1 n1 x1 x2
      obtain ⟨q, hq⟩ : ∃ q, a * (b + per) = q := ⟨_, rfl⟩
      rw [hq] at n1
      have hw : IntKind.i64.wrap ((a : Int) * ((b : Int) + (per : Int))) = (q : Int) := by
        exact (IntWalk.i64_in _ (by rw [show (a : Int) * ((b : Int) + (per : Int)) = ((a * (b + per) : Nat) : Int) by push_cast; rfl, hq]; omega)).trans (by rw [← hq]; push_cast; rfl)
      go_wp2
      have hk0 : Blk (wr.alloc (.cells #[.int .i64 a, .int .i64 b] 178)) wr.heap.size [.int .i64 a, .int .i64 b] := Blk.new wr _ 178
      have d0 := hk0.cell 0
      have d1 := hk0.cell 1
      have hm1 := Hm.out.alloc (.cells #[.int .i64 a, .int .i64 b] 178)
      clear hk0 c0 c1
      have Hm1 := Lib.hid hm1
      clear hm1
      generalize wr.alloc (.cells #[.int .i64 a, .int .i64 b] 178) = w0 at *
      generalize wr.heap.size = N at *
      go_region_held3 (fun w' => w'.cell? ⟨N, 0, none⟩ = some (.int .i64 a) ∧ w'.cell? ⟨N, 1, none⟩ = some (.int .i64 b)) (first | exact ⟨d0, d1⟩ | exact hs5 | exact hs6) (first | (go_at_call 103; refine (getCount_c _ _ _).mono ?_; rintro e w5 ⟨rfl, hm5⟩; have hs5 := And.intro (cell_mod hm5 (fun f => f) d0) (cell_mod hm5 (fun f => f) d1)) | (go_at_call 164; refine (getDataCodewords_c _ _ _).mono ?_; rintro e w6 ⟨rfl, hm6⟩; have hs6 := And.intro (cell_mod hm6 (fun f => f) hs5.1) (cell_mod hm6 (fun f => f) hs5.2)))
      have hms : QZ.Mod (fun _ => False) w w6 := by first | exact (Hm1.out.trans hm5).trans hm6 | exact (Hm1.out.drew.trans hm5).trans hm6 | exact (Hm1.out.drew.trans hm5).drew.trans hm6 | exact (Hm1.out.drew.drew.trans hm5).trans hm6
      have hw2 : IntKind.i64.wrap ((n : Int) + IntKind.i64.wrap ((a : Int) * IntKind.i64.wrap ((b : Int) + (per : Int)))) = ((n + q : Nat) : Int) := by
        rw [show IntKind.i64.wrap ((b : Int) + (per : Int)) = (b : Int) + (per : Int) from IntWalk.i64_in _ (by omega), hw]
        exact (IntWalk.i64_in _ (by omega)).trans (by omega)
      rw [hw2]
      clear hw hw2
      have Hms := Lib.hid hms
      clear hms
      clear hm5 hm6 hs5 hs6 d0 d1
      go_wp2
      go_roundw
      case rel => exact ⟨k + 1, by omega, by go_num, by rw [Hq1.out, n1], by rw [Hq1.out]; omega, Hms.out⟩
      case measure => simp [intOf] <;> omega
    · obtain rfl : k = bl.length := by omega
      have Hnew := Lib.hid (fun t => Blk.new wr [.int .i64 v, .slice A an an, .slice (some ⟨C, 0, none⟩) 4 4, .int .i64 (totTo per bl bl.length : Nat)] t)
      have hsz := Hm.out.size
      go_wp2
      go_ret
      exact ⟨_, rfl, hsz, Hnew.out _, Hm.out.alloc _⟩
end Go.Proofs.YtnpkihobbcglcaaGreatDoor
/- The tables of the versions 1 to 7. (Written by gen_ver.py.) -/
namespace Go.QZ
/-- Of each version: the centres of its alignment patterns, and for each level (in the order L, M, Q, H) its error correction bytes a block and its pairs (count, data bytes). -/
def verD : List (List Nat × List (Nat × List (Nat × Nat))) := [
  ([], [(7, [(1, 19)]), (10, [(1, 16)]), (13, [(1, 13)]), (17, [(1, 9)])]),
  ([6, 18], [(10, [(1, 34)]), (16, [(1, 28)]), (22, [(1, 22)]), (28, [(1, 16)])]),
  ([6, 22], [(15, [(1, 55)]), (26, [(1, 44)]), (18, [(2, 17)]), (22, [(2, 13)])]),
  ([6, 26], [(20, [(1, 80)]), (18, [(2, 32)]), (26, [(2, 24)]), (16, [(4, 9)])]),
  ([6, 30], [(26, [(1, 108)]), (24, [(2, 43)]), (18, [(2, 15), (2, 16)]), (22, [(2, 11), (2, 12)])]),
  ([6, 34], [(18, [(2, 68)]), (16, [(4, 27)]), (24, [(4, 19)]), (28, [(4, 15)])]),
  ([6, 22, 38], [(20, [(2, 78)]), (18, [(4, 31)]), (18, [(2, 14), (4, 15)]), (26, [(4, 13), (1, 14)])])]
def alD (v : Nat) : List Nat := (verD.getD (v - 1) ([], [])).1
def ecD (v l : Nat) : Nat × List (Nat × Nat) := (verD.getD (v - 1) ([], [])).2.getD l (0, [])
end Go.QZ
/- The versions 1 to 7. (The theorems of the single versions are written by gen_ver.py.) -/
open Go Go.RowKit
namespace Go.Proofs.YtnpkihobbcglcaaGreatDoor
open Go.QZ

def flat (bl : List (Nat × Nat)) : List Value := bl.flatMap fun x => [.int .i64 (x.1 : Nat), .int .i64 (x.2 : Nat)]
theorem flat_get : ∀ (bl : List (Nat × Nat)) (j : Nat), j < bl.length → (flat bl)[j * 2]? = some (.int .i64 ((bl.getD j (0, 0)).1 : Nat)) ∧ (flat bl)[j * 2 + 1]? = some (.int .i64 ((bl.getD j (0, 0)).2 : Nat))
  | [], _, h => by simp at h
  | x :: r, 0, _ => ⟨rfl, rfl⟩
  | x :: r, j + 1, h => by
    have := flat_get r j (by simpa using h)
    have e : flat (x :: r) = .int .i64 (x.1 : Nat) :: .int .i64 (x.2 : Nat) :: flat r := rfl
    rw [e, show (j + 1) * 2 = j * 2 + 1 + 1 by omega]
    simpa using this
theorem prs_of (w : World) (B : Nat) (bl : List (Nat × Nat)) (h : Blk w B (flat bl)) : Prs w B bl := fun j hj => ⟨h.at _ (flat_get bl j hj).1, h.at _ (flat_get bl j hj).2⟩

def verRow (B : Nat) (e0 e1 e2 e3 : Nat × List (Nat × Nat)) : List Value :=
  [.int .i64 (e0.1 : Nat), .slice (some ⟨B + 1, 0, none⟩) e0.2.length e0.2.length, .int .i64 (e1.1 : Nat), .slice (some ⟨B + 1 + 1, 0, none⟩) e1.2.length e1.2.length,
   .int .i64 (e2.1 : Nat), .slice (some ⟨B + 1 + 1 + 1, 0, none⟩) e2.2.length e2.2.length, .int .i64 (e3.1 : Nat), .slice (some ⟨B + 1 + 1 + 1 + 1, 0, none⟩) e3.2.length e3.2.length]
def verWorld (w : World) (al : List Nat) (e0 e1 e2 e3 : Nat × List (Nat × Nat)) : World :=
  (((((w.alloc (.cells (cellsN .i64 al).toArray 3 (0, 0))).alloc (.cells (flat e0.2).toArray 178 (0, 0))).alloc (.cells (flat e1.2).toArray 178 (0, 0))).alloc (.cells (flat e2.2).toArray 178 (0, 0))).alloc (.cells (flat e3.2).toArray 178 (0, 0))).alloc (.cells (verRow w.heap.size e0 e1 e2 e3).toArray 168 (0, 0))
theorem size1 (w : World) (o : Obj) : (w.alloc o).heap.size = w.heap.size + 1 := World.size_alloc w o
theorem blk_new (w : World) (cs : List Value) (t : TypeId) (N : Nat) (h : w.heap.size = N) : Blk (w.alloc (.cells cs.toArray t (0, 0))) N cs := h ▸ Blk.new w cs t
theorem verMade (w : World) (al : List Nat) (e0 e1 e2 e3 : Nat × List (Nat × Nat)) :
    EC (verWorld w al e0 e1 e2 e3) (w.heap.size + 1 + 1 + 1 + 1 + 1) 0 (w.heap.size + 1) e0 ∧ EC (verWorld w al e0 e1 e2 e3) (w.heap.size + 1 + 1 + 1 + 1 + 1) 2 (w.heap.size + 1 + 1) e1 ∧
    EC (verWorld w al e0 e1 e2 e3) (w.heap.size + 1 + 1 + 1 + 1 + 1) 4 (w.heap.size + 1 + 1 + 1) e2 ∧ EC (verWorld w al e0 e1 e2 e3) (w.heap.size + 1 + 1 + 1 + 1 + 1) 6 (w.heap.size + 1 + 1 + 1 + 1) e3 ∧
    RdN (verWorld w al e0 e1 e2 e3) w.heap.size 0 al ∧ QZ.Mod (fun _ => False) w (verWorld w al e0 e1 e2 e3) := by
  unfold verWorld
  have s1 := size1 w (.cells (cellsN .i64 al).toArray 3 (0, 0))
  have bA := Blk.new w (cellsN .i64 al) 3
  generalize hw1 : w.alloc (.cells (cellsN .i64 al).toArray 3 (0, 0)) = w1 at *
  have s2 := size1 w1 (.cells (flat e0.2).toArray 178 (0, 0))
  have b0 := blk_new w1 (flat e0.2) 178 _ s1
  generalize hw2 : w1.alloc (.cells (flat e0.2).toArray 178 (0, 0)) = w2 at *
  rw [s1] at s2
  have s3 := size1 w2 (.cells (flat e1.2).toArray 178 (0, 0))
  have b1 := blk_new w2 (flat e1.2) 178 _ s2
  generalize hw3 : w2.alloc (.cells (flat e1.2).toArray 178 (0, 0)) = w3 at *
  rw [s2] at s3
  have s4 := size1 w3 (.cells (flat e2.2).toArray 178 (0, 0))
  have b2 := blk_new w3 (flat e2.2) 178 _ s3
  generalize hw4 : w3.alloc (.cells (flat e2.2).toArray 178 (0, 0)) = w4 at *
  rw [s3] at s4
  have s5 := size1 w4 (.cells (flat e3.2).toArray 178 (0, 0))
  have b3 := blk_new w4 (flat e3.2) 178 _ s4
  generalize hw5 : w4.alloc (.cells (flat e3.2).toArray 178 (0, 0)) = w5 at *
  rw [s4] at s5
  have bC := blk_new w5 (verRow w.heap.size e0 e1 e2 e3) 168 _ s5
  have m5 : QZ.Mod (fun _ => False) w w5 := by
    rw [← hw5, ← hw4, ← hw3, ← hw2, ← hw1]
    exact (((((QZ.Mod.refl _ _).alloc _).alloc _).alloc _).alloc _).alloc _
  have k3 := b3.alloc (.cells (verRow w.heap.size e0 e1 e2 e3).toArray 168 (0, 0))
  have k2 := (show Blk w5 _ _ from hw5 ▸ b2.alloc _).alloc (.cells (verRow w.heap.size e0 e1 e2 e3).toArray 168 (0, 0))
  have k1 := (show Blk w5 _ _ from hw5 ▸ (show Blk w4 _ _ from hw4 ▸ b1.alloc _).alloc _).alloc (.cells (verRow w.heap.size e0 e1 e2 e3).toArray 168 (0, 0))
  have k0 := (show Blk w5 _ _ from hw5 ▸ (show Blk w4 _ _ from hw4 ▸ (show Blk w3 _ _ from hw3 ▸ b0.alloc _).alloc _).alloc _).alloc (.cells (verRow w.heap.size e0 e1 e2 e3).toArray 168 (0, 0))
  have kA := (show Blk w5 _ _ from hw5 ▸ (show Blk w4 _ _ from hw4 ▸ (show Blk w3 _ _ from hw3 ▸ (show Blk w2 _ _ from hw2 ▸ bA.alloc _).alloc _).alloc _).alloc _).alloc (.cells (verRow w.heap.size e0 e1 e2 e3).toArray 168 (0, 0))
  exact ⟨⟨bC.at 0 rfl, bC.at 1 rfl, prs_of _ _ _ k0⟩, ⟨bC.at 2 rfl, bC.at 3 rfl, prs_of _ _ _ k1⟩, ⟨bC.at 4 rfl, bC.at 5 rfl, prs_of _ _ _ k2⟩, ⟨bC.at 6 rfl, bC.at 7 rfl, prs_of _ _ _ k3⟩, RdN.of_blk kA, m5.alloc _⟩

theorem tame_all (v l : Nat) (hv1 : 1 ≤ v) (hv : v < 8) (hl : l < 4) : Tame (ecD v l) := by
  have : ∀ v, v < 8 → 1 ≤ v → ∀ l, l < 4 → (ecD v l).1 ≤ 100 ∧ (ecD v l).2.length ≤ 4 ∧ ∀ x ∈ (ecD v l).2, x.1 ≤ 100 ∧ x.2 ≤ 1000 := by decide
  exact this v hv hv1 l hl

/-- A version at block p; its blocks are none of X. -/
def Ver (X : Nat → Prop) (w : World) (p v : Nat) : Prop := ∃ A C, Blk w p [.int .i64 v, .slice (some ⟨A, 0, none⟩) (alD v).length (alD v).length, .slice (some ⟨C, 0, none⟩) 4 4, .int .i64 (totTo (ecD v 0).1 (ecD v 0).2 (ecD v 0).2.length : Nat)] ∧
  RdN w A 0 (alD v) ∧ (∀ l, l < 4 → ∃ B, EC w C (2 * l) B (ecD v l) ∧ ¬ X B) ∧ ¬ X p ∧ ¬ X A ∧ ¬ X C
theorem Ver.mod {X S : Nat → Prop} {w w' : World} {p v : Nat} (h : Ver X w p v) (hm : QZ.Mod S w w') (hS : ∀ k, S k → X k) : Ver X w' p v := by
  obtain ⟨A, C, hb, ha, he, hp, hA, hC⟩ := h
  refine ⟨A, C, hm.blk (fun s => hp (hS _ s)) hb, ha.mod hm (fun s => hA (hS _ s)), fun l hl => ?_, hp, hA, hC⟩
  obtain ⟨B, h, hB⟩ := he l hl
  exact ⟨B, h.mod hm (fun s => hC (hS _ s)) (fun s => hB (hS _ s)), hB⟩
theorem Ver.new {X : Nat → Prop} {w w' : World} {p v : Nat} (h : Ver X w p v) (hm : QZ.Mod (fun _ => False) w w') : Ver X w' p v := h.mod hm (fun _ f => f.elim)
theorem Ver.weak {X Y : Nat → Prop} {w : World} {p v : Nat} (h : Ver X w p v) (hS : ∀ k, Y k → X k) : Ver Y w p v := by
  obtain ⟨A, C, hb, ha, he, hp, hA, hC⟩ := h
  exact ⟨A, C, hb, ha, fun l hl => (he l hl).imp fun B h => ⟨h.1, fun s => h.2 (hS _ s)⟩, fun s => hp (hS _ s), fun s => hA (hS _ s), fun s => hC (hS _ s)⟩

/-- The version v was handed back, made of new blocks. -/
def GotVer (w : World) (v : Nat) (e : Ending) (w' : World) : Prop := ∃ p, e = .returned (.pointer (some ⟨p, 0, none⟩)) ∧ Ver (fun k => k < w.heap.size) w' p v ∧ QZ.Mod (fun _ => False) w w'
theorem gotVer (v : Nat) (w w2 : World) (p : Nat) (hp : (verWorld w (alD v) (ecD v 0) (ecD v 1) (ecD v 2) (ecD v 3)).heap.size ≤ p)
    (hb : Blk w2 p [.int .i64 v, .slice (some ⟨w.heap.size, 0, none⟩) (alD v).length (alD v).length, .slice (some ⟨w.heap.size + 1 + 1 + 1 + 1 + 1, 0, none⟩) 4 4, .int .i64 (totTo (ecD v 0).1 (ecD v 0).2 (ecD v 0).2.length : Nat)])
    (hm : QZ.Mod (fun _ => False) (verWorld w (alD v) (ecD v 0) (ecD v 1) (ecD v 2) (ecD v 3)) w2) : GotVer w v (.returned (.pointer (some ⟨p, 0, none⟩))) w2 := by
  obtain ⟨h0, h1, h2, h3, hA, hw⟩ := verMade w (alD v) (ecD v 0) (ecD v 1) (ecD v 2) (ecD v 3)
  have hs := hw.size
  refine ⟨p, rfl, ⟨_, _, hb, hA.mod hm (fun f => f), fun l hl => ?_, by omega, by omega, by omega⟩, hw.trans hm⟩
  obtain rfl | rfl | rfl | rfl : l = 0 ∨ l = 1 ∨ l = 2 ∨ l = 3 := by omega
  · exact ⟨_, h0.mod hm (fun f => f) (fun f => f), by omega⟩
  · exact ⟨_, h1.mod hm (fun f => f) (fun f => f), by omega⟩
  · exact ⟨_, h2.mod hm (fun f => f) (fun f => f), by omega⟩
  · exact ⟨_, h3.mod hm (fun f => f) (fun f => f), by omega⟩

set_option maxRecDepth 100000 in
set_option maxHeartbeats 6400000 in
theorem ver1_c (w : World) : Calls Tryz.prog 89 #[.int .i64 1] w (GotVer w 1) := by
  go_enter Tryz.func89, Tryz.ntmps89
  go_wp2_with fail
  refine (newVersion_c (verWorld w (alD 1) (ecD 1 0) (ecD 1 1) (ecD 1 2) (ecD 1 3)) 1 (some ⟨w.heap.size, 0, none⟩) 0 (w.heap.size + 1 + 1 + 1 + 1 + 1) (w.heap.size + 1) (ecD 1 0) (verMade w _ _ _ _ _).1 (tame_all 1 0 (by decide) (by decide) (by decide))).mono ?_
  rintro e w2 ⟨p, rfl, hp, hb, hm⟩
  go_wp2_with fail
  go_ret
  exact gotVer 1 w w2 p hp hb hm

set_option maxRecDepth 100000 in
set_option maxHeartbeats 6400000 in
theorem ver2_c (w : World) : Calls Tryz.prog 89 #[.int .i64 2] w (GotVer w 2) := by
  go_enter Tryz.func89, Tryz.ntmps89
  go_wp2_with fail
  refine (newVersion_c (verWorld w (alD 2) (ecD 2 0) (ecD 2 1) (ecD 2 2) (ecD 2 3)) 2 (some ⟨w.heap.size, 0, none⟩) 2 (w.heap.size + 1 + 1 + 1 + 1 + 1) (w.heap.size + 1) (ecD 2 0) (verMade w _ _ _ _ _).1 (tame_all 2 0 (by decide) (by decide) (by decide))).mono ?_
  rintro e w2 ⟨p, rfl, hp, hb, hm⟩
  go_wp2_with fail
  go_ret
  exact gotVer 2 w w2 p hp hb hm

set_option maxRecDepth 100000 in
set_option maxHeartbeats 6400000 in
theorem ver3_c (w : World) : Calls Tryz.prog 89 #[.int .i64 3] w (GotVer w 3) := by
  go_enter Tryz.func89, Tryz.ntmps89
  go_wp2_with fail
  refine (newVersion_c (verWorld w (alD 3) (ecD 3 0) (ecD 3 1) (ecD 3 2) (ecD 3 3)) 3 (some ⟨w.heap.size, 0, none⟩) 2 (w.heap.size + 1 + 1 + 1 + 1 + 1) (w.heap.size + 1) (ecD 3 0) (verMade w _ _ _ _ _).1 (tame_all 3 0 (by decide) (by decide) (by decide))).mono ?_
  rintro e w2 ⟨p, rfl, hp, hb, hm⟩
  go_wp2_with fail
  go_ret
  exact gotVer 3 w w2 p hp hb hm

set_option maxRecDepth 100000 in
set_option maxHeartbeats 6400000 in
theorem ver4_c (w : World) : Calls Tryz.prog 89 #[.int .i64 4] w (GotVer w 4) := by
  go_enter Tryz.func89, Tryz.ntmps89
  go_wp2_with fail
  refine (newVersion_c (verWorld w (alD 4) (ecD 4 0) (ecD 4 1) (ecD 4 2) (ecD 4 3)) 4 (some ⟨w.heap.size, 0, none⟩) 2 (w.heap.size + 1 + 1 + 1 + 1 + 1) (w.heap.size + 1) (ecD 4 0) (verMade w _ _ _ _ _).1 (tame_all 4 0 (by decide) (by decide) (by decide))).mono ?_
  rintro e w2 ⟨p, rfl, hp, hb, hm⟩
  go_wp2_with fail
  go_ret
  exact gotVer 4 w w2 p hp hb hm

set_option maxRecDepth 100000 in
set_option maxHeartbeats 6400000 in
theorem ver5_c (w : World) : Calls Tryz.prog 89 #[.int .i64 5] w (GotVer w 5) := by
  go_enter Tryz.func89, Tryz.ntmps89
  go_wp2_with fail
  refine (newVersion_c (verWorld w (alD 5) (ecD 5 0) (ecD 5 1) (ecD 5 2) (ecD 5 3)) 5 (some ⟨w.heap.size, 0, none⟩) 2 (w.heap.size + 1 + 1 + 1 + 1 + 1) (w.heap.size + 1) (ecD 5 0) (verMade w _ _ _ _ _).1 (tame_all 5 0 (by decide) (by decide) (by decide))).mono ?_
  rintro e w2 ⟨p, rfl, hp, hb, hm⟩
  go_wp2_with fail
  go_ret
  exact gotVer 5 w w2 p hp hb hm

set_option maxRecDepth 100000 in
set_option maxHeartbeats 6400000 in
theorem ver6_c (w : World) : Calls Tryz.prog 89 #[.int .i64 6] w (GotVer w 6) := by
  go_enter Tryz.func89, Tryz.ntmps89
  go_wp2_with fail
  refine (newVersion_c (verWorld w (alD 6) (ecD 6 0) (ecD 6 1) (ecD 6 2) (ecD 6 3)) 6 (some ⟨w.heap.size, 0, none⟩) 2 (w.heap.size + 1 + 1 + 1 + 1 + 1) (w.heap.size + 1) (ecD 6 0) (verMade w _ _ _ _ _).1 (tame_all 6 0 (by decide) (by decide) (by decide))).mono ?_
  rintro e w2 ⟨p, rfl, hp, hb, hm⟩
  go_wp2_with fail
  go_ret
  exact gotVer 6 w w2 p hp hb hm

set_option maxRecDepth 100000 in
set_option maxHeartbeats 6400000 in
theorem ver7_c (w : World) : Calls Tryz.prog 89 #[.int .i64 7] w (GotVer w 7) := by
  go_enter Tryz.func89, Tryz.ntmps89
  go_wp2_with fail
  refine (newVersion_c (verWorld w (alD 7) (ecD 7 0) (ecD 7 1) (ecD 7 2) (ecD 7 3)) 7 (some ⟨w.heap.size, 0, none⟩) 3 (w.heap.size + 1 + 1 + 1 + 1 + 1) (w.heap.size + 1) (ecD 7 0) (verMade w _ _ _ _ _).1 (tame_all 7 0 (by decide) (by decide) (by decide))).mono ?_
  rintro e w2 ⟨p, rfl, hp, hb, hm⟩
  go_wp2_with fail
  go_ret
  exact gotVer 7 w w2 p hp hb hm

theorem versionOf_c (w : World) (v : Nat) (hv1 : 1 ≤ v) (hv : v < 8) : Calls Tryz.prog 89 #[.int .i64 v] w (GotVer w v) := by
  obtain rfl | rfl | rfl | rfl | rfl | rfl | rfl : v = 1 ∨ v = 2 ∨ v = 3 ∨ v = 4 ∨ v = 5 ∨ v = 6 ∨ v = 7 := by omega
  · exact ver1_c w
  · exact ver2_c w
  · exact ver3_c w
  · exact ver4_c w
  · exact ver5_c w
  · exact ver6_c w
  · exact ver7_c w
end Go.Proofs.YtnpkihobbcglcaaGreatDoor
/- A level's blocks; the version for a number; what fits. -/
open Go Go.RowKit
namespace Go.Proofs.YtnpkihobbcglcaaGreatDoor
open Go.QZ

/-- The place of a level's blocks (the levels' bits are L 1, M 0, Q 3, H 2). -/
def lvI (l : Nat) : Nat := if l = 1 then 0 else if l = 0 then 1 else if l = 3 then 2 else 3
theorem lvI_lt (l : Nat) : lvI l < 4 := by unfold lvI; (repeat' split) <;> omega
def ecL (v l : Nat) : Nat × List (Nat × Nat) := ecD v (lvI l)
/-- The blocks of level l of a version were handed back. -/
def GotEC (X : Nat → Prop) (w : World) (v l : Nat) (e : Ending) (w' : World) : Prop := ∃ C B, e = .returned (.pointer (some ⟨C, 2 * lvI l, none⟩)) ∧ EC w C (2 * lvI l) B (ecL v l) ∧ ¬ X B ∧ ¬ X C ∧ w = w'

theorem getECL_c (X : Nat → Prop) (w : World) (p v l : Nat) (h : Ver X w p v) (hl : l < 4) : Calls Tryz.prog 47 #[.pointer (some ⟨p, 0, none⟩), .int .i64 l] w (GotEC X w v l) := by
  obtain ⟨A, C, hb, ha, he, hp, hA, hC⟩ := h
  have c2 := hb.cell 2
  obtain ⟨B, hE, hB⟩ := he _ (lvI_lt l)
  have fin : Hid (GotEC X w v l (.returned (.pointer (some ⟨C, 2 * lvI l, none⟩))) w) := ⟨C, B, rfl, hE, hB, hC, rfl⟩
  clear hb ha he hp hA hC hE hB
  obtain rfl | rfl | rfl | rfl : l = 0 ∨ l = 1 ∨ l = 2 ∨ l = 3 := by omega
  all_goals
    go_enter Tryz.func47, Tryz.ntmps47
    go_wp2
    go_ret
    exact fin.out

/-- A pair (version, no error) was handed back. -/
def GotVer2 (w : World) (v : Nat) (e : Ending) (w' : World) : Prop := ∃ p, e = .returned (.tuple #[.pointer (some ⟨p, 0, none⟩), .nilIface]) ∧ Ver (fun k => k < w.heap.size) w' p v ∧ QZ.Mod (fun _ => False) w w'
theorem getVersion_c (w : World) (v : Nat) (hv1 : 1 ≤ v) (hv : v < 8) : Calls Tryz.prog 39 #[.int .i64 v] w (GotVer2 w v) := by
  have t1 : decide ((v : Int) < 1) = false := by simp; omega
  have t2 : decide ((v : Int) > 40) = false := by simp; omega
  have t3 : decide (40 < (v : Int)) = false := by simp; omega
  go_enter Tryz.func39, Tryz.ntmps39
  go_wp2_with fail
  refine (versionOf_c w v hv1 hv).mono ?_
  rintro e w2 ⟨p, rfl, hp, hm⟩
  have Hp := Lib.hid hp
  have Hm := Lib.hid hm
  clear hp hm
  go_wp2_with fail
  go_ret2
  exact ⟨p, rfl, Hp.out, Hm.out⟩

/-- The data bytes that a version has room for at a level. -/
def roomD (v l : Nat) : Nat := totTo (ecD v 0).1 (ecD v 0).2 (ecD v 0).2.length - (ecL v l).1 * cntTo (ecL v l).2 (ecL v l).2.length
theorem room_all (v l : Nat) (hv1 : 1 ≤ v) (hv : v < 8) (hl : l < 4) : (ecL v l).1 * cntTo (ecL v l).2 (ecL v l).2.length < totTo (ecD v 0).1 (ecD v 0).2 (ecD v 0).2.length ∧ totTo (ecD v 0).1 (ecD v 0).2 (ecD v 0).2.length < 1000 := by
  have : ∀ v, v < 8 → 1 ≤ v → ∀ l, l < 4 → (ecL v l).1 * cntTo (ecL v l).2 (ecL v l).2.length < totTo (ecD v 0).1 (ecD v 0).2 (ecD v 0).2.length ∧ totTo (ecD v 0).1 (ecD v 0).2 (ecD v 0).2.length < 1000 := by decide
  exact this v hv hv1 l hl

set_option maxHeartbeats 800000 in
theorem willFit_c (w : World) (X : Nat → Prop) (p v l n : Nat) (h : Ver X w p v) (hv1 : 1 ≤ v) (hv : v < 8) (hl : l < 4) (hn : n ≤ 100000) :
    Calls Tryz.prog 42 #[.int .i64 n, .pointer (some ⟨p, 0, none⟩), .int .i64 l] w fun e w' => e = .returned (.bool (decide ((n + 7) / 8 ≤ roomD v l))) ∧ QZ.Mod (fun _ => False) w w' := by
  obtain ⟨r1, r2⟩ := room_all v l hv1 hv hl
  have ht := tame_all v (lvI l) hv1 hv (lvI_lt l)
  have hr : roomD v l = totTo (ecD v 0).1 (ecD v 0).2 (ecD v 0).2.length - (ecL v l).1 * cntTo (ecL v l).2 (ecL v l).2.length := rfl
  have Hv := Lib.hid h
  obtain ⟨A, C, hb, _⟩ := h
  have c3 := hb.cell 3
  change _ = some (Value.int _ _) at c3
  have c3 := Lib.hid c3
  rename Hid _ => Hc3
  have Hr := Lib.hid hr
  have Ht := Lib.hid ht
  clear hr ht
  clear hb
  generalize totTo (ecD v 0).1 (ecD v 0).2 (ecD v 0).2.length = tot at *
  go_enter Tryz.func42, Tryz.ntmps42
  go_wp2_with fail
  refine ((Version_GetTotalCodewords_c w p 0 _ Hc3.out)).mono ?_
  rintro e w1 ⟨rfl, rfl⟩
  go_wp2_with fail
  refine ((getECL_c X w p v l Hv.out hl)).mono ?_
  rintro e w1 ⟨C2, B2, rfl, hE, hB2, hC2, rfl⟩
  have HE := Lib.hid hE
  have HB2 := Lib.hid hB2
  have HC2 := Lib.hid hC2
  clear hE hB2 hC2
  go_wp2_with fail
  refine ((getTotalEC_c w C2 _ B2 _ HE.out Ht.out)).mono ?_
  rintro e w1 ⟨rfl, hm⟩
  have Hm := Lib.hid hm
  clear hm
  generalize (ecL v l).1 * cntTo (ecL v l).2 (ecL v l).2.length = q at *
  go_wp2
  go_ret
  refine ⟨?_, Hm.out⟩
  rw [Hr.out]
  show Ending.returned (.bool (decide (((n : Int) + 7) / 8 ≤ (tot : Int) - (q : Int)))) = _
  rw [show decide (((n : Int) + 7) / 8 ≤ (tot : Int) - (q : Int)) = decide ((n + 7) / 8 ≤ tot - q) from decide_eq_decide.mpr (by omega)]

/-- v is the first version with room for n bits at level l. -/
def Fits (n l v : Nat) : Prop := 1 ≤ v ∧ v < 8 ∧ (n + 7) / 8 ≤ roomD v l ∧ ∀ u, 1 ≤ u → u < v → ¬ (n + 7) / 8 ≤ roomD u l

set_option maxHeartbeats 800000 in
theorem chooseVersion_c (w : World) (n l v : Nat) (h : Fits n l v) (hl : l < 4) (hn : n ≤ 100000) : Calls Tryz.prog 93 #[.int .i64 n, .int .i64 l] w (GotVer2 w v) := by
  obtain ⟨hv1, hv, hf, hnf⟩ := h
  have Hf := Lib.hid hf
  have Hnf := Lib.hid hnf
  clear hf hnf
  go_enter Tryz.func93, Tryz.ntmps93
  go_wp2
  go_loopw [6, 7, 8] (fun a _ _ wr => ∃ (i : Nat), 1 ≤ i ∧ i ≤ v ∧ a = .int .i64 i ∧ QZ.Mod (fun _ => False) w wr) (fun a _ _ _ => 41 - (intOf a).toNat)
  case atStart => exact ⟨1, by omega, by omega, rfl, QZ.Mod.refl _ _⟩
  case round =>
    obtain ⟨i, hi1, hi, rfl, hm⟩ := hrel
    have Hm := Lib.hid hm
    clear hm
    go_wp2_with fail
    refine ((getVersion_c wr i hi1 (by omega))).mono ?_
    rintro e w2 ⟨p, rfl, hp, hm2⟩
    have hmm := Hm.out.trans hm2
    have Hp := Lib.hid hp
    have Hmm := Lib.hid hmm
    clear hp hmm
    clear hm2
    go_wp2_with fail
    refine (willFit_c w2 _ p i l n Hp.out hi1 (by omega) hl hn).mono ?_
    rintro e w3 ⟨rfl, hm3⟩
    have hp3 := (Hp.out.new hm3).weak (Y := fun k => k < w.heap.size) (fun k hk => by have := Hm.out.size; omega)
    have hm4 := Hmm.out.trans hm3
    have Hp3 := Lib.hid hp3
    have Hm4 := Lib.hid hm4
    clear hp3 hm4
    clear hm3
    by_cases hlt : i < v
    · rw [decide_eq_false (Hnf.out i hi1 hlt)]
      go_wp2_with fail
      go_roundw
      case rel => exact ⟨i + 1, by omega, by omega, by go_num, Hm4.out⟩
      case measure => simp [intOf] <;> omega
    · obtain rfl : i = v := by omega
      rw [decide_eq_true Hf.out]
      go_wp2_with fail
      go_ret2
      exact ⟨p, rfl, Hp3.out, Hm4.out⟩
end Go.Proofs.YtnpkihobbcglcaaGreatDoor
