/- Part 25 of the proof of FnPXQuick (a QR code that is written for a text says this text in a picture): parts of the road. No condition. -/
import Derived.Deep.RegionWith
import Derived.Test.YtnpkihobbcglcaaGreatDoorG12
open Go Go.RowKit
namespace Go.Proofs.YtnpkihobbcglcaaGreatDoor
open Go.QZ

/-- A polynomial is handed back, with no error. -/
def GotPoly (X : Nat → Prop) (w : World) (F : Nat) (cs : List Nat) (e : Ending) (w' : World) : Prop :=
  ∃ p, e = .returned (.tuple #[.pointer (some ⟨p, 0, none⟩), .nilIface]) ∧ Poly X w' F p cs ∧ QZ.Mod (fun _ => False) w w'

theorem beq_nat (a b : Nat) : ((a : Int) == (b : Int)) = decide (a = b) := by
  by_cases h : a = b
  · subst h; simp
  · rw [decide_eq_false h, beq_eq_false_iff_ne]; omega

set_option maxHeartbeats 800000 in
theorem newPoly_c (X : Nat → Prop) (w : World) (F B off cap : Nat) (cs : List Nat) (hX : ∀ k, X k → k < w.heap.size) (h : RdN w B off cs) (hn : 0 < cs.length) (hl : cs.length ≤ 100000) (hs : Small cs) (hB : ¬ X B) (hcap : cs.length ≤ cap) :
    Calls Tryz.prog 146 #[.pointer (some ⟨F, 0, none⟩), .slice (some ⟨B, off, none⟩) cs.length cap] w (GotPoly X w F (strip cs)) := by
  have hX1 : ¬ X w.heap.size := fun h => by have := hX _ h; omega
  have hX2 : ¬ X (w.heap.size + 1) := fun h => by have := hX _ h; omega
  have hB1 : B < w.heap.size := cell_lt (h 0 hn)
  have Hx1 := Lib.hid hX1; have Hx2 := Lib.hid hX2; have HB := Lib.hid hB; have Hs := Lib.hid hs
  clear hX1 hX2 hB hs hX
  have hne : ((cs.length : Int) == 0) = false := by rw [beq_eq_false_iff_ne]; omega
  have Hnew := Lib.hid (fun (v : Value) => Blk.new w [.pointer (some ⟨F, 0, none⟩), v] 289)
  have Hn := Lib.hid hn
  have Hrd := Lib.hid (fun o => h.mod ((QZ.Mod.refl (fun _ => False) w).alloc o) (fun f => f))
  have fin : Hid (strip cs = cs → GotPoly X w F (strip cs) (.returned (.tuple #[.pointer (some ⟨w.heap.size, 0, none⟩), .nilIface])) (w.alloc (.cells #[.pointer (some ⟨F, 0, none⟩), .slice (some ⟨B, off, none⟩) cs.length cap] 289))) := by
    intro e
    exact ⟨w.heap.size, rfl, ⟨B, off, cap, by rw [e]; exact Hnew.out _, by rw [e]; exact Hrd.out _, strip_neat _ hn, strip_small _ Hs.out, by rw [e]; exact hl, Hx1.out, HB.out, by rw [e]; exact hcap⟩, (QZ.Mod.refl _ _).alloc _⟩
  by_cases h1 : cs.length = 1
  · have Hst : Hid (strip cs = cs) := by
      show strip cs = cs
      exact strip_of_neat ⟨by omega, fun h => by omega⟩
    have t1 : decide (1 < (cs.length : Int)) = false := by simp; omega
    have Hh := Lib.hid h
    have H1 := Lib.hid h1
    clear h h1
    go_enter Tryz.func146, Tryz.ntmps146
    go_wp2
    go_ret2
    exact fin.out Hst.out
  · have t1 : decide (1 < (cs.length : Int)) = true := by simp; omega
    have c0 : ∀ o, (w.alloc o).cell? ⟨B, off, none⟩ = some (.int .i64 (nth cs 0 : Nat)) := fun o => cell_mod ((QZ.Mod.refl (fun _ => False) w).alloc o) (fun f => f) (h 0 hn)
    by_cases h0 : nth cs 0 = 0
    · have t0 : ((nth cs 0 : Int) == 0) = true := by rw [h0]; rfl
      obtain ⟨z, hz⟩ : ∃ z, nth cs 0 = z := ⟨_, rfl⟩
      rw [hz] at c0 t0
      have Hh := Lib.hid h
      have H0 := Lib.hid h0
      have Hz := Lib.hid hz
      clear h h0 hz
      go_enter Tryz.func146, Tryz.ntmps146
      go_wp2
      go_loop [8] (fun a => ∃ k : Nat, 1 ≤ k ∧ k ≤ cs.length ∧ a = .int .i64 k ∧ ∀ j, j < k → nth cs j = 0) (fun a => cs.length - (intOf a).toNat)
      case atStart => exact ⟨1, by omega, by omega, rfl, fun j hj => by rw [show j = 0 by omega]; exact H0.out⟩
      case round =>
        obtain ⟨k, hk1, hk, rfl, hzs⟩ := hrel
        have Hzs := Lib.hid hzs; clear hzs
        by_cases hlt : k < cs.length
        · have ck := Hrd.out (.cells #[.pointer (some ⟨F, 0, none⟩), .slice none 0 0] 289) k hlt
          by_cases hk0 : nth cs k = 0
          · have Hk0 := Lib.hid hk0
            rw [hk0] at ck
            clear hk0
            go_wp2
            go_round
            case rel => exact ⟨k + 1, by omega, by omega, by go_num, fun j hj => by
              by_cases e : j = k
              · rw [e]; exact Hk0.out
              · exact Hzs.out j (by omega)⟩
            case measure => simp [intOf]; omega
          · have tk : ((nth cs k : Int) == 0) = false := by rw [beq_eq_false_iff_ne]; omega
            have te : ((k : Int) == (cs.length : Int)) = false := by rw [beq_eq_false_iff_ne]; omega
            have Hst := Lib.hid (strip_at cs k hlt Hzs.out hk0)
            have Hk0 := Lib.hid hk0
            generalize nth cs k = vk at *
            clear hk0
            go_wp2
            go_ret2
            refine ⟨w.heap.size, rfl, ⟨B, off + k, cap - k, ?_, ?_, strip_neat _ Hn.out, strip_small _ Hs.out, by rw [Hst.out, List.length_drop]; omega, Hx1.out, HB.out, by rw [Hst.out, List.length_drop]; omega⟩, (QZ.Mod.refl _ _).alloc _⟩
            · rw [Hst.out, List.length_drop]; exact Hnew.out _
            · rw [Hst.out]
              intro j hj
              rw [List.length_drop] at hj
              rw [nth_drop, Nat.add_assoc]
              exact Hrd.out _ (k + j) (by omega)
        · obtain rfl : k = cs.length := by omega
          have Hst := Lib.hid (strip_all cs Hn.out Hzs.out)
          go_wp2
          go_ret2
          have hb := Blk.new (w.alloc (.cells #[.pointer (some ⟨F, 0, none⟩), .slice (some ⟨w.heap.size + 1, 0, none⟩) 1 1] 289)) [.int .i64 0] 3
          rw [World.size_alloc] at hb
          exact ⟨w.heap.size, rfl, ⟨w.heap.size + 1, 0, 1, by rw [Hst.out]; exact (Hnew.out _).alloc _, by rw [Hst.out]; exact RdN.of_blk hb, strip_neat _ Hn.out, strip_small _ Hs.out, by rw [Hst.out]; decide, Hx1.out, Hx2.out, by rw [Hst.out]; decide⟩, ((QZ.Mod.refl _ _).alloc _).alloc _⟩
    · have t0 : ((nth cs 0 : Int) == 0) = false := by rw [beq_eq_false_iff_ne]; omega
      have Hst : Hid (strip cs = cs) := by
        show strip cs = cs
        exact strip_of_neat ⟨by omega, fun _ => h0⟩
      have Hh := Lib.hid h
      have H0 := Lib.hid h0
      clear h h0
      go_enter Tryz.func146, Tryz.ntmps146
      go_wp2
      go_ret2
      exact fin.out Hst.out
theorem newPoly_n (X : Nat → Prop) (w : World) (F B off cap n : Nat) (cs : List Nat) (hlen : cs.length = n) (hX : ∀ k, X k → k < w.heap.size) (h : RdN w B off cs) (hn : 0 < n) (hl : n ≤ 100000) (hs : Small cs) (hB : ¬ X B) (hcap : n ≤ cap) :
    Calls Tryz.prog 146 #[.pointer (some ⟨F, 0, none⟩), .slice (some ⟨B, off, none⟩) n cap] w (GotPoly X w F (strip cs)) := by
  subst hlen
  exact newPoly_c X w F B off cap cs hX h hn hl hs hB hcap
end Go.Proofs.YtnpkihobbcglcaaGreatDoor
open Go Go.RowKit
namespace Go.Proofs.YtnpkihobbcglcaaGreatDoor
open Go.QZ

section
variable {X : Nat → Prop} {w : World} {F p B off cap : Nat} {cs : List Nat}
theorem PolyAt.c0 (h : PolyAt X w F p B off cap cs) : w.cell? ⟨p, 0, none⟩ = some (.pointer (some ⟨F, 0, none⟩)) := by rw [h.head.cell]; rfl
theorem PolyAt.c1 (h : PolyAt X w F p B off cap cs) : w.cell? ⟨p, 1, none⟩ = some (.slice (some ⟨B, off, none⟩) cs.length cap) := by rw [h.head.cell]; rfl
theorem PolyAt.cx (h : PolyAt X w F p B off cap cs) (j : Nat) (hj : j < cs.length) : w.cell? ⟨B, off + j, none⟩ = some (.int .i64 (nth cs j : Nat)) := h.cells j hj
theorem PolyAt.cx0 (h : PolyAt X w F p B off cap cs) : w.cell? ⟨B, off, none⟩ = some (.int .i64 (nth cs 0 : Nat)) := h.cells 0 h.neat.1
theorem PolyAt.lt (h : PolyAt X w F p B off cap cs) (j : Nat) : nth cs j < 256 := small_nth h.small j
theorem PolyAt.drewN (h : PolyAt X w F p B off cap cs) (n : Nat) : PolyAt X (w.drewN n) F p B off cap cs := ⟨h.head, h.cells, h.neat, h.small, h.few, h.xp, h.xB, h.capl⟩
end

theorem isZero_c (X : Nat → Prop) (w : World) (F p : Nat) (cs : List Nat) (h : Poly X w F p cs) : Calls Tryz.prog 205 #[.pointer (some ⟨p, 0, none⟩)] w fun e w' => e = .returned (.bool (decide (nth cs 0 = 0))) ∧ w = w' := by
  obtain ⟨B, off, cap, h⟩ := h
  have c1 := h.c1
  have cx := h.cx0
  have hn := h.neat.1
  have hf := h.few
  have Hb : Hid (((nth cs 0 : Int) == 0) = decide (nth cs 0 = 0)) := beq_nat (nth cs 0) 0
  generalize nth cs 0 = v at *
  clear h
  go_enter Tryz.func205, Tryz.ntmps205
  go_wp2
  go_ret
  exact ⟨by rw [← Hb.out]; rfl, rfl⟩

theorem degree_c (X : Nat → Prop) (w : World) (F p : Nat) (cs : List Nat) (h : Poly X w F p cs) : Calls Tryz.prog 207 #[.pointer (some ⟨p, 0, none⟩)] w fun e w' => e = .returned (.int .i64 ((cs.length : Int) - 1)) ∧ w = w' := by
  obtain ⟨B, off, cap, h⟩ := h
  have c1 := h.c1
  have hn := h.neat.1
  have hf := h.few
  clear h
  go_enter Tryz.func207, Tryz.ntmps207
  go_wp2
  go_ret
  exact ⟨rfl, rfl⟩

theorem lead_c (X : Nat → Prop) (w : World) (F p : Nat) (cs : List Nat) (h : Poly X w F p cs) (d : Int) (hd : d = (cs.length : Int) - 1) : Calls Tryz.prog 206 #[.pointer (some ⟨p, 0, none⟩), .int .i64 d] w fun e w' => e = .returned (.int .i64 (nth cs 0 : Nat)) ∧ ∃ n, w.drewN n = w' := by
  obtain ⟨B, off, cap, h⟩ := h
  have c1 := h.c1
  have cx := h.cx0
  have hn := h.neat.1
  have hf := h.few
  have h1 : IntKind.i64.wrap ((cs.length : Int) - 1) = (cs.length : Int) - 1 := IntWalk.i64_in _ (by omega)
  have h2 : (cs.length : Int) - 1 - d = 0 := by omega
  have h3 : IntKind.i64.wrap 0 = 0 := rfl
  generalize nth cs 0 = v at *
  clear h hd
  go_enter Tryz.func206, Tryz.ntmps206
  go_wp2
  go_quiet (fail)
  go_wp2
  go_ret
  exact ⟨rfl, _, rfl⟩

theorem gfAdd_c (w : World) (a b : Nat) (ha : a < 256) (hb : b < 256) : Calls Tryz.prog 242 #[.int .i64 a, .int .i64 b] w fun e w' => e = .returned (.int .i64 (xorN a b : Nat)) ∧ w = w' := by
  have hx : bits .xor .i64 (a : Int) (b : Int) = (xorN a b : Int) := by
    have h1 : (BitVec.ofInt 64 (a : Int)).toNat = a := by
      rw [BitVec.ofInt_natCast, BitVec.toNat_ofNat]; exact Nat.mod_eq_of_lt (by omega)
    have h2 : (BitVec.ofInt 64 (b : Int)).toNat = b := by
      rw [BitVec.ofInt_natCast, BitVec.toNat_ofNat]; exact Nat.mod_eq_of_lt (by omega)
    show IntKind.i64.wrap ((BitVec.ofInt 64 (a : Int) ^^^ BitVec.ofInt 64 (b : Int)).toNat : Int) = _
    rw [BitVec.toNat_xor, h1, h2, IntKind.wrap_i64]
    have := xorN_lt ha hb
    unfold xorN at *
    omega
  go_enter Tryz.func242, Tryz.ntmps242
  go_wp2
  go_ret
  exact ⟨rfl, rfl⟩

theorem gfMul_q (w : World) (m F E L Z O : Nat) (h : GF w F E L Z O) (a b : Nat) (ha : a < 256) (hb : b < 256) : Calls Tryz.prog 204 #[.pointer (some ⟨F, 0, none⟩), .int .i64 a, .int .i64 b] (w.drewN m) fun e w' => e = .returned (.int .i64 (gmul a b : Nat)) ∧ ∃ n, w' = w.drewN n :=
  (gfMul_c (w.drewN m) F E L Z O ⟨h.head, h.exp, h.log, h.old⟩ a b ha hb).mono fun _ _ ⟨he, n, hn⟩ => ⟨he, m + n, by rw [← hn, World.drewN_drewN]⟩
theorem gfAdd_q (w : World) (m : Nat) (a b : Nat) (ha : a < 256) (hb : b < 256) : Calls Tryz.prog 242 #[.int .i64 a, .int .i64 b] (w.drewN m) fun e w' => e = .returned (.int .i64 (xorN a b : Nat)) ∧ ∃ n, w' = w.drewN n :=
  (gfAdd_c (w.drewN m) a b ha hb).mono fun _ _ ⟨he, hn⟩ => ⟨he, m, hn.symm⟩

theorem gfMul_q2 (w : World) (n m F E L Z O : Nat) (h : GF w F E L Z O) (a b : Nat) (ha : a < 256) (hb : b < 256) : Calls Tryz.prog 204 #[.pointer (some ⟨F, 0, none⟩), .int .i64 a, .int .i64 b] (w.drewN (n + m)) fun e w' => e = .returned (.int .i64 (gmul a b : Nat)) ∧ ∃ k, w' = w.drewN (n + k) :=
  (gfMul_c (w.drewN (n + m)) F E L Z O ⟨h.head, h.exp, h.log, h.old⟩ a b ha hb).mono fun _ _ ⟨he, k, hk⟩ => ⟨he, m + k, by rw [← hk, World.drewN_drewN, Nat.add_assoc]⟩
theorem gfAdd_q2 (w : World) (n m : Nat) (a b : Nat) (ha : a < 256) (hb : b < 256) : Calls Tryz.prog 242 #[.int .i64 a, .int .i64 b] (w.drewN (n + m)) fun e w' => e = .returned (.int .i64 (xorN a b : Nat)) ∧ ∃ k, w' = w.drewN (n + k) :=
  (gfAdd_c (w.drewN (n + m)) a b ha hb).mono fun _ _ ⟨he, hn⟩ => ⟨he, m, hn.symm⟩
theorem evF_step (a : Nat) (cs : List Nat) (k : Nat) (h : k < cs.length) : ev a (cs.take (k + 1)) = xorN (gmul a (ev a (cs.take k))) (nth cs k) := by
  unfold ev
  rw [List.take_succ_eq_append_getElem h, evF_app]
  simp [evF, nth, List.getD_eq_getElem?_getD, h]
theorem ev_take_lt (a : Nat) (cs : List Nat) (k : Nat) (h : Small cs) : ev a (cs.take k) < 256 := ev_lt a _ (fun x hx => h x (List.mem_of_mem_take hx))

set_option maxHeartbeats 800000 in
theorem evalAt_c (X : Nat → Prop) (w : World) (F p : Nat) (cs : List Nat) (h : Poly X w F p cs) (hF : Fld X w F) (a : Nat) (ha : a < 256) (h0 : a ≠ 0) :
    Calls Tryz.prog 247 #[.pointer (some ⟨p, 0, none⟩), .int .i64 a] w fun e w' => e = .returned (.int .i64 (ev a cs : Nat)) ∧ ∃ n, w.drewN n = w' := by
  obtain ⟨B, off, cap, h⟩ := h
  obtain ⟨E, L, Z, O, hF, _⟩ := hF
  have c0 := h.c0
  have c1 := h.c1
  have hn := h.neat.1
  have hf := h.few
  have H := Lib.hid h; have HF := Lib.hid hF
  have ha0 : ((a : Int) == 0) = false := by rw [beq_eq_false_iff_ne]; omega
  clear h hF
  by_cases h1 : a = 1
  · have ha1 : ((a : Int) == 1) = true := by rw [h1]; rfl
    have Hone := Lib.hid (show ∀ y, y < 256 → gmul a y = y from fun y hy => by rw [h1]; exact one_gmul y hy)
    clear h1
    go_enter Tryz.func247, Tryz.ntmps247
    go_wp2_with fail
    go_loop [22, 5, 7] (fun i r _ => ∃ k : Nat, k ≤ cs.length ∧ i = .int .i64 k ∧ r = .int .i64 (ev a (cs.take k) : Nat)) (fun i _ _ => cs.length - (intOf i).toNat)
    case atStart => exact ⟨0, by omega, rfl, rfl⟩
    case round =>
      obtain ⟨k, hk, rfl, rfl⟩ := hrel
      by_cases hlt : k < cs.length
      · have cx := H.out.cx k hlt
        have hl1 := H.out.lt k
        have hl2 := ev_take_lt a cs k H.out.small
        have Hs : Hid (ev a (cs.take (k + 1)) = xorN (ev a (cs.take k)) (nth cs k)) := by
          show ev a _ = _
          rw [evF_step a cs k hlt, Hone.out _ hl2]
        generalize nth cs k = x at *
        generalize ev a (cs.take k) = y at *
        go_wp2_with fail
        refine ((gfAdd_c w y x hl2 hl1)).mono ?_
        rintro e w1 ⟨rfl, rfl⟩
        go_wp2_with fail
        go_round
        case rel => exact ⟨k + 1, by omega, by go_num, by rw [Hs.out]⟩
        case measure => simp [intOf]; omega
      · obtain rfl : k = cs.length := by omega
        go_wp2_with fail
        go_ret
        exact ⟨by first | rfl | (rw [List.take_length]; rfl), 0, rfl⟩
  · have ha1 : ((a : Int) == 1) = false := by rw [beq_eq_false_iff_ne]; omega
    have cx0 := H.out.cx0
    have He1 : Hid (ev a (cs.take 1) = nth cs 0) := by
      show ev a _ = _
      rw [evF_step a cs 0 hn]
      show xorN (gmul a 0) _ = _
      rw [gmul_zero_right]; exact zero_xorN _
    generalize nth cs 0 = v0 at *
    have H1 := Lib.hid h1
    clear h1
    go_enter Tryz.func247, Tryz.ntmps247
    go_wp2_with fail
    clear cx0
    go_loopw [10, 8] (fun i r wr => ∃ k n : Nat, 1 ≤ k ∧ k ≤ cs.length ∧ i = .int .i64 k ∧ r = .int .i64 (ev a (cs.take k) : Nat) ∧ wr = w.drewN n) (fun i _ _ => cs.length - (intOf i).toNat)
    case atStart => exact ⟨1, 0, by omega, by omega, rfl, by rw [He1.out], rfl⟩
    case round =>
      obtain ⟨k, n, hk1, hk, rfl, rfl, rfl⟩ := hrel
      by_cases hlt : k < cs.length
      · have cx := H.out.cx k hlt
        have hl1 := H.out.lt k
        have hl2 := ev_take_lt a cs k H.out.small
        have Hs : Hid (ev a (cs.take (k + 1)) = xorN (gmul a (ev a (cs.take k))) (nth cs k)) := evF_step a cs k hlt
        have hgl := gmul_lt a (ev a (cs.take k))
        generalize nth cs k = x at *
        generalize ev a (cs.take k) = y at *
        go_wp2_with fail
        go_quiet (first | (go_at_call 204; refine gfMul_q2 w n _ F E L Z O HF.out a y ha hl2) | (go_at_call 242; refine gfAdd_q2 w n _ _ x hgl hl1))
        go_wp2_with fail
        go_roundw
        case rel => exact ⟨k + 1, _, by omega, by omega, by go_num, by rw [Hs.out], rfl⟩
        case measure => simp [intOf]; omega
      · obtain rfl : k = cs.length := by omega
        go_wp2_with fail
        go_ret
        exact ⟨by first | rfl | (rw [List.take_length]; rfl), n, rfl⟩
end Go.Proofs.YtnpkihobbcglcaaGreatDoor
open Go Go.RowKit
namespace Go.Proofs.YtnpkihobbcglcaaGreatDoor
open Go.QZ

theorem i117 : (Tryz.prog.info? 3).map (fun i => (i.zero, i.size, i.bytes)) = some (some (.int .i64 0), 1, 8) := by kernel_rfl
theorem made_i64 (w : World) (n : Nat) : Blk (w.alloc (zrow 3 (.int .i64 0) n)) w.heap.size (cellsN .i64 (List.replicate n 0)) := by
  have := Blk.made w 3 (.int .i64 0) n
  rwa [show List.replicate n (Value.int .i64 0) = cellsN .i64 (List.replicate n 0) from cellsN_rep .i64 n 0] at this
theorem take_set_next (us ws : List Nat) (k : Nat) (h : k < us.length) (hl : us.length = ws.length) (hp : us.take k = ws.take k) : (us.set k (nth ws k)).take (k + 1) = ws.take (k + 1) := by
  rw [List.take_succ_eq_append_getElem (by rw [List.length_set]; exact h), List.take_succ_eq_append_getElem (by omega), List.take_set_of_le (Nat.le_refl _), hp]
  simp [nth, List.getD_eq_getElem?_getD, show k < ws.length by omega]
theorem Mod.keep {w w1 w2 : World} {R : Nat} (h1 : QZ.Mod (fun _ => False) w w1) (h2 : QZ.Mod (· = R) w1 w2) (hR : w.heap.size ≤ R) : QZ.Mod (fun _ => False) w w2 := h1.new h2 (fun k e => by rw [e]; exact hR)

/-- A scaled polynomial of which the first k coefficients are already there. -/
def scaleTo (cs : List Nat) (c d k : Nat) : List Nat := (List.range (cs.length + d)).map fun i => if i < k ∧ i < cs.length then gmul (nth cs i) c else 0
theorem scaleTo_len (cs : List Nat) (c d k : Nat) : (scaleTo cs c d k).length = cs.length + d := by simp [scaleTo]
theorem scaleTo_zero (cs : List Nat) (c d : Nat) : scaleTo cs c d 0 = List.replicate (cs.length + d) 0 := by
  apply List.ext_getElem (by simp [scaleTo])
  intro i h1 h2; simp [scaleTo]
theorem scaleTo_succ (cs : List Nat) (c d k : Nat) (h : k < cs.length) : (scaleTo cs c d k).set k (gmul (nth cs k) c) = scaleTo cs c d (k + 1) := by
  apply List.ext_getElem (by simp [scaleTo])
  intro i h1 h2
  simp only [scaleTo, List.getElem_set, List.getElem_map, List.getElem_range]
  by_cases e : k = i
  · subst e; rw [if_pos rfl, if_pos (by omega)]
  · rw [if_neg e]
    by_cases e2 : i < k ∧ i < cs.length
    · rw [if_pos e2, if_pos (by omega)]
    · rw [if_neg e2, if_neg (by omega)]
theorem scaleTo_all (cs : List Nat) (c d : Nat) : scaleTo cs c d cs.length = shift cs c d := by
  apply List.ext_getElem (by rw [scaleTo_len, shift_len])
  intro i h1 h2
  rw [scaleTo_len] at h1
  by_cases h : i < cs.length
  · simp [scaleTo, shift, h, nth, List.getD_eq_getElem?_getD]
  · simp [scaleTo, shift, h, List.getElem_append]

theorem Mod.drewN {S : Nat → Prop} {a b : World} (h : QZ.Mod S a b) (n : Nat) : QZ.Mod S a (b.drewN n) := ⟨h.os, h.tape, h.output, h.size, h.block⟩
theorem GF.drew {w : World} {F E L Z O : Nat} (h : GF w F E L Z O) : GF w.drew F E L Z O := ⟨h.head, h.exp, h.log, h.old⟩
theorem GF.mod {S : Nat → Prop} {w w' : World} {F E L Z O : Nat} (h : GF w F E L Z O) (hm : QZ.Mod S w w') (hF : ¬ S F) (hE : ¬ S E) (hL : ¬ S L) : GF w' F E L Z O :=
  ⟨hm.blk hF h.head, h.exp.mod hm hE, h.log.mod hm hL, Nat.lt_of_lt_of_le h.old hm.size⟩

set_option maxHeartbeats 800000 in
theorem mulMono_c (X : Nat → Prop) (w : World) (F p : Nat) (cs : List Nat) (hX : ∀ k, X k → k < w.heap.size) (h : Poly X w F p cs) (hF : Fld X w F) (d c : Nat) (hd : d ≤ 10000) (hl : cs.length ≤ 10000) (hc : c < 256) (hc0 : c ≠ 0) :
    Calls Tryz.prog 166 #[.pointer (some ⟨p, 0, none⟩), .int .i64 d, .int .i64 c] w (GotPoly X w F (strip (shift cs c d))) := by
  have HF := Lib.hid hF
  obtain ⟨E, L, Z, O, hG, _⟩ := hF
  obtain ⟨B, off, cap, h⟩ := h
  have hmk := make_run (P := Tryz.prog) Tryz.underlying117 i117 rfl ((cs.length : Int) + (d : Int)) ((cs.length : Int) + (d : Int)) (cs.length + d) (cs.length + d) (by omega) (by omega) (Nat.le_refl _) (by omega) (by omega)
  have t0 : decide ((d : Int) < 0) = false := by simp
  have t1 : ((c : Int) == 0) = false := by rw [beq_eq_false_iff_ne]; omega
  have c1 := h.c1
  have H := Lib.hid h; have HG := Lib.hid hG; have HX := Lib.hid hX
  have hn := h.neat.1
  clear h hG hX hc0
  go_enter Tryz.func166, Tryz.ntmps166
  go_wp2_with fail
  go_loopw [10] (fun i wr => ∃ k : Nat, k ≤ cs.length ∧ i = .int .i64 k ∧ Blk wr w.heap.size (cellsN .i64 (scaleTo cs c d k)) ∧ QZ.Mod (fun _ => False) w wr) (fun i _ => cs.length - (intOf i).toNat)
  case atStart => exact ⟨0, by omega, rfl, by rw [scaleTo_zero]; exact made_i64 _ _, (QZ.Mod.refl _ _).alloc _⟩
  case round =>
    obtain ⟨k, hk, rfl, hb, hm⟩ := hrel
    clear hmk c1
    by_cases hlt : k < cs.length
    · have hh := (show Poly X w F p cs from ⟨B, off, cap, H.out⟩)
      have c0 := cell_mod hm (fun f => f) H.out.c0
      have c1 := cell_mod hm (fun f => f) H.out.c1
      have cx := cell_mod hm (fun f => f) (H.out.cx k hlt)
      have hlx := H.out.lt k
      have hg2 := HG.out.mod hm (fun f => f) (fun f => f) (fun f => f)
      have hcell := hb.cell k
      rw [cellsN_get _ _ _ (by rw [scaleTo_len]; omega)] at hcell
      have hfr := hb.frozen k
      have Hg2 := Lib.hid hg2
      have hb2 := fun n => (blk_drewN hb n).set k (.int .i64 (gmul (nth cs k) c : Nat))
      rw [cellsN_set, scaleTo_succ _ _ _ _ hlt] at hb2
      have Hb2 := Lib.hid hb2
      have Hm2 := Lib.hid (fun n => (Mod.drewN hm n).setCell (p := ⟨w.heap.size, k, none⟩) (.inl (Nat.le_refl _)) (.int .i64 (gmul (nth cs k) c : Nat)))
      generalize nth cs k = x at *
      generalize nth (scaleTo cs c d k) k = old at *
      clear hb hm hg2 hb2 hh
      go_wp2_with fail
      go_region_with (go_at_call 204; refine (gfMul_c _ F E L Z O ?_ x c hlx hc).mono ?_; exact Hg2.out.drew; rintro e w5 ⟨rfl, n, rfl⟩)
      all_goals (
        go_wp2_with fail
        go_roundw
        case rel => exact ⟨k + 1, by omega, by go_num, Hb2.out _, Hm2.out _⟩
        case measure => simp [intOf]; omega)
    · obtain rfl : k = cs.length := by omega
      have c0 := cell_mod hm (fun f => f) H.out.c0
      rw [scaleTo_all] at hb
      have hrd := RdN.of_blk hb
      have HH := Lib.hid (show ¬ X w.heap.size from fun h => by have := HX.out _ h; omega)
      have HX2 : Hid (∀ k, X k → k < wr.heap.size) := fun k hk => Nat.lt_of_lt_of_le (HX.out k hk) hm.size
      have Hm := Lib.hid hm
      have Hb := Lib.hid hb
      have Hrd := Lib.hid hrd
      clear hm hb hrd
      go_wp2_with fail
      refine ((newPoly_n X wr F _ 0 _ _ (shift cs c d) (shift_len _ _ _) HX2.out Hrd.out (by omega) (by omega) (shift_small _ _ _) HH.out (Nat.le_refl _))).mono ?_
      rintro e w5 ⟨q, rfl, hq, hm5⟩
      have Hq := Lib.hid hq
      have Hm5 := Lib.hid hm5
      clear hq hm5
      go_wp2_with fail
      go_ret2
      exact ⟨q, rfl, Hq.out, Hm.out.trans Hm5.out⟩
end Go.Proofs.YtnpkihobbcglcaaGreatDoor
