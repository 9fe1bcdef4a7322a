/- Part 36 of the proof of FnPXQuick (a QR code that is written for a text says this text in a picture): parts of the road. No condition. -/
import Derived.Test.YtnpkihobbcglcaaGreatDoorG28
/- Reed-Solomon: words without an error are taken as they are. -/
open Go Go.RowKit
namespace Go.Proofs.YtnpkihobbcglcaaGreatDoor
open Go.QZ

theorem exp_ne0 (i : Nat) (h : i < 256) : nth expL i ≠ 0 := by rw [exp_at i h]; exact exp_pos i

set_option maxRecDepth 20000 in
set_option maxHeartbeats 1600000 in
theorem rsDec_c (w : World) (D F R L n : Nat) (xs : List Nat) (hD : w.cell? ⟨D, 0, none⟩ = some (.pointer (some ⟨F, 0, none⟩))) (hF : Fld (fun _ => False) w F) (hb : Blk w R (cellsN .i64 xs)) (hL : xs.length = L) (hs : Small xs) (h0 : 0 < L) (h1 : L ≤ 1000) (hn : n ≤ 30) (hz : ∀ i, i < n → ev (nth expL i) xs = 0) :
    Calls Tryz.prog 215 #[.pointer (some ⟨D, 0, none⟩), .slice (some ⟨R, 0, none⟩) L L, .int .i64 n] w fun e w' => e = .returned .nilIface ∧ QZ.Mod (fun _ => False) w w' := by
  have hmk := make_run (P := Tryz.prog) Tryz.underlying117 i117 rfl (n : Int) (n : Int) n n rfl rfl (Nat.le_refl _) (by omega) (by omega)
  have HF := Lib.hid hF; have Hb := Lib.hid hb; have HL := Lib.hid hL; have Hs := Lib.hid hs; have Hz := Lib.hid hz; have HDc := Lib.hid hD
  clear hF hb hL hs hz
  go_enter Tryz.func215, Tryz.ntmps215
  go_wp2_with fail
  refine ((newPoly_n (fun _ => False) w F R 0 L L xs HL.out (fun _ f => f.elim) (RdN.of_blk Hb.out) h0 (by omega) Hs.out (fun f => f) (Nat.le_refl _))).mono ?_
  rintro e w1 ⟨p, rfl, hp, hm⟩
  have hD1 := cell_mod hm (fun f => f) hD
  have Hp := Lib.hid hp
  have Hm := Lib.hid hm
  clear hp hm
  clear hD
  go_wp2_with fail
  clear hmk
  have Hb1 : Hid (Blk (w1.alloc (zrow 3 (.int .i64 0) n)) w1.heap.size (cellsN .i64 (List.replicate n 0))) := made_i64 w1 n
  go_loopw [11, 12, 10] (fun a _ c wr => ∃ k : Nat, k ≤ n ∧ a = .int .i64 k ∧ c = .bool true ∧ Blk wr w1.heap.size (cellsN .i64 (List.replicate n 0)) ∧ QZ.Mod (fun _ => False) w1 wr) (fun a _ _ _ => n - (intOf a).toNat)
  case atStart => exact ⟨0, by omega, rfl, rfl, Hb1.out, (QZ.Mod.refl _ _).alloc _⟩
  case round =>
    obtain ⟨k, hk, rfl, rfl, hb, hm2⟩ := hrel
    have hDr := cell_mod hm2 (fun f => f) hD1
    by_cases hlt : k < n
    · have hFr := HF.out.new (Hm.out.trans hm2)
      have hpr := Hp.out.new hm2
      obtain ⟨E, L0, Z, O, hG, _⟩ := hFr
      have hFr := HF.out.new (Hm.out.trans hm2)
      have hc6 := hG.head.cell 6
      have Hexl := Lib.hid (exp_lt256 k)
      have Hex0 := Lib.hid (exp_ne0 k (by omega))
      have Hev : Hid (ev (nth expL k) (strip xs) = 0) := by show _ = _; rw [ev_strip]; exact Hz.out k hlt
      have hwk : IntKind.i64.wrap (k : Int) = (k : Int) := IntWalk.i64_in _ (by omega)
      obtain ⟨j, hj⟩ : ∃ j, n - 1 - k = j := ⟨_, rfl⟩
      have hsub : (n : Int) - 1 - (k : Int) = (j : Int) := by omega
      have hjn : j < n := by omega
      have hcell := hb.cell j
      rw [cellsN_get _ _ _ (by rw [List.length_replicate]; exact hjn)] at hcell
      have hfr := hb.frozen j
      have hb2 := fun q => (blk_drewN hb q).set j (.int .i64 (0 : Nat))
      rw [cellsN_set, show (List.replicate n 0).set j 0 = List.replicate n 0 from by
        apply List.ext_getElem (by simp)
        intro i h1 h2; rw [List.getElem_set]; split <;> simp] at hb2
      have hm3 := fun q => (Mod.drewN hm2 q).setCell (p := ⟨w1.heap.size, j, none⟩) (.inl (Nat.le_refl _)) (.int .i64 (0 : Nat))
      generalize nth (List.replicate n 0) j = old at *
      have Hb2 := Lib.hid hb2
      have Hm3 := Lib.hid hm3
      have HG := Lib.hid hG
      have HFr := Lib.hid hFr
      have Hpr := Lib.hid hpr
      have Hj := Lib.hid hj
      clear hb2 hm3 hG hFr hpr hj
      clear hb hm2
      go_wp2_with fail
      go_quiet (first | (go_at_call 201; refine quiet1 (GenericGF_GetGeneratorBase_c _ F 0 (.int .i64 0) ?_); exact hc6) | (go_at_call 200; refine quiet1 (gfExp_c _ F E L0 Z O ?_ k (by omega)); exact ⟨HG.out.head, HG.out.exp, HG.out.log, HG.out.old⟩) | (go_at_call 247; refine quiet2 (evalAt_c (fun _ => False) _ F p (strip xs) ?_ ?_ (nth expL k) Hexl.out Hex0.out); exact Hpr.out.new (mod_drewN _ _ _); exact HFr.out.new (mod_drewN _ _ _)))
      rw [Hev.out]
      go_wp2_with fail
      go_roundw
      case rel => exact ⟨k + 1, by omega, by go_num, rfl, Hb2.out _, Hm3.out _⟩
      case measure => simp [intOf]; omega
    · obtain rfl : k = n := by omega
      have Hb := Lib.hid hb
      have Hm2 := Lib.hid hm2
      clear hb hm2
      go_wp2_with fail
      go_ret
      exact ⟨rfl, Hm.out.trans Hm2.out⟩
end Go.Proofs.YtnpkihobbcglcaaGreatDoor
/- A block without errors is taken as it is. -/
open Go Go.RowKit
namespace Go.Proofs.YtnpkihobbcglcaaGreatDoor
open Go.QZ

set_option maxRecDepth 20000 in
set_option maxHeartbeats 1600000 in
theorem correct_c (w : World) (dd r F D L n dl : Nat) (xs : List Nat) (hdd : Blk w dd [.pointer (some ⟨r, 0, none⟩)]) (hr : Blk w r [.pointer (some ⟨F, 0, none⟩)]) (hF : Fld (fun _ => False) w F) (hb : Blk w D (cellsN .u8 xs)) (hL : xs.length = L) (hs : Small xs) (h0 : 0 < L) (h1 : L ≤ 500) (hdl : dl + n = L) (hn : n ≤ 30) (hz : ∀ i, i < n → ev (nth expL i) xs = 0) :
    Calls Tryz.prog 188 #[.pointer (some ⟨dd, 0, none⟩), .slice (some ⟨D, 0, none⟩) L L, .int .i64 dl] w fun e w' => e = .returned .nilIface ∧ Blk w' D (cellsN .u8 xs) ∧ QZ.Mod (· = D) w w' := by
  have hmk := make_run (P := Tryz.prog) Tryz.underlying117 i117 rfl (L : Int) (L : Int) L L rfl rfl (Nat.le_refl _) (by omega) (by omega)
  have hDl := hb.lt
  have hnI : (L : Int) - (dl : Int) = (n : Int) := by omega
  have Hb := Lib.hid hb; have Hb_ := Lib.hid hb; have HL := Lib.hid hL; have Hs := Lib.hid hs; have Hz := Lib.hid hz; have Hdd := Lib.hid hdd; have Hr := Lib.hid hr; have HF := Lib.hid hF
  clear hb hL hs hz hdd hr hF
  go_enter Tryz.func188, Tryz.ntmps188
  go_wp2_with fail
  clear hmk
  have Hb0 : Hid (Blk (w.alloc (zrow 3 (.int .i64 0) L)) w.heap.size (cellsN .i64 (frontTo xs 0 L))) := by
    show Blk _ _ _
    rw [frontTo_zero]; exact made_i64 _ _
  go_loopw [9] (fun a wr => ∃ k : Nat, k ≤ L ∧ a = .int .i64 k ∧ Blk wr w.heap.size (cellsN .i64 (frontTo xs k L)) ∧ QZ.Mod (fun _ => False) w wr) (fun a _ => L - (intOf a).toNat)
  case atStart => exact ⟨0, by omega, rfl, Hb0.out, (QZ.Mod.refl _ _).alloc _⟩
  case round =>
    obtain ⟨k, hk, rfl, hb, hm⟩ := hrel
    by_cases hlt : k < L
    · have hkd : k < xs.length := by have := HL.out; omega
      have cx := (Hb.out.mod' hm).cell k
      rw [cellsN_get _ _ _ hkd] at cx
      have hx := small_nth Hs.out k
      have ha : bits .and .u8 (nth xs k : Int) 255 = (nth xs k : Int) := by
        have := (bits_nat .u8 8 (by decide) (fun n h0 h1 => by rw [IntKind.wrap_u8]; omega) (nth xs k) 255 (by simpa using hx) (by decide)).1
        rw [show ((255 : Nat) : Int) = 255 from rfl] at this
        rw [this, show nth xs k &&& 255 = nth xs k from by rw [show (255 : Nat) = 2 ^ 8 - 1 from rfl, Nat.and_two_pow_sub_one_eq_mod]; exact Nat.mod_eq_of_lt hx]
      have hcell := hb.cell k
      rw [cellsN_get _ _ _ (by rw [frontTo_len _ _ _ (by omega) (by omega)]; omega)] at hcell
      have hfr := hb.frozen k
      have hb2 := hb.set k (.int .i64 (nth xs k : Nat))
      rw [cellsN_set, frontTo_succ _ _ _ hkd (by omega)] at hb2
      have hm2 := hm.setCell (p := ⟨w.heap.size, k, none⟩) (.inl (Nat.le_refl _)) (.int .i64 (nth xs k : Nat))
      generalize nth xs k = x at *
      generalize nth (frontTo xs k L) k = old at *
      have Hb2 := Lib.hid hb2
      have Hm2 := Lib.hid hm2
      clear hb2 hm2
      clear hb hm
      go_wp2_with fail
      go_roundw
      case rel => exact ⟨k + 1, by omega, by go_num, Hb2.out, Hm2.out⟩
      case measure => simp [intOf]; omega
    · obtain rfl : k = L := by omega
      have hfull : frontTo xs k k = xs := by
        have := frontTo_all xs k (by have := HL.out; omega)
        rw [HL.out] at this
        rw [this, Nat.sub_self]; simp
      rw [hfull] at hb
      have hTl := hb.lt
      have cd := (Hdd.out.mod' hm).cell 0
      have cr := (Hr.out.mod' hm).cell 0
      have hF2 := HF.out.new hm
      have Hb := Lib.hid hb
      have Hm := Lib.hid hm
      have HF2 := Lib.hid hF2
      clear hb hm hF2
      clear hfull
      go_wp2_with fail
      try rw [hnI]
      refine (rsDec_c wr r F w.heap.size k n xs cr HF2.out Hb.out HL.out Hs.out h0 (by omega) hn Hz.out).mono ?_
      rintro e w2 ⟨rfl, hm2⟩
      have hb2 := Hb.out.mod' hm2
      have hm3 := Hm.out.trans hm2
      have Hb2 := Lib.hid hb2
      have Hm3 := Lib.hid hm3
      clear hb2 hm3
      clear hm2 cd cr
      go_wp2_with fail
      go_loopw [11] (fun a wx => ∃ j : Nat, j ≤ dl ∧ a = .int .i64 j ∧ Blk wx D (cellsN .u8 xs) ∧ QZ.Mod (· = D) w2 wx) (fun a _ => dl - (intOf a).toNat)
      case atStart => exact ⟨0, by omega, rfl, Hb_.out.mod' Hm3.out, QZ.Mod.refl _ _⟩
      case round =>
        obtain ⟨j, hj, rfl, hb5, hm5⟩ := hrel
        by_cases hjl : j < dl
        · have hjd : j < xs.length := by have := HL.out; omega
          have cx := cell_mod hm5 (by omega) ((Hb2.out.cell j).trans (cellsN_get _ _ _ hjd))
          have hx := small_nth Hs.out j
          have cy := hb5.cell j
          rw [cellsN_get _ _ _ hjd] at cy
          have hfr := hb5.frozen j
          have hb6 := hb5.set j (.int .u8 (nth xs j : Nat))
          rw [cellsN_set, show xs.set j (nth xs j) = xs from by
            apply List.ext_getElem (by simp)
            intro i h1 h2
            rw [List.getElem_set]
            split
            · rename_i e; subst e; simp [nth, List.getD_eq_getElem?_getD, hjd]
            · rfl] at hb6
          have hm6 := hm5.setCell (p := ⟨D, j, none⟩) (.inr rfl) (.int .u8 (nth xs j : Nat))
          generalize nth xs j = x at *
          have Hb6 := Lib.hid hb6
          have Hm6 := Lib.hid hm6
          clear hb6 hm6
          clear hb5 hm5
          go_wp2_with fail
          go_roundw
          case rel => exact ⟨j + 1, by omega, by go_num, Hb6.out, Hm6.out⟩
          case measure => simp [intOf]; omega
        · obtain rfl : j = dl := by omega
          have Hb5 := Lib.hid hb5
          have Hm5 := Lib.hid hm5
          clear hb5 hm5
          go_wp2_with fail
          go_ret
          exact ⟨rfl, Hb5.out, (QZ.Mod.none Hm3.out : QZ.Mod (· = D) w w2).trans Hm5.out⟩
end Go.Proofs.YtnpkihobbcglcaaGreatDoor
