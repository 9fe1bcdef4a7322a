/- Part 45 of the proof of FnPXQuick (a QR code that is written for a text says this text in a picture): parts of the road. No condition. -/
import Derived.Test.YtnpkihobbcglcaaGreatDoorG24
import Derived.Test.YtnpkihobbcglcaaGreatDoorG32
import Derived.Test.YtnpkihobbcglcaaGreatDoorG44
/- A QR code's modules, row by row. -/
open Go Go.RowKit
namespace Go.Proofs.YtnpkihobbcglcaaGreatDoor
open Go.QZ

/-- The modules of the symbol that was written. -/
def modF (l v k : Nat) (hb : List Bool) (es : List (List Nat)) (x y : Nat) : Bool := decide (qrF v l k (encB (symW l v hb es)) x y = 1)
def QROut (w : World) (cs : List Nat) (l : Nat) (e : Ending) (w' : World) : Prop :=
  ∃ (v k : Nat) (hb : List Bool) (es : List (List Nat)) (m : Int) (R cap : Nat), e = .returned (.tuple #[.agg #[.int .i64 v, .int .i64 k, .int .i64 l, .int .i64 m, .slice (some ⟨R, 0, none⟩) (17 + 4 * v) cap], .bool true]) ∧ Rows2 w' R (17 + 4 * v) (17 + 4 * v) (modF l v k hb es) ∧ Sym cs l v k hb es ∧ QZ.Mod (fun _ => False) w w'

theorem makeMap_run (w : World) : (Instr.makeMap 40 none).run Tryz.prog w = .ok (.map (some w.heap.size)) (w.alloc (.map #[] 0)) := by
  simp [Instr.makeMap, Result.andThen]

set_option maxRecDepth 20000 in
set_option maxHeartbeats 3200000 in
theorem qrEncode_c (w : World) (s : ByteArray) (hs : s.size ≤ 60) (l : Nat) (hl : l < 4) :
    Calls Tryz.prog 5 #[.string s, .int .i64 l, .int .i64 0, .int .i64 (-1)] w (QROut w (chs s) l) := by
  have hmap : ∀ o, ((w.alloc o).alloc (.map #[] 0)).heap[w.heap.size + 1]? = some (.map #[] 0) := fun o => by
    have := heap_alloc_new (w.alloc o) (.map #[] 0)
    rwa [World.size_alloc] at this
  have hmk := makeMap_run (w.alloc (.cells #[.int .i64 0, .int .i64 0, .int .i64 0, .int .i64 0, .slice none 0 0] 26))
  rw [World.size_alloc] at hmk
  have Hmap := Lib.hid hmap
  clear hmap
  go_enter Tryz.func5, Tryz.ntmps5
  go_wp2_with fail
  clear hmk
  refine (encode_c _ (w.heap.size + 1) (Hmap.out _) s hs l hl).mono ?_
  rintro e w2 ⟨q, pv, T, v, k, hb, es, m, rfl, hqr, hpv, hgm, hsym, hm2⟩
  have hmw := (((QZ.Mod.refl (fun _ => False) w).alloc _).alloc _).trans hm2
  have hv8 := hsym.v8
  have hv1 := hsym.v1
  obtain ⟨d, hd⟩ : ∃ d, 17 + 4 * v = d := ⟨_, rfl⟩
  obtain ⟨F, hF⟩ : ∃ F, qrF v l k (encB (symW l v hb es)) = F := ⟨_, rfl⟩
  rw [hd] at hqr hgm
  rw [hF] at hgm
  have hq0 : w2.cell? ⟨q, 0, none⟩ = some (.int .i64 m) := hqr.at 0 rfl
  have hq1 : w2.cell? ⟨q, 0 + 1, none⟩ = some (.int .i64 l) := hqr.at 1 rfl
  have hq2 : w2.cell? ⟨q, 0 + 2, none⟩ = some (.pointer (some ⟨pv, 0, none⟩)) := hqr.at 2 rfl
  have hq3 : w2.cell? ⟨q, 0 + 3, none⟩ = some (.int .i64 k) := hqr.at 3 rfl
  have hq4 : w2.cell? ⟨q, 0 + 4, none⟩ = some (.pointer (some ⟨T + d + 1, 0, none⟩)) := hqr.at 4 rfl
  have Hqr := Lib.hid hqr
  have Hpv := Lib.hid hpv
  have Hgm := Lib.hid hgm
  have Hsym := Lib.hid hsym
  have Hm2 := Lib.hid hm2
  have Hmw := Lib.hid hmw
  have Hd := Lib.hid hd
  have HF := Lib.hid hF
  have Hq0 := Lib.hid hq0
  have Hq1 := Lib.hid hq1
  have Hq2 := Lib.hid hq2
  have Hq3 := Lib.hid hq3
  have Hq4 := Lib.hid hq4
  clear hqr hpv hgm hsym hm2 hmw hd hF hq0 hq1 hq2 hq3 hq4
  go_wp2_with fail
  refine (QRCode_GetMatrix_c w2 q 0 _ Hq4.out).mono ?_
  rintro e w3 ⟨rfl, rfl⟩
  go_wp2_with fail
  refine (QRCode_GetVersion_c w2 q 0 _ Hq2.out).mono ?_
  rintro e w3 ⟨rfl, rfl⟩
  go_wp2_with fail
  refine (Version_GetVersionNumber_c w2 pv 0 _ Hpv.out).mono ?_
  rintro e w3 ⟨rfl, rfl⟩
  go_wp2_with fail
  refine (QRCode_GetMaskPattern_c w2 q 0 _ Hq3.out).mono ?_
  rintro e w3 ⟨rfl, rfl⟩
  go_wp2_with fail
  refine (QRCode_GetECLevel_c w2 q 0 _ Hq1.out).mono ?_
  rintro e w3 ⟨rfl, rfl⟩
  go_wp2_with fail
  refine (ecBits_c w2 l).mono ?_
  rintro e w3 ⟨rfl, rfl⟩
  go_wp2_with fail
  refine (QRCode_GetMode_c w2 q 0 _ Hq0.out).mono ?_
  rintro e w3 ⟨rfl, rfl⟩
  go_wp2_with fail
  refine (getBits_c w2 _).mono ?_
  rintro e w3 ⟨rfl, rfl⟩
  go_wp2_with fail
  have hZ0 : Blk w2 w.heap.size [.int .i64 0, .int .i64 0, .int .i64 0, .int .i64 0, .slice none 0 0] := (((Blk.new w [.int .i64 0, .int .i64 0, .int .i64 0, .int .i64 0, .slice none 0 0] 26).alloc (.map #[] 0))).mod' Hm2.out
  have hZl := hZ0.lt
  have hO0 := Blk.new w2 [.int .i64 v, .int .i64 k, .int .i64 l, .int .i64 m, .slice none 0 0] 26
  have hmO := (QZ.Mod.refl (fun j => w2.heap.size ≤ j) w2).alloc (.cells #[.int .i64 v, .int .i64 k, .int .i64 l, .int .i64 m, .slice none 0 0] 26)
  have hTl := Hgm.out.head.lt
  have hd1 : 0 < d := by have := Hd.out; omega
  have hd2 : d ≤ 45 := by have := Hd.out; omega
  have hsO := World.size_alloc w2 (.cells #[.int .i64 v, .int .i64 k, .int .i64 l, .int .i64 m, .slice none 0 0] 26)
  obtain ⟨O, hO⟩ : ∃ O, w2.heap.size = O := ⟨_, rfl⟩
  rw [hO] at hO0 hmO hTl hZl hsO ⊢
  have HZ0 := Lib.hid hZ0
  have HO0 := Lib.hid hO0
  have HmO := Lib.hid hmO
  have HsO := Lib.hid hsO
  clear hZ0 hO0 hmO hsO
  go_loopw [15, 16, 17] (fun a _ _ wr => ∃ (i : Nat) (vv : Value) (us : List Value), i ≤ d ∧ a = .int .i64 i ∧ Rowed (O + 1) d (fun x y => decide (F x y = 1)) i vv us wr ∧ Blk wr O [.int .i64 v, .int .i64 k, .int .i64 l, .int .i64 m, vv] ∧ QZ.Mod (fun j => O ≤ j) w2 wr ∧ O < wr.heap.size) (fun a _ _ _ => d - (intOf a).toNat)
  case atStart => exact ⟨0, _, [], by omega, rfl, Rowed.start _ _ _ _, HO0.out, HmO.out, by rw [HsO.out]; omega⟩
  case round =>
    obtain ⟨i, vv, us, hi, rfl, hrow, hbO, hm, hOl⟩ := hrel
    have hgw := Hgm.out.mod hm (by intro j h1 h2; omega)
    have hh2 : wr.cell? ⟨T + d + 1, 0 + 2, none⟩ = some (.int .i64 d) := hgw.c2
    have hh1 : wr.cell? ⟨T + d + 1, 0 + 1, none⟩ = some (.int .i64 d) := hgw.c1
    by_cases hlt : i < d
    · have hmk2 := make_run (P := Tryz.prog) Tryz.underlying56 i4 rfl (d : Int) (d : Int) d d rfl rfl (Nat.le_refl _) (by omega) (by omega)
      have hG0 := Blk.made wr 4 (.bool false) d
      rw [← cellsB_zero (fun x => decide (F x i = 1))] at hG0
      have hmG := (QZ.Mod.refl (fun k => k = wr.heap.size) wr).alloc (zrow 4 (.bool false) d)
      have Hrow := Lib.hid hrow
      have HbO := Lib.hid hbO
      have Hm := Lib.hid hm
      have Hgw := Lib.hid hgw
      have Hh2 := Lib.hid hh2
      have Hh1 := Lib.hid hh1
      have HG0 := Lib.hid hG0
      have HmG := Lib.hid hmG
      clear hrow hbO hm hgw hh2 hh1 hG0 hmG
      go_wp2_with fail
      refine (ByteMatrix_GetHeight_c wr (T + d + 1) 0 _ Hh2.out).mono ?_
      rintro e w3 ⟨rfl, rfl⟩
      go_wp2_with fail
      refine (ByteMatrix_GetWidth_c wr (T + d + 1) 0 _ Hh1.out).mono ?_
      rintro e w3 ⟨rfl, rfl⟩
      go_wp2_with fail
      clear hmk2
      generalize decide ((i : Int) < (d : Int)) = bb
      obtain ⟨wo, hwo⟩ : ∃ wo : World, wo = wr := ⟨_, rfl⟩
      subst hwo
      obtain ⟨G, hG⟩ : ∃ G, wo.heap.size = G := ⟨_, rfl⟩
      rw [hG] at HG0 HmG ⊢
      have HG := Lib.hid hG
      clear hG
      go_loopw [64, 17] (fun a _ w4 => ∃ j : Nat, j ≤ d ∧ a = .int .i64 j ∧ Blk w4 G (cellsB (fun x => decide (F x i = 1)) d j) ∧ QZ.Mod (fun k => k = G) wo w4) (fun a _ _ => d - (intOf a).toNat)
      case atStart => exact ⟨0, by omega, rfl, HG0.out, HmG.out⟩
      case round =>
        obtain ⟨j, hj, rfl, hbG, hmj⟩ := hrel
        by_cases hjl : j < d
        · have hgj := Hgw.out.mod hmj (by intro q h1 h2; have := HG.out; omega)
          obtain ⟨b, hb⟩ : ∃ b, decide (F j i = 1) = b := ⟨_, rfl⟩
          have t1 : (F j i == 1) = b := by rw [← hb]; rfl
          have hcell := hbG.cell j
          rw [cellsB_get _ _ _ _ hjl] at hcell
          have hfr := hbG.frozen j
          have hb5 := hbG.set j (.bool (decide (F j i = 1)))
          rw [cellsB_set (fun x => decide (F x i = 1)), hb] at hb5
          have hm5 := hmj.setCell (p := ⟨G, j, none⟩) (.inr rfl) (.bool b)
          generalize (if j < j then decide (F j i = 1) else false) = old at *
          have Hgj := Lib.hid hgj
          have Hb5 := Lib.hid hb5
          have Hm5 := Lib.hid hm5
          clear hgj hb5 hm5
          clear hbG hmj
          go_wp2_with fail
          refine (gmGet_c _ T d F Hgj.out (T + d + 1) rfl j i (by omega) (by omega) (by omega) (by omega)).mono ?_
          rintro e w9 ⟨rfl, rfl⟩
          rw [show ((j : Int).toNat) = j from rfl, show ((i : Int).toNat) = i from rfl]
          go_wp2_with fail
          go_roundw
          case rel => exact ⟨j + 1, by omega, by go_num, Hb5.out, Hm5.out⟩
          case measure => simp [intOf] <;> omega
        · obtain rfl : d = j := by omega
          have hrow4 := Hrow.out.mod hmj (by intro q hq; right; have := HG.out; omega)
          have hbO4 := hmj.blk (show ¬ O = G by have := HG.out; omega) HbO.out
          have hmO4 : QZ.Mod (fun j => O ≤ j) w2 wr := Hm.out.trans (hmj.mono (fun q _ hq => by have := HG.out; omega))
          have c4 := hbO4.cell 4
          have hs4 := hmj.size
          have hsz5 := World.size_alloc wr (.cells #[.slice (some ⟨G, 0, none⟩) d d] 56)
          have ho5 := hrow4.2.1.alloc (.cells #[.slice (some ⟨G, 0, none⟩) d d] 56)
          have hGl : G < wr.heap.size := hbG.lt
          have hN5 : O + 1 ≤ (wr.alloc (.cells #[.slice (some ⟨G, 0, none⟩) d d] 56)).heap.size := by rw [hsz5]; omega
          have hmA := (QZ.Mod.refl (fun _ => False) wr).alloc (.cells #[.slice (some ⟨G, 0, none⟩) d d] 56)
          have hnews : ∀ j u, [Value.slice (some ⟨G, 0, none⟩) d d][j]? = some u → (wr.alloc (.cells #[.slice (some ⟨G, 0, none⟩) d d] 56)).cell? ((⟨wr.heap.size, 0, none⟩ : Addr).add j) = some u := by
            intro j u hu
            rw [Addr.add_lit, Nat.zero_add, (Blk.new wr [.slice (some ⟨G, 0, none⟩) d d] 56).cell]; exact hu
          have hone : ∀ u ∈ [Value.slice (some ⟨G, 0, none⟩) d d], u.oneCell' = true := by intro u hu; rw [List.mem_singleton.1 hu]; rfl
          have hfew : us.length + 1 ≤ 1000000 := by have := hrow4.1; omega
          have hrowat : RowAt (O + 1) (wr.alloc (.cells #[.slice (some ⟨G, 0, none⟩) d d] 56)) (.slice (some ⟨G, 0, none⟩) d d) d (fun x => decide (F x i = 1)) :=
            ⟨G, d, rfl, fun x hx => by rw [(hbG.mod' hmA).cell, cellsB_get _ _ _ _ hx, if_pos hx], by have := HG.out; omega, by rw [hsz5]; omega⟩
          have hown := hrow4.2.1.block
          have hownG : vv.ownBlock ≠ some G := fun e => by have := Hrow.out.2.1.block _ e; have := HG.out; omega
          have hownO : vv.ownBlock ≠ some O := fun e => by have := hown _ e; omega
          have hstep : ∀ v7 w7, Own w7 (O + 1) 56 v7 (us ++ [.slice (some ⟨G, 0, none⟩) d d]) → QZ.Mod (fun k => vv.ownBlock = some k) (wr.alloc (.cells #[.slice (some ⟨G, 0, none⟩) d d] 56)) w7 → Rowed (O + 1) d (fun x y => decide (F x y = 1)) (i + 1) v7 (us ++ [.slice (some ⟨G, 0, none⟩) d d]) w7 := fun v7 w7 h1 h2 =>
            (hrow4.mod hmA (fun _ f => f.elim)).step hd1 hrowat (fun G' c e => by injection e with e1 _ _; injection e1 with e1; injection e1 with e1; rw [← e1]; exact hownG) h1 h2
          have hbO7 : ∀ w7, QZ.Mod (fun k => vv.ownBlock = some k) (wr.alloc (.cells #[.slice (some ⟨G, 0, none⟩) d d] 56)) w7 → Blk w7 O [.int .i64 v, .int .i64 k, .int .i64 l, .int .i64 m, vv] := fun w7 h => (hbO4.mod' hmA).keep h hownO
          have hmO7 : ∀ w7, QZ.Mod (fun k => vv.ownBlock = some k) (wr.alloc (.cells #[.slice (some ⟨G, 0, none⟩) d d] 56)) w7 → QZ.Mod (fun j => O ≤ j) w2 w7 := fun w7 h => (mod_from0 hmO4 hmA).trans (h.mono (fun q _ hq => by have := hown q hq; omega))
          clear hrow4 hmO4 hrowat hown hmA hbG hmj
          have HbO4 := Lib.hid hbO4
          have Ho5 := Lib.hid ho5
          have HN5 := Lib.hid hN5
          have Hnews := Lib.hid hnews
          have Hone := Lib.hid hone
          have Hfew := Lib.hid hfew
          have Hstep := Lib.hid hstep
          have HbO7 := Lib.hid hbO7
          have HmO7 := Lib.hid hmO7
          have Hsz5 := Lib.hid hsz5
          clear hbO4 ho5 hN5 hnews hone hfew hstep hbO7 hmO7 hsz5
          go_wp2_with (at_builtin; refine wpList_app rfl (.tmp 77) (.tmp 79) 24 rfl (O + 1) 56 (.slice none 0 0) 24 Tryz.underlying24 i56 rfl _ us rfl Ho5.out ⟨wr.heap.size, 0, none⟩ 1 1 [.slice (some ⟨G, 0, none⟩) d d] rfl rfl Hnews.out Hone.out Hfew.out (by decide) HN5.out ?_; intro v7 w7 ho7 hm7 hv7; clear c4; obtain ⟨g7, cap7, hv7e⟩ := own_shape ho7; subst hv7e; have cO := (HbO7.out w7 hm7.out).cell 4; have fO := (HbO7.out w7 hm7.out).frozen 4)
          have hb8 := (HbO7.out w7 hm7.out).set 4 (.slice (some ⟨g7, 0, none⟩) (us.length + 1) cap7)
          simp only [List.set_cons_zero, List.set_cons_succ] at hb8
          have hset := (QZ.Mod.refl (fun q => q = O) w7).setCell (p := ⟨O, 4, none⟩) (.inr rfl) (.slice (some ⟨g7, 0, none⟩) (us.length + 1) cap7)
          have hrow8 := (Hstep.out _ w7 ho7.out hm7.out).mod hset (fun q hq => .inl (by omega))
          have hm8 := (HmO7.out w7 hm7.out).trans (hset.mono (fun q _ hq => by omega))
          have hsz8 := hm8.size
          have hl8 : O < (w7.setCell ⟨O, 4, none⟩ (.slice (some ⟨g7, 0, none⟩) (us.length + 1) cap7)).heap.size := hb8.lt
          go_roundw
          case rel => exact ⟨i + 1, _, _, by omega, by go_num, hrow8, hb8, hm8, hl8⟩
          case measure => simp [intOf] <;> omega
    · obtain rfl : d = i := by omega
      obtain ⟨R, cap, rfl, hrows, hRb, _⟩ := hrow.rows2 hd1
      have hZ := hm.blk (show ¬ O ≤ w.heap.size by omega) HZ0.out
      have c0 := hbO.cell 0
      have c1 := hbO.cell 1
      have c2 := hbO.cell 2
      have c3 := hbO.cell 3
      have c4 := hbO.cell 4
      have z0 := hZ.cell 0
      have z1 := hZ.cell 1
      have z2 := hZ.cell 2
      have z3 := hZ.cell 3
      have z4 := hZ.cell 4
      have y0 := hZ.frozen 0
      have y1 := hZ.frozen 1
      have y2 := hZ.frozen 2
      have y3 := hZ.frozen 3
      have y4 := hZ.frozen 4
      have Hrow := Lib.hid hrow
      have Hrows := Lib.hid hrows
      have HRb := Lib.hid hRb
      have HbO := Lib.hid hbO
      have Hm := Lib.hid hm
      have Hgw := Lib.hid hgw
      have HZ := Lib.hid hZ
      have Hh2 := Lib.hid hh2
      have Hh1 := Lib.hid hh1
      clear hrow hrows hRb hbO hm hgw hZ hh2 hh1
      go_wp2_with fail
      refine (ByteMatrix_GetHeight_c wr (T + d + 1) 0 _ Hh2.out).mono ?_
      rintro e w3 ⟨rfl, rfl⟩
      go_wp2_with fail
      have hZ5 := ((((HZ.out.set 0 (.int .i64 v)).set 1 (.int .i64 k)).set 2 (.int .i64 l)).set 3 (.int .i64 m)).set 4 (.slice (some ⟨R, 0, none⟩) d cap)
      simp only [List.set_cons_zero, List.set_cons_succ] at hZ5
      have hmZ := (((((QZ.Mod.refl (fun q => q = w.heap.size) wr).setCell (p := ⟨w.heap.size, 0, none⟩) (.inr rfl) (.int .i64 v)).setCell (p := ⟨w.heap.size, 1, none⟩) (.inr rfl) (.int .i64 k)).setCell (p := ⟨w.heap.size, 2, none⟩) (.inr rfl) (.int .i64 l)).setCell (p := ⟨w.heap.size, 3, none⟩) (.inr rfl) (.int .i64 m)).setCell (p := ⟨w.heap.size, 4, none⟩) (.inr rfl) (.slice (some ⟨R, 0, none⟩) d cap)
      clear c0 c1 c2 c3 c4 z0 z1 z2 z3 z4 y0 y1 y2 y3 y4
      generalize (((((wr.setCell ⟨w.heap.size, 0, none⟩ (.int .i64 v)).setCell ⟨w.heap.size, 1, none⟩ (.int .i64 k)).setCell ⟨w.heap.size, 2, none⟩ (.int .i64 l)).setCell ⟨w.heap.size, 3, none⟩ (.int .i64 m)).setCell ⟨w.heap.size, 4, none⟩ (.slice (some ⟨R, 0, none⟩) d cap)) = w5 at *
      have e0 := hZ5.cell 0
      have e1 := hZ5.cell 1
      have e2 := hZ5.cell 2
      have e3 := hZ5.cell 3
      have e4 := hZ5.cell 4
      have HZ5 := Lib.hid hZ5
      have HmZ := Lib.hid hmZ
      clear hZ5 hmZ
      (try simp only [Exit.inBlock, Exit.then])
      refine bodyPost_ret (v := .tuple #[.agg #[.int .i64 v, .int .i64 k, .int .i64 l, .int .i64 m, .slice (some ⟨R, 0, none⟩) d cap], .bool true]) (by rw [results_cell_tmp rfl]; go_simp) rfl ?_
      have hrowsZ : Rows2 w5 R d d (fun x y => decide (F x y = 1)) := by
        have hO1 := HRb.out
        obtain ⟨R', c, hv, hr, _, _⟩ := (Hrow.out.mod HmZ.out (fun q hq => .inl (by omega))).rows2 hd1
        injection hv with a1 a2 a3
        injection a1 with a1
        injection a1 with a1
        rw [a1]; exact hr
      have hdE := Hd.out
      subst hdE
      refine ⟨v, k, hb, es, m, R, cap, rfl, ?_, Hsym.out, ?_⟩
      · show Rows2 w5 R (17 + 4 * v) (17 + 4 * v) (fun x y => decide (qrF v l k (encB (symW l v hb es)) x y = 1))
        rw [HF.out]; exact hrowsZ
      · exact mod_end (mod_from (mod_from (mod_from0 (mod_start w.heap.size w) Hmw.out) Hm.out (fun q hq => by omega)) HmZ.out (fun q hq => by omega))
end Go.Proofs.YtnpkihobbcglcaaGreatDoor
