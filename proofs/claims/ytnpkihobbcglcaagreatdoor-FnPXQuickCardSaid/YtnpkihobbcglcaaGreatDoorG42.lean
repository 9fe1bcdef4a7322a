/- Part 42 of the proof of FnPXQuick (a QR code that is written for a text says this text in a picture): parts of the road. No condition. -/
import Derived.Laws.ResultCell
import Derived.Test.YtnpkihobbcglcaaGreatDoorG41
/- What the decoder says, handed on; a symbol's modules decoded. -/
open Go Go.RowKit
namespace Go.Proofs.YtnpkihobbcglcaaGreatDoor
open Go.QZ

/-- What is handed on. -/
def DecVal (s : ByteArray) (e : Ending) : Prop := ∃ (A1 : Option Addr) (n1 c1 : Nat) (A2 : Option Addr) (n2 c2 : Nat) (lv : ByteArray), e = .returned (.tuple #[.agg #[.string s, .slice A1 n1 c1, .slice A2 n2 c2, .string lv, .int .i64 0, .int .i64 (-1), .int .i64 (-1), .int .i64 1], .bool true])

/-- The bytes of a block, as a list of values. -/
theorem news_of {w : World} {D N : Nat} (h : ∀ j, j < N → ∃ b : Nat, w.cell? ⟨D, j, none⟩ = some (.int .u8 b)) : ∃ news : List Value, news.length = N ∧ (∀ j u, news[j]? = some u → w.cell? ((⟨D, 0, none⟩ : Addr).add j) = some u) ∧ ∀ u ∈ news, u.oneCell' = true := by
  refine ⟨(List.range N).map fun j => (w.cell? ⟨D, j, none⟩).getD .nilIface, by simp, fun j u hu => ?_, fun u hu => ?_⟩
  · rw [List.getElem?_map] at hu
    by_cases hj : j < N
    · rw [List.getElem?_range hj] at hu
      obtain ⟨b, hb⟩ := h j hj
      rw [Addr.add_lit, Nat.zero_add]
      simp only [Option.map_some, Option.some.injEq] at hu
      rw [hb] at hu ⊢
      rw [← hu]; rfl
    · rw [List.getElem?_eq_none (by rw [List.length_range]; omega)] at hu
      cases hu
  · obtain ⟨j, hj, rfl⟩ := List.mem_map.1 hu
    obtain ⟨b, hb⟩ := h j (List.mem_range.1 hj)
    rw [hb]; rfl

/-- The list of segments that is handed on. -/
def SegSt (w0 : World) (k : Nat) (v : Value) (wr : World) : Prop := ∃ (A : Option Addr) (n c : Nat), .slice A n c = v ∧ (k = 0 → v = .slice none 0 0 ∧ wr = w0) ∧ QZ.Mod (fun _ => False) w0 wr

set_option maxRecDepth 20000 in
set_option maxHeartbeats 3200000 in
theorem decoded_c (w : World) (s lv : ByteArray) (res D N cap : Nat) (sg : Value) (hb : Blk w res [.slice (some ⟨D, 0, none⟩) N cap, .int .i64 (8 * N : Nat), .string s, sg, .string lv, .int .i64 0, .int .i64 0, .nilIface, .int .i64 (-1), .int .i64 (-1), .int .i64 1]) (hsg : SegsOK 0 w sg) (hD : ∀ j, j < N → ∃ b : Nat, w.cell? ⟨D, j, none⟩ = some (.int .u8 b)) (hN1 : 1 ≤ N) (hN : N ≤ 1000) :
    Calls Tryz.prog 28 #[.pointer (some ⟨res, 0, none⟩), .nilIface] w fun e w' => DecVal s e ∧ QZ.Mod (fun _ => False) w w' := by
  have hc : ∀ w', QZ.Mod (fun _ => False) w w' → Blk w' res [.slice (some ⟨D, 0, none⟩) N cap, .int .i64 (8 * N : Nat), .string s, sg, .string lv, .int .i64 0, .int .i64 0, .nilIface, .int .i64 (-1), .int .i64 (-1), .int .i64 1] := fun w' hm => hb.mod' hm
  have hsg' : ∀ w', QZ.Mod (fun _ => False) w w' → SegsOK 0 w' sg := fun w' hm => hsg.old hm (fun _ _ _ f => f)
  have hD' : ∀ w', QZ.Mod (fun _ => False) w w' → ∀ j, j < N → ∃ b : Nat, w'.cell? ⟨D, j, none⟩ = some (.int .u8 b) := fun w' hm j hj => (hD j hj).imp fun b h => cell_mod hm (fun f => f) h
  have Hal := Lib.hid (fun o => (QZ.Mod.refl (fun _ => False) w).alloc o)
  have Hc := Lib.hid hc
  have Hsg' := Lib.hid hsg'
  have HD' := Lib.hid hD'
  clear hc hsg' hD'
  clear hb hsg hD
  go_enter Tryz.func28, Tryz.ntmps28
  go_wp2_with fail
  refine (DecoderResult_GetByteSegments_c _ res 0 sg ((Hc.out _ (Hal.out _)).at 3 rfl)).mono ?_
  rintro e w1 ⟨rfl, rfl⟩
  have hZ := Blk.new w [.string ⟨#[]⟩, .slice none 0 0, .slice none 0 0, .string ⟨#[]⟩, .int .i64 0, .int .i64 0, .int .i64 0, .int .i64 0] 35
  have hm1 := Hal.out (.cells #[.string ⟨#[]⟩, .slice none 0 0, .slice none 0 0, .string ⟨#[]⟩, .int .i64 0, .int .i64 0, .int .i64 0, .int .i64 0] 35)
  obtain ⟨z, hz⟩ : ∃ z, w.heap.size = z := ⟨_, rfl⟩
  rw [hz] at hZ ⊢
  have hwz : w.heap.size ≤ z := by omega
  generalize w.alloc (.cells #[.string ⟨#[]⟩, .slice none 0 0, .slice none 0 0, .string ⟨#[]⟩, .int .i64 0, .int .i64 0, .int .i64 0, .int .i64 0] 35) = w1 at *
  have hsg1 := Hsg'.out w1 hm1
  have Hm1 := Lib.hid hm1
  have HZ := Lib.hid hZ
  clear hZ Hal Hsg' hm1 hz
  rcases hsg1 with ⟨a, c, rfl⟩ | ⟨S, sc, X, c, rfl, h2, h3, h4, h5, -, -⟩
  · have Hsg := Lib.hid True.intro
    go_wp2_with fail
    go_loopw [6, 8, 15] (fun a _ i wr => i = .int .i64 0 ∧ SegSt w1 0 a wr) (fun _ _ _ _ => 0)
    case atStart => exact ⟨rfl, none, 0, 0, rfl, fun _ => ⟨rfl, rfl⟩, QZ.Mod.refl _ _⟩
    case round =>
      obtain ⟨rfl, hst⟩ := hrel
      obtain ⟨A, n, c, rfl, -, hm2⟩ := hst
      have hm02 := Hm1.out.trans hm2
      have hb2 := Hc.out wr hm02
      have hZ2 := HZ.out.mod' hm2
      obtain ⟨news, hn1, hn2, hn3⟩ := news_of (HD'.out wr hm02)
      have Hm02 := Lib.hid hm02
      have Hb2 := Lib.hid hb2
      have HZ2 := Lib.hid hZ2
      have Hn1 := Lib.hid hn1
      have Hn2 := Lib.hid hn2
      have Hn3 := Lib.hid hn3
      clear hm02 hb2 hZ2 hn1 hn2 hn3
      clear hm2
      go_wp2_with fail
      refine (DecoderResult_GetText_c wr res 0 (.string s) (Hb2.out.at 2 rfl)).mono ?_
      rintro e w3 ⟨rfl, rfl⟩
      go_wp2_with fail
      refine (DecoderResult_GetRawBytes_c wr res 0 (.slice (some ⟨D, 0, none⟩) N cap) (Hb2.out.at 0 rfl)).mono ?_
      rintro e w3 ⟨rfl, rfl⟩
      go_wp2_with (at_builtin; refine hold ?_)
      refine wpList_app rfl (.const (.slice none 0 0)) (.tmp 28) 32 rfl wr.heap.size 5 (.int .u8 0) 1 Tryz.underlying32 i32 rfl (.slice none 0 0) [] rfl (Own.start wr wr.heap.size 5) ⟨D, 0, none⟩ cap N news rfl Hn1.out Hn2.out Hn3.out (by rw [List.length_nil]; omega) (by decide) (Nat.le_refl _) ?_
      intro v7 w7 ho7 hm7 hv7
      have hm07 := Hm02.out.then hm7.out (fun k _ f => by simp [Value.ownBlock] at f)
      have hb7 := Hc.out w7 hm07
      have hZ7 := hm7.out.blk (fun f => by simp [Value.ownBlock] at f) HZ2.out
      obtain ⟨g7, cap7, rfl, -, -, -, -⟩ := ho7.out.full (by rw [List.nil_append, Hn1.out]; exact hN1)
      obtain ⟨N7, hN7⟩ : ∃ N7, ([] ++ news).length = N7 := ⟨_, rfl⟩
      rw [hN7]
      have z0 := hZ7.cell 0
      have z1 := hZ7.cell 1
      have z2 := hZ7.cell 2
      have z3 := hZ7.cell 3
      have z4 := hZ7.cell 4
      have z5 := hZ7.cell 5
      have z6 := hZ7.cell 6
      have z7 := hZ7.cell 7
      have y0 := hZ7.frozen 0
      have y1 := hZ7.frozen 1
      have y2 := hZ7.frozen 2
      have y3 := hZ7.frozen 3
      have y4 := hZ7.frozen 4
      have y5 := hZ7.frozen 5
      have y6 := hZ7.frozen 6
      have y7 := hZ7.frozen 7
      have hZE := (((((((hZ7.set 0 (.string s)).set 1 (.slice (some ⟨g7, 0, none⟩) N7 cap7)).set 2 (.slice A n c)).set 3 (.string lv)).set 4 (.int .i64 0)).set 5 (.int .i64 (-1))).set 6 (.int .i64 (-1))).set 7 (.int .i64 1)
      simp only [List.set_cons_zero, List.set_cons_succ] at hZE
      have hmZ := ((((((((hm07.setCell (p := ⟨z, 0, none⟩) (.inl hwz) (.string s)).setCell (p := ⟨z, 1, none⟩) (.inl hwz) (.slice (some ⟨g7, 0, none⟩) N7 cap7)).setCell (p := ⟨z, 2, none⟩) (.inl hwz) (.slice A n c)).setCell (p := ⟨z, 3, none⟩) (.inl hwz) (.string lv)).setCell (p := ⟨z, 4, none⟩) (.inl hwz) (.int .i64 0)).setCell (p := ⟨z, 5, none⟩) (.inl hwz) (.int .i64 (-1))).setCell (p := ⟨z, 6, none⟩) (.inl hwz) (.int .i64 (-1))).setCell (p := ⟨z, 7, none⟩) (.inl hwz) (.int .i64 1))
      have Hb7 := Lib.hid hb7
      have HZE := Lib.hid hZE
      have HmZ := Lib.hid hmZ
      clear hb7 hZE hmZ
      clear hv7 ho7 hm7 hZ7 hm07 hN7
      go_wp2_with fail
      refine (DecoderResult_GetECLevel_c w7 res 0 (.string lv) (Hb7.out.at 4 rfl)).mono ?_
      rintro e w8 ⟨rfl, rfl⟩
      go_wp2_with fail
      refine (DecoderResult_GetErrorsCorrected_c w7 res 0 (.int .i64 0) (Hb7.out.at 5 rfl)).mono ?_
      rintro e w8 ⟨rfl, rfl⟩
      go_wp2_with fail
      refine (DecoderResult_GetStructuredAppendSequenceNumber_c w7 res 0 (.int .i64 (-1)) (Hb7.out.at 9 rfl)).mono ?_
      rintro e w8 ⟨rfl, rfl⟩
      go_wp2_with fail
      refine (DecoderResult_GetStructuredAppendParity_c w7 res 0 (.int .i64 (-1)) (Hb7.out.at 8 rfl)).mono ?_
      rintro e w8 ⟨rfl, rfl⟩
      go_wp2_with fail
      refine (DecoderResult_GetSymbologyModifier_c w7 res 0 (.int .i64 1) (Hb7.out.at 10 rfl)).mono ?_
      rintro e w8 ⟨rfl, rfl⟩
      go_wp2_with fail
      have HZF := HZE
      generalize ((((((((w7.setCell ⟨z, 0, none⟩ (.string s)).setCell ⟨z, 1, none⟩ (.slice (some ⟨g7, 0, none⟩) N7 cap7)).setCell ⟨z, 2, none⟩ (.slice A n c)).setCell ⟨z, 3, none⟩ (.string lv)).setCell ⟨z, 4, none⟩ (.int .i64 0)).setCell ⟨z, 5, none⟩ (.int .i64 (-1))).setCell ⟨z, 6, none⟩ (.int .i64 (-1))).setCell ⟨z, 7, none⟩ (.int .i64 1)) = w9 at *
      have e0 := HZF.out.cell 0
      have e1 := HZF.out.cell 1
      have e2 := HZF.out.cell 2
      have e3 := HZF.out.cell 3
      have e4 := HZF.out.cell 4
      have e5 := HZF.out.cell 5
      have e6 := HZF.out.cell 6
      have e7 := HZF.out.cell 7
      clear z0 z1 z2 z3 z4 z5 z6 z7 y0 y1 y2 y3 y4 y5 y6 y7
      (try simp only [Exit.inBlock, Exit.then])
      refine bodyPost_ret (v := .tuple #[.agg #[.string s, .slice (some ⟨g7, 0, none⟩) N7 cap7, .slice A n c, .string lv, .int .i64 0, .int .i64 (-1), .int .i64 (-1), .int .i64 1], .bool true]) (by rw [results_cell_tmp rfl]; go_simp) rfl ?_
      exact ⟨⟨_, _, _, _, _, _, _, rfl⟩, HmZ.out⟩
  · have Hseg := Lib.hid (show True from trivial)
    have HS := Lib.hid h2
    have HX := Lib.hid h3
    clear h2 h3
    go_wp2_with fail
    go_loopw [6, 8, 15] (fun a _ i wr => ∃ k : Nat, k ≤ 1 ∧ i = .int .i64 k ∧ SegSt w1 k a wr) (fun _ _ i _ => 1 - (intOf i).toNat)
    case atStart => exact ⟨0, by omega, rfl, none, 0, 0, rfl, fun _ => ⟨rfl, rfl⟩, QZ.Mod.refl _ _⟩
    case round =>
      obtain ⟨k, hk, rfl, hst⟩ := hrel
      by_cases hk0 : k = 0
      · subst hk0
        obtain ⟨A, n, c', -, h0, -⟩ := hst
        obtain ⟨rfl, rfl⟩ := h0 rfl
        obtain ⟨news, hn1, hn2, hn3⟩ := news_of HX.out
        have cS := HS.out
        have Hn1 := Lib.hid hn1
        have Hn2 := Lib.hid hn2
        have Hn3 := Lib.hid hn3
        clear hn1 hn2 hn3
        go_wp2_with (at_builtin; refine hold ?_)
        refine wpList_app rfl (.const (.slice none 0 0)) (.tmp 20) 32 rfl wr.heap.size 5 (.int .u8 0) 1 Tryz.underlying32 i32 rfl (.slice none 0 0) [] rfl (Own.start wr wr.heap.size 5) ⟨X, 0, none⟩ c c news rfl Hn1.out Hn2.out Hn3.out (by rw [List.length_nil]; omega) (by decide) (Nat.le_refl _) ?_
        intro v7 w7 ho7 hm7 hv7
        obtain ⟨g7, cap7, rfl, -, -, -, -⟩ := ho7.out.full (by rw [List.nil_append, Hn1.out]; exact h4)
        obtain ⟨N7, hN7⟩ : ∃ N7, ([] ++ news).length = N7 := ⟨_, rfl⟩
        rw [hN7]
        have hm17 : QZ.Mod (fun _ => False) wr w7 := hm7.out.mono (fun k _ f => by simp [Value.ownBlock] at f)
        have hm18 := hm17.alloc (.cells #[.slice (some ⟨g7, 0, none⟩) N7 cap7] 32)
        have hnews2 : ∀ j u, [Value.slice (some ⟨g7, 0, none⟩) N7 cap7][j]? = some u → (w7.alloc (.cells #[.slice (some ⟨g7, 0, none⟩) N7 cap7] 32)).cell? ((⟨w7.heap.size, 0, none⟩ : Addr).add j) = some u := by
          intro j u hu
          rw [Addr.add_lit, Nat.zero_add, (Blk.new w7 [.slice (some ⟨g7, 0, none⟩) N7 cap7] 32).cell]; exact hu
        have hone2 : ∀ u ∈ [Value.slice (some ⟨g7, 0, none⟩) N7 cap7], u.oneCell' = true := by intro u hu; rw [List.mem_singleton.1 hu]; rfl
        have Hm18 := Lib.hid hm18
        have Hnews2 := Lib.hid hnews2
        have Hone2 := Lib.hid hone2
        clear hm18 hnews2 hone2
        clear ho7 hm7 hv7 hN7 hm17 cS
        go_wp2_with (at_builtin; refine hold ?_)
        refine wpList_app rfl (.tmp 19) (.tmp 22) 33 rfl (w7.alloc (.cells #[.slice (some ⟨g7, 0, none⟩) N7 cap7] 32)).heap.size 32 (.slice none 0 0) 24 Tryz.underlying33 i32' rfl (.slice none 0 0) [] rfl (Own.start _ _ 32) ⟨w7.heap.size, 0, none⟩ 1 1 [.slice (some ⟨g7, 0, none⟩) N7 cap7] rfl rfl Hnews2.out Hone2.out (by simp) (by decide) (Nat.le_refl _) ?_
        intro v9 w9 ho9 hm9 hv9
        obtain ⟨g9, cap9, rfl, -, -, -, -⟩ := ho9.out.full (by simp)
        have hm19 : QZ.Mod (fun _ => False) wr w9 := Hm18.out.trans (hm9.out.mono (fun k _ f => by simp [Value.ownBlock] at f))
        have Hm19 := Lib.hid hm19
        clear hm19
        clear ho9 hm9 hv9
        go_wp2_with fail
        go_roundw
        case rel => exact ⟨1, by omega, by go_num, _, _, _, rfl, fun h => absurd h (by decide), Hm19.out⟩
        case measure => simp [intOf] <;> omega
      · obtain rfl : k = 1 := by omega
        obtain ⟨A, n, c, rfl, -, hm2⟩ := hst
        have hm02 := Hm1.out.trans hm2
        have hb2 := Hc.out wr hm02
        have hZ2 := HZ.out.mod' hm2
        obtain ⟨news, hn1, hn2, hn3⟩ := news_of (HD'.out wr hm02)
        have Hm02 := Lib.hid hm02
        have Hb2 := Lib.hid hb2
        have HZ2 := Lib.hid hZ2
        have Hn1 := Lib.hid hn1
        have Hn2 := Lib.hid hn2
        have Hn3 := Lib.hid hn3
        clear hm02 hb2 hZ2 hn1 hn2 hn3
        clear hm2
        go_wp2_with fail
        refine (DecoderResult_GetText_c wr res 0 (.string s) (Hb2.out.at 2 rfl)).mono ?_
        rintro e w3 ⟨rfl, rfl⟩
        go_wp2_with fail
        refine (DecoderResult_GetRawBytes_c wr res 0 (.slice (some ⟨D, 0, none⟩) N cap) (Hb2.out.at 0 rfl)).mono ?_
        rintro e w3 ⟨rfl, rfl⟩
        go_wp2_with (at_builtin; refine hold ?_)
        refine wpList_app rfl (.const (.slice none 0 0)) (.tmp 28) 32 rfl wr.heap.size 5 (.int .u8 0) 1 Tryz.underlying32 i32 rfl (.slice none 0 0) [] rfl (Own.start wr wr.heap.size 5) ⟨D, 0, none⟩ cap N news rfl Hn1.out Hn2.out Hn3.out (by rw [List.length_nil]; omega) (by decide) (Nat.le_refl _) ?_
        intro v7 w7 ho7 hm7 hv7
        have hm07 := Hm02.out.then hm7.out (fun k _ f => by simp [Value.ownBlock] at f)
        have hb7 := Hc.out w7 hm07
        have hZ7 := hm7.out.blk (fun f => by simp [Value.ownBlock] at f) HZ2.out
        obtain ⟨g7, cap7, rfl, -, -, -, -⟩ := ho7.out.full (by rw [List.nil_append, Hn1.out]; exact hN1)
        obtain ⟨N7, hN7⟩ : ∃ N7, ([] ++ news).length = N7 := ⟨_, rfl⟩
        rw [hN7]
        have z0 := hZ7.cell 0
        have z1 := hZ7.cell 1
        have z2 := hZ7.cell 2
        have z3 := hZ7.cell 3
        have z4 := hZ7.cell 4
        have z5 := hZ7.cell 5
        have z6 := hZ7.cell 6
        have z7 := hZ7.cell 7
        have y0 := hZ7.frozen 0
        have y1 := hZ7.frozen 1
        have y2 := hZ7.frozen 2
        have y3 := hZ7.frozen 3
        have y4 := hZ7.frozen 4
        have y5 := hZ7.frozen 5
        have y6 := hZ7.frozen 6
        have y7 := hZ7.frozen 7
        have hZE := (((((((hZ7.set 0 (.string s)).set 1 (.slice (some ⟨g7, 0, none⟩) N7 cap7)).set 2 (.slice A n c)).set 3 (.string lv)).set 4 (.int .i64 0)).set 5 (.int .i64 (-1))).set 6 (.int .i64 (-1))).set 7 (.int .i64 1)
        simp only [List.set_cons_zero, List.set_cons_succ] at hZE
        have hmZ := ((((((((hm07.setCell (p := ⟨z, 0, none⟩) (.inl hwz) (.string s)).setCell (p := ⟨z, 1, none⟩) (.inl hwz) (.slice (some ⟨g7, 0, none⟩) N7 cap7)).setCell (p := ⟨z, 2, none⟩) (.inl hwz) (.slice A n c)).setCell (p := ⟨z, 3, none⟩) (.inl hwz) (.string lv)).setCell (p := ⟨z, 4, none⟩) (.inl hwz) (.int .i64 0)).setCell (p := ⟨z, 5, none⟩) (.inl hwz) (.int .i64 (-1))).setCell (p := ⟨z, 6, none⟩) (.inl hwz) (.int .i64 (-1))).setCell (p := ⟨z, 7, none⟩) (.inl hwz) (.int .i64 1))
        have Hb7 := Lib.hid hb7
        have HZE := Lib.hid hZE
        have HmZ := Lib.hid hmZ
        clear hb7 hZE hmZ
        clear hv7 ho7 hm7 hZ7 hm07 hN7
        go_wp2_with fail
        refine (DecoderResult_GetECLevel_c w7 res 0 (.string lv) (Hb7.out.at 4 rfl)).mono ?_
        rintro e w8 ⟨rfl, rfl⟩
        go_wp2_with fail
        refine (DecoderResult_GetErrorsCorrected_c w7 res 0 (.int .i64 0) (Hb7.out.at 5 rfl)).mono ?_
        rintro e w8 ⟨rfl, rfl⟩
        go_wp2_with fail
        refine (DecoderResult_GetStructuredAppendSequenceNumber_c w7 res 0 (.int .i64 (-1)) (Hb7.out.at 9 rfl)).mono ?_
        rintro e w8 ⟨rfl, rfl⟩
        go_wp2_with fail
        refine (DecoderResult_GetStructuredAppendParity_c w7 res 0 (.int .i64 (-1)) (Hb7.out.at 8 rfl)).mono ?_
        rintro e w8 ⟨rfl, rfl⟩
        go_wp2_with fail
        refine (DecoderResult_GetSymbologyModifier_c w7 res 0 (.int .i64 1) (Hb7.out.at 10 rfl)).mono ?_
        rintro e w8 ⟨rfl, rfl⟩
        go_wp2_with fail
        have HZF := HZE
        generalize ((((((((w7.setCell ⟨z, 0, none⟩ (.string s)).setCell ⟨z, 1, none⟩ (.slice (some ⟨g7, 0, none⟩) N7 cap7)).setCell ⟨z, 2, none⟩ (.slice A n c)).setCell ⟨z, 3, none⟩ (.string lv)).setCell ⟨z, 4, none⟩ (.int .i64 0)).setCell ⟨z, 5, none⟩ (.int .i64 (-1))).setCell ⟨z, 6, none⟩ (.int .i64 (-1))).setCell ⟨z, 7, none⟩ (.int .i64 1)) = w9 at *
        have e0 := HZF.out.cell 0
        have e1 := HZF.out.cell 1
        have e2 := HZF.out.cell 2
        have e3 := HZF.out.cell 3
        have e4 := HZF.out.cell 4
        have e5 := HZF.out.cell 5
        have e6 := HZF.out.cell 6
        have e7 := HZF.out.cell 7
        clear z0 z1 z2 z3 z4 z5 z6 z7 y0 y1 y2 y3 y4 y5 y6 y7
        (try simp only [Exit.inBlock, Exit.then])
        refine bodyPost_ret (v := .tuple #[.agg #[.string s, .slice (some ⟨g7, 0, none⟩) N7 cap7, .slice A n c, .string lv, .int .i64 0, .int .i64 (-1), .int .i64 (-1), .int .i64 1], .bool true]) (by rw [results_cell_tmp rfl]; go_simp) rfl ?_
        exact ⟨⟨_, _, _, _, _, _, _, rfl⟩, HmZ.out⟩
/-- A decoded symbol is handed on. -/
theorem decodedOut_c (w : World) (s : ByteArray) (e0 : Ending) (h : DecOut s e0 w) : ∃ res, e0 = .returned (.tuple #[.pointer (some ⟨res, 0, none⟩), .nilIface]) ∧ Calls Tryz.prog 28 #[.pointer (some ⟨res, 0, none⟩), .nilIface] w fun e w' => DecVal s e ∧ QZ.Mod (fun _ => False) w w' := by
  obtain ⟨res, D, N, cap, sg, lv, rfl, h1, h2, h3, h4, h5⟩ := h
  exact ⟨res, rfl, decoded_c w s lv res D N cap sg h1 h2 h3 h4 h5⟩

set_option maxRecDepth 20000 in
set_option maxHeartbeats 1600000 in
theorem qrDecode_c (w : World) (R n cap v l k : Nat) (g : Nat → Nat → Bool) (s : ByteArray) (hb : List Bool) (es : List (List Nat)) (hR : Rows2 w R n n g) (hn : n = 17 + 4 * v)
    (hy : Sym (chs s) l v k hb es) (hg : ∀ x y, x < n → y < n → g x y = decide (qrF v l k (encB (symW l v hb es)) x y = 1)) (hl : l < 4) (hs1 : 1 ≤ s.size) (hs60 : s.size ≤ 60) :
    Calls Tryz.prog 8 #[.slice (some ⟨R, 0, none⟩) n cap] w fun e w' => DecVal s e ∧ QZ.Mod (fun _ => False) w w' := by
  have Hal := Lib.hid (fun o => (QZ.Mod.refl (fun _ => False) w).alloc o)
  have HR := Lib.hid (fun w' (hm : QZ.Mod (fun _ => False) w w') => hR.new hm)
  have Hn := Lib.hid hn; have Hy := Lib.hid hy; have Hg := Lib.hid hg
  clear hR hn hy hg
  go_enter Tryz.func8, Tryz.ntmps8
  go_wp2_with fail
  refine (newDecoder_c _).mono ?_
  rintro e w2 ⟨dd, r, F, rfl, hd, hr, hF, -, -, hm2⟩
  have hR2 := HR.out w2 ((Hal.out _).trans hm2)
  have hF2 := hF.full.weak (Y := fun j => w2.heap.size ≤ j) (fun j e => .inr e)
  have hZ := (Blk.new w [.string ⟨#[]⟩, .slice none 0 0, .slice none 0 0, .string ⟨#[]⟩, .int .i64 0, .int .i64 0, .int .i64 0, .int .i64 0] 35).mod' hm2
  obtain ⟨z, hz⟩ : ∃ z, w.heap.size = z := ⟨_, rfl⟩
  rw [hz] at hZ ⊢
  have hwz : w.heap.size ≤ z := by omega
  have hmw2 := (Hal.out _).trans hm2
  have Hd := Lib.hid hd
  have Hr := Lib.hid hr
  have HR2 := Lib.hid hR2
  have HF2 := Lib.hid hF2
  have HZ := Lib.hid hZ
  have Hmw2 := Lib.hid hmw2
  clear hd hr hR2 hF2 hZ hmw2
  clear hm2 hF
  go_wp2_with fail
  refine (decodeBW_c w2 dd r F R n cap v l k g s hb es Hd.out Hr.out HF2.out HR2.out Hn.out Hy.out Hg.out hl hs1 hs60).mono ?_
  rintro e w3 ⟨hdo, hm3⟩
  obtain ⟨res, rfl, hdec⟩ := decodedOut_c w3 s e hdo
  have hZ3 := HZ.out.mod' hm3
  have hmw3 := Hmw2.out.trans hm3
  have Hdec := Lib.hid hdec
  have HZ3 := Lib.hid hZ3
  have Hmw3 := Lib.hid hmw3
  clear hdec hZ3 hmw3
  clear hm3 hdo
  go_wp2_with fail
  refine Hdec.out.mono ?_
  rintro e w4 ⟨⟨A1, n1, c1, A2, n2, c2, lv, rfl⟩, hm4⟩
  have hZ4 := HZ3.out.mod' hm4
  have z0 := hZ4.cell 0
  have z1 := hZ4.cell 1
  have z2 := hZ4.cell 2
  have z3 := hZ4.cell 3
  have z4 := hZ4.cell 4
  have z5 := hZ4.cell 5
  have z6 := hZ4.cell 6
  have z7 := hZ4.cell 7
  have y0 := hZ4.frozen 0
  have y1 := hZ4.frozen 1
  have y2 := hZ4.frozen 2
  have y3 := hZ4.frozen 3
  have y4 := hZ4.frozen 4
  have y5 := hZ4.frozen 5
  have y6 := hZ4.frozen 6
  have y7 := hZ4.frozen 7
  have hZE := (((((((hZ4.set 0 (.string s)).set 1 (.slice A1 n1 c1)).set 2 (.slice A2 n2 c2)).set 3 (.string lv)).set 4 (.int .i64 0)).set 5 (.int .i64 (-1))).set 6 (.int .i64 (-1))).set 7 (.int .i64 1)
  simp only [List.set_cons_zero, List.set_cons_succ] at hZE
  have hmZ := (((((((((Hmw3.out.trans hm4).setCell (p := ⟨z, 0, none⟩) (.inl hwz) (.string s)).setCell (p := ⟨z, 1, none⟩) (.inl hwz) (.slice A1 n1 c1)).setCell (p := ⟨z, 2, none⟩) (.inl hwz) (.slice A2 n2 c2)).setCell (p := ⟨z, 3, none⟩) (.inl hwz) (.string lv)).setCell (p := ⟨z, 4, none⟩) (.inl hwz) (.int .i64 0)).setCell (p := ⟨z, 5, none⟩) (.inl hwz) (.int .i64 (-1))).setCell (p := ⟨z, 6, none⟩) (.inl hwz) (.int .i64 (-1))).setCell (p := ⟨z, 7, none⟩) (.inl hwz) (.int .i64 1))
  have HZE := Lib.hid hZE
  have HmZ := Lib.hid hmZ
  clear hZE hmZ
  clear hm4 hZ4
  go_wp2_with fail
  generalize ((((((((w4.setCell ⟨z, 0, none⟩ (.string s)).setCell ⟨z, 1, none⟩ (.slice A1 n1 c1)).setCell ⟨z, 2, none⟩ (.slice A2 n2 c2)).setCell ⟨z, 3, none⟩ (.string lv)).setCell ⟨z, 4, none⟩ (.int .i64 0)).setCell ⟨z, 5, none⟩ (.int .i64 (-1))).setCell ⟨z, 6, none⟩ (.int .i64 (-1))).setCell ⟨z, 7, none⟩ (.int .i64 1)) = w9 at *
  have e0 := HZE.out.cell 0
  have e1 := HZE.out.cell 1
  have e2 := HZE.out.cell 2
  have e3 := HZE.out.cell 3
  have e4 := HZE.out.cell 4
  have e5 := HZE.out.cell 5
  have e6 := HZE.out.cell 6
  have e7 := HZE.out.cell 7
  clear z0 z1 z2 z3 z4 z5 z6 z7 y0 y1 y2 y3 y4 y5 y6 y7
  (try simp only [Exit.inBlock, Exit.then])
  refine bodyPost_ret (v := .tuple #[.agg #[.string s, .slice A1 n1 c1, .slice A2 n2 c2, .string lv, .int .i64 0, .int .i64 (-1), .int .i64 (-1), .int .i64 1], .bool true]) (by rw [results_cell_tmp rfl]; go_simp) rfl ?_
  exact ⟨⟨_, _, _, _, _, _, _, rfl⟩, HmZ.out⟩
end Go.Proofs.YtnpkihobbcglcaaGreatDoor
