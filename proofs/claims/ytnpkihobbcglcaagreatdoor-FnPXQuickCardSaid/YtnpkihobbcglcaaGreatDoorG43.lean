/- Part 43 of the proof of FnPXQuick (a QR code that is written for a text says this text in a picture): parts of the road. No condition. -/
import Derived.Lib.SlBytesRow
import Derived.Test.YtnpkihobbcglcaaGreatDoorG02
import Derived.Test.YtnpkihobbcglcaaGreatDoorG39
/- The place of a byte in the alphanumeric set: some number; the byte at a place: some byte. -/
open Go Go.RowKit
namespace Go.Proofs.YtnpkihobbcglcaaGreatDoor
open Go.QZ

def sgnArr : Value := .agg #[.int .u8 32, .int .u8 36, .int .u8 37, .int .u8 42, .int .u8 43, .int .u8 45, .int .u8 46, .int .u8 47, .int .u8 58]
theorem sgn_at (w : World) (k : Nat) (hk : k < 9) : ∃ x : Int, (Instr.index 144 (.agg #[.int .u8 32, .int .u8 36, .int .u8 37, .int .u8 42, .int .u8 43, .int .u8 45, .int .u8 46, .int .u8 47, .int .u8 58]) (.int .i64 (k : Int))).run Tryz.prog w = .ok (.int .u8 x) w := by
  obtain rfl | rfl | rfl | rfl | rfl | rfl | rfl | rfl | rfl : k = 0 ∨ k = 1 ∨ k = 2 ∨ k = 3 ∨ k = 4 ∨ k = 5 ∨ k = 6 ∨ k = 7 ∨ k = 8 := by omega
  · exact ⟨32, by kernel_rfl⟩
  · exact ⟨36, by kernel_rfl⟩
  · exact ⟨37, by kernel_rfl⟩
  · exact ⟨42, by kernel_rfl⟩
  · exact ⟨43, by kernel_rfl⟩
  · exact ⟨45, by kernel_rfl⟩
  · exact ⟨46, by kernel_rfl⟩
  · exact ⟨47, by kernel_rfl⟩
  · exact ⟨58, by kernel_rfl⟩

set_option maxRecDepth 20000 in
set_option maxHeartbeats 1600000 in
theorem qrAlpha_c (w : World) (c : Nat) (hc : c < 256) : Calls Tryz.prog 31 #[.int .u8 c] w fun e w' => (∃ z : Int, e = .returned (.int .i64 z)) ∧ w = w' := by
  by_cases h1 : 48 ≤ c ∧ c ≤ 57
  · have t1 : decide ((48 : Int) ≤ (c : Int)) = true := by simp; omega
    have t2 : decide ((c : Int) ≤ 57) = true := by simp; omega
    go_enter Tryz.func31, Tryz.ntmps31
    go_wp2
    go_ret
    exact ⟨⟨_, rfl⟩, rfl⟩
  · by_cases h2 : 65 ≤ c ∧ c ≤ 90
    · have t1 : decide ((48 : Int) ≤ (c : Int)) = true := by simp; omega
      have t2 : decide ((c : Int) ≤ 57) = false := by simp; omega
      have t3 : decide ((65 : Int) ≤ (c : Int)) = true := by simp; omega
      have t4 : decide ((c : Int) ≤ 90) = true := by simp; omega
      go_enter Tryz.func31, Tryz.ntmps31
      go_wp2
      go_ret
      exact ⟨⟨_, rfl⟩, rfl⟩
    · have tt : (decide ((48 : Int) ≤ (c : Int)) = false ∧ decide ((65 : Int) ≤ (c : Int)) = false) ∨ (decide ((48 : Int) ≤ (c : Int)) = true ∧ decide ((c : Int) ≤ 57) = false ∧ decide ((65 : Int) ≤ (c : Int)) = false) ∨ (decide ((48 : Int) ≤ (c : Int)) = true ∧ decide ((c : Int) ≤ 57) = false ∧ decide ((65 : Int) ≤ (c : Int)) = true ∧ decide ((c : Int) ≤ 90) = false) := by
        simp; omega
      clear h1 h2
      rcases tt with ⟨t1, t3⟩ | ⟨t1, t2, t3⟩ | ⟨t1, t2, t3, t4⟩
      all_goals
        go_enter Tryz.func31, Tryz.ntmps31
        go_wp2
        go_loop [3, 4, 27] (fun _ _ a => ∃ k : Nat, k ≤ 9 ∧ a = .int .i64 k) (fun _ _ a => 9 - (intOf a).toNat)
        case atStart => exact ⟨0, by omega, rfl⟩
        case round =>
          obtain ⟨k, hk, rfl⟩ := hrel
          by_cases hlt : k < 9
          · obtain ⟨x, hx⟩ := sgn_at w k hlt
            cases hcx : ((c : Int) == x)
            · go_wp2
              go_round
              case rel => exact ⟨k + 1, by omega, by go_num⟩
              case measure => simp [intOf] <;> omega
            · go_wp2
              go_ret
              exact ⟨⟨_, rfl⟩, rfl⟩
          · obtain rfl : k = 9 := by omega
            go_wp2
            go_ret
            exact ⟨⟨_, rfl⟩, rfl⟩

set_option maxHeartbeats 1600000 in
theorem qrAlphaByte_c (w : World) (n : Int) : Calls Tryz.prog 9 #[.int .i64 n] w fun e w' => (∃ z : Nat, z < 256 ∧ e = .returned (.int .u8 z)) ∧ w = w' := by
  go_enter Tryz.func9, Tryz.ntmps9
  go_wp2_with fail
  go_loop [3] (fun a => ∃ b : Nat, 32 ≤ b ∧ b ≤ 91 ∧ a = .int .u8 b) (fun a => 91 - (intOf a).toNat)
  case atStart => exact ⟨32, by omega, by omega, rfl⟩
  case round =>
    obtain ⟨b, hb1, hb2, rfl⟩ := hrel
    by_cases hlt : b ≤ 90
    · have t1 : decide ((b : Int) ≤ 90) = true := by simp <;> omega
      go_wp2_with fail
      refine (qrAlpha_c w b (by omega)).mono ?_
      rintro e w1 ⟨⟨z, rfl⟩, rfl⟩
      cases hz : (z == n)
      · go_wp2_with fail
        go_round
        case rel => exact ⟨b + 1, by omega, by omega, by go_num⟩
        case measure => simp [intOf] <;> omega
      · go_wp2_with fail
        go_ret
        exact ⟨⟨b, by omega, rfl⟩, rfl⟩
    · obtain rfl : b = 91 := by omega
      go_wp2_with fail
      go_ret
      exact ⟨⟨0, by omega, rfl⟩, rfl⟩
end Go.Proofs.YtnpkihobbcglcaaGreatDoor
/- The text that is written: from 1 to 60 bytes. -/
open Go Go.RowKit
namespace Go.Proofs.YtnpkihobbcglcaaGreatDoor
open Go.QZ

/-- The bytes of a list. -/
def strOf (cs : List Nat) : ByteArray := ⟨(cs.map UInt8.ofNat).toArray⟩
theorem strOf_size (cs : List Nat) : (strOf cs).size = cs.length := by
  show (cs.map UInt8.ofNat).toArray.size = _
  simp
theorem strOf_get (cs : List Nat) (h : ∀ c ∈ cs, c < 256) (i : Nat) (hi : i < (strOf cs).size) : ((strOf cs)[i]).toNat = nth cs i := by
  have hl : i < cs.length := by rw [← strOf_size]; exact hi
  have e : (strOf cs)[i] = (cs.map UInt8.ofNat).toArray[i]'(by simpa using hl) := rfl
  rw [e]
  have hm := h (cs[i]) (List.getElem_mem hl)
  have : nth cs i = cs[i] := by simp [nth, List.getD_eq_getElem?_getD, hl]
  rw [this]
  simp [UInt8.toNat_ofNat']
  omega

/-- The bytes that are written up to now. -/
def AscTo (w : World) (i : Nat) (v : Value) (wr : World) : Prop := ∃ (vv : Value) (cs : List Nat), vv = v ∧ cs.length = i ∧ (∀ c ∈ cs, c < 256) ∧ Own wr w.heap.size 5 vv (cellsN .u8 cs) ∧ QZ.Mod (fun _ => False) w wr
theorem AscTo.push {w wr w7 : World} {i : Nat} {v v7 : Value} {d : Nat} {cs : List Nat} (hd : d < 256) (hl : cs.length = i) (hc : ∀ c ∈ cs, c < 256) (h1 : Own wr w.heap.size 5 v (cellsN .u8 cs)) (h3 : QZ.Mod (fun _ => False) w wr) (ho7 : Hid (Own w7 w.heap.size 5 v7 (cellsN .u8 cs ++ [.int .u8 d]))) (hm7 : Hid (QZ.Mod (fun k => v.ownBlock = some k) (wr.alloc (.cells #[.int .u8 d] 5)) w7)) : AscTo w (i + 1) v7 w7 := by
  have hb := h1.block
  refine ⟨v7, cs ++ [d], rfl, by simp [hl], fun c hcc => ?_, by rw [cellsN_app]; exact ho7.out, (h3.alloc (.cells #[.int .u8 d] 5)).new hm7.out (fun k hk => (hb k hk).1)⟩
  rcases List.mem_append.1 hcc with h | h
  · exact hc c h
  · rw [List.mem_singleton.1 h]; exact hd

/-- A text was made. -/
def AscOut (w : World) (e : Ending) (w' : World) : Prop := ∃ s : ByteArray, e = .returned (.string s) ∧ 1 ≤ s.size ∧ s.size ≤ 60 ∧ QZ.Mod (fun _ => False) w w'

set_option maxRecDepth 20000 in
set_option maxHeartbeats 3200000 in
theorem qrAscii_c (w : World) (t : ByteArray) (kd : Nat) (hk : kd < 256) (ht : t.size ≤ 2147483647) : Calls Tryz.prog 4 #[.string t, .int .u8 kd, .int .i64 60] w (AscOut w) := by
  obtain ⟨k3, hk3⟩ : ∃ k3, kd % 3 = k3 := ⟨_, rfl⟩
  have hk3i : (kd : Int) % 3 = (k3 : Int) := by omega
  have hA0 : AscTo w 0 (.slice none 0 0) w := ⟨_, [], rfl, rfl, fun c h => by simp at h, Own.start w w.heap.size 5, QZ.Mod.refl _ _⟩
  have HA0 := Lib.hid hA0
  clear hA0
  go_enter Tryz.func4, Tryz.ntmps4
  go_wp2_with fail
  go_loopw [7, 8, 30, 40] (fun v a _ _ wr => ∃ i : Nat, i ≤ 60 ∧ i ≤ t.size ∧ a = .int .i64 i ∧ AscTo w i v wr) (fun _ a _ _ _ => 60 - (intOf a).toNat)
  case atStart => exact ⟨0, by omega, by omega, rfl, HA0.out⟩
  case round =>
    obtain ⟨i, hi1, hi2, rfl, vv, cs, rfl, hcl, hc256, hown, hm⟩ := hrel
    by_cases hlt : i < t.size
    · have t1 : decide ((i : Int) < (t.size : Int)) = true := by simp <;> omega
      by_cases h60 : i < 60
      · have t2 : decide ((i : Int) < 60) = true := by simp <;> omega
        have h256 : (t[i]).toNat < 256 := UInt8.toNat_lt _
        have hbw := hm.size
        have hfew : (cellsN .u8 cs).length + 1 ≤ 1000000 := by rw [cellsN_length]; omega
        have Hown := Lib.hid hown
        have Hm := Lib.hid hm
        have Hc256 := Lib.hid hc256
        have Hfew := Lib.hid hfew
        have Hcl := Lib.hid hcl
        clear hown hm hc256 hfew hcl
        by_cases hk0 : k3 = 0
        · have tk : ((k3 : Int) == 0) = true := by rw [beq_iff_eq]; omega
          obtain ⟨u, hu⟩ : ∃ u, 48 + (t[i]).toNat % 10 = u := ⟨_, rfl⟩
          have hui : (48 : Int) + ((t[i]).toNat : Int) % 10 = (u : Int) := by omega
          have hul : u < 256 := by omega
          obtain ⟨Ho5, HN5, Hn5⟩ := push_of u Hown hbw
          go_wp2_with (at_builtin; refine hold ?_)
          refine wpList_app rfl (.tmp 32) (.tmp 38) 32 rfl w.heap.size 5 (.int .u8 0) 1 Tryz.underlying32 i32 rfl vv (cellsN .u8 cs) rfl Ho5.out ⟨wr.heap.size, 0, none⟩ 1 1 [.int .u8 u] rfl rfl Hn5.out (one_u8 u) Hfew.out (by decide) HN5.out ?_
          intro v7 w7 ho7 hm7 hv7
          have hA := AscTo.push hul Hcl.out Hc256.out Hown.out Hm.out ho7 hm7
          have HA := Lib.hid hA
          clear hA
          clear hv7 ho7 hm7
          go_wp2_with fail
          go_roundw
          case rel => exact ⟨i + 1, by omega, by omega, by go_num, HA.out⟩
          case measure => simp [intOf] <;> omega
        · have tk : ((k3 : Int) == 0) = false := by rw [beq_eq_false_iff_ne]; omega
          by_cases hk1 : k3 = 1
          · have tk1 : ((k3 : Int) == 1) = true := by rw [beq_iff_eq]; omega
            go_wp2_with fail
            refine (qrAlphaByte_c wr _).mono ?_
            rintro e w2 ⟨⟨u, hul, rfl⟩, rfl⟩
            obtain ⟨Ho5, HN5, Hn5⟩ := push_of u Hown hbw
            go_wp2_with (at_builtin; refine hold ?_)
            refine wpList_app rfl (.tmp 42) (.tmp 49) 32 rfl w.heap.size 5 (.int .u8 0) 1 Tryz.underlying32 i32 rfl vv (cellsN .u8 cs) rfl Ho5.out ⟨wr.heap.size, 0, none⟩ 1 1 [.int .u8 u] rfl rfl Hn5.out (one_u8 u) Hfew.out (by decide) HN5.out ?_
            intro v7 w7 ho7 hm7 hv7
            have hA := AscTo.push hul Hcl.out Hc256.out Hown.out Hm.out ho7 hm7
            have HA := Lib.hid hA
            clear hA
            clear hv7 ho7 hm7
            go_wp2_with fail
            go_roundw
            case rel => exact ⟨i + 1, by omega, by omega, by go_num, HA.out⟩
            case measure => simp [intOf] <;> omega
          · have tk1 : ((k3 : Int) == 1) = false := by rw [beq_eq_false_iff_ne]; omega
            obtain ⟨u, hu⟩ : ∃ u, 32 + (t[i]).toNat % 95 = u := ⟨_, rfl⟩
            have hui : (32 : Int) + ((t[i]).toNat : Int) % 95 = (u : Int) := by omega
            have hul : u < 256 := by omega
            obtain ⟨Ho5, HN5, Hn5⟩ := push_of u Hown hbw
            go_wp2_with (at_builtin; refine hold ?_)
            refine wpList_app rfl (.tmp 22) (.tmp 28) 32 rfl w.heap.size 5 (.int .u8 0) 1 Tryz.underlying32 i32 rfl vv (cellsN .u8 cs) rfl Ho5.out ⟨wr.heap.size, 0, none⟩ 1 1 [.int .u8 u] rfl rfl Hn5.out (one_u8 u) Hfew.out (by decide) HN5.out ?_
            intro v7 w7 ho7 hm7 hv7
            have hA := AscTo.push hul Hcl.out Hc256.out Hown.out Hm.out ho7 hm7
            have HA := Lib.hid hA
            clear hA
            clear hv7 ho7 hm7
            go_wp2_with fail
            go_roundw
            case rel => exact ⟨i + 1, by omega, by omega, by go_num, HA.out⟩
            case measure => simp [intOf] <;> omega
      · have t2 : decide ((i : Int) < 60) = false := by simp <;> omega
        by_cases h0 : i = 0
        · subst h0
          obtain rfl : cs = [] := List.eq_nil_of_length_eq_zero hcl
          rcases hown.either with ⟨rfl, -⟩ | ⟨g, cap, rfl, -⟩
          all_goals
            have Hm := Lib.hid hm
            clear hm
            clear hown
            go_wp2_with fail
            try (go_ret; exact ⟨_, rfl, by decide, by decide, Hm.out⟩)
        · obtain ⟨g, cap, rfl, -, -, -, hcell⟩ := hown.full (by rw [cellsN_length]; omega)
          obtain ⟨s, hs⟩ : ∃ s, strOf cs = s := ⟨_, rfl⟩
          have hsz : s.size = i := by rw [← hs, strOf_size, hcl]
          have hby : Lib.Bytes wr g 0 s := fun j hj => by
            have e := strOf_get cs hc256 j (by rw [hs]; exact hj)
            have e2 : (s[j]).toNat = nth cs j := by rw [← e]; simp only [hs]
            rw [Nat.zero_add, e2]
            exact hcell j _ (cellsN_get _ _ _ (by omega))
          have hcv := Lib.run_convert_whole (P := Tryz.prog) wr 32 5 9 (by kernel_rfl : Tryz.prog.underlying 32 = some (.slice 5)) (by kernel_rfl : Tryz.prog.underlying 5 = some (.int .u8)) (by kernel_rfl : Tryz.prog.underlying 9 = some .string) g 0 s hby cap
          rw [cellsN_length, hcl]
          rw [hsz] at hcv
          have tz : ((i : Int) == 0) = false := by rw [beq_eq_false_iff_ne]; omega
          have Hm := Lib.hid hm
          have Hsz := Lib.hid hsz
          clear hm hsz
          clear hown hby hcell hs
          go_wp2_with fail
          go_ret
          exact ⟨s, rfl, by have := Hsz.out; omega, by have := Hsz.out; omega, Hm.out⟩
    · have t1 : decide ((i : Int) < (t.size : Int)) = false := by simp <;> omega
      by_cases h0 : i = 0
      · subst h0
        obtain rfl : cs = [] := List.eq_nil_of_length_eq_zero hcl
        rcases hown.either with ⟨rfl, -⟩ | ⟨g, cap, rfl, -⟩
        all_goals
          have Hm := Lib.hid hm
          clear hm
          clear hown
          go_wp2_with fail
          try (go_ret; exact ⟨_, rfl, by decide, by decide, Hm.out⟩)
      · obtain ⟨g, cap, rfl, -, -, -, hcell⟩ := hown.full (by rw [cellsN_length]; omega)
        obtain ⟨s, hs⟩ : ∃ s, strOf cs = s := ⟨_, rfl⟩
        have hsz : s.size = i := by rw [← hs, strOf_size, hcl]
        have hby : Lib.Bytes wr g 0 s := fun j hj => by
          have e := strOf_get cs hc256 j (by rw [hs]; exact hj)
          have e2 : (s[j]).toNat = nth cs j := by rw [← e]; simp only [hs]
          rw [Nat.zero_add, e2]
          exact hcell j _ (cellsN_get _ _ _ (by omega))
        have hcv := Lib.run_convert_whole (P := Tryz.prog) wr 32 5 9 (by kernel_rfl : Tryz.prog.underlying 32 = some (.slice 5)) (by kernel_rfl : Tryz.prog.underlying 5 = some (.int .u8)) (by kernel_rfl : Tryz.prog.underlying 9 = some .string) g 0 s hby cap
        rw [cellsN_length, hcl]
        rw [hsz] at hcv
        have tz : ((i : Int) == 0) = false := by rw [beq_eq_false_iff_ne]; omega
        have Hm := Lib.hid hm
        have Hsz := Lib.hid hsz
        clear hm hsz
        clear hown hby hcell hs
        go_wp2_with fail
        go_ret
        exact ⟨s, rfl, by have := Hsz.out; omega, by have := Hsz.out; omega, Hm.out⟩
end Go.Proofs.YtnpkihobbcglcaaGreatDoor
