/- Part 23 of the proof of FnPXQuick (a QR code that is written for a text says this text in a picture): parts of the road. No condition. -/
import Derived.Test.YtnpkihobbcglcaaGreatDoorG21
/- The bits are ended: zeros, then pad bytes. -/
open Go Go.RowKit
namespace Go.Proofs.YtnpkihobbcglcaaGreatDoor
open Go.QZ

theorem and7 (i : Nat) (h : i < 4294967296) : bits .and .i64 (i : Int) 7 = ((i % 8 : Nat) : Int) := by
  have := bits_mask .i64 63 (by decide) (fun n h0 h1 => by rw [IntKind.wrap_i64]; omega) 3 (by decide) (i : Int) (by omega) (by omega)
  simpa using this
theorem vpAnd1 (i : Nat) (h : i < 4294967296) : bits .and .i64 (i : Int) 1 = ((i % 2 : Nat) : Int) := by
  have := bits_mask .i64 63 (by decide) (fun n h0 h1 => by rw [IntKind.wrap_i64]; omega) 1 (by decide) (i : Int) (by omega) (by omega)
  simpa using this

set_option maxRecDepth 20000 in
set_option maxHeartbeats 3200000 in
theorem terminate_c (w : World) (p B : Nat) (ws : List Nat) (bs : List Bool) (h : BA w p B ws bs) (n : Nat) (hn : n ≤ 1000) (hl : bs.length ≤ 8 * n) :
    Calls Tryz.prog 50 #[.int .i64 n, .pointer (some ⟨p, 0, none⟩)] w (fun e w' => e = .returned .nilIface ∧ ∃ T, (bs ++ T).length = 8 * n ∧ (∀ j, j < 4 → j < T.length → T[j]? = some false) ∧ Grown w p B (bs ++ T) w') := by
  have c1 := Lib.hid h.c1
  have t0 : decide ((n : Int) * 8 < (bs.length : Int)) = false := by simp; omega
  have H := Lib.hid h
  clear h
  go_enter Tryz.func50, Tryz.ntmps50
  go_wp2_with fail
  refine ((BitArray_GetSize_c w p 0 _ c1.out)).mono ?_
  rintro e w1 ⟨rfl, rfl⟩
  go_wp2_with fail
  go_loopw [6] (fun a wr => ∃ (k : Nat), k ≤ 4 ∧ a = .int .i64 k ∧ (bs ++ List.replicate k false).length ≤ 8 * n ∧ Grown w p B (bs ++ List.replicate k false) wr) (fun a _ => 4 - (intOf a).toNat)
  case atStart => exact ⟨0, by omega, rfl, by simpa using hl, by simpa using Grown.start H.out⟩
  case round =>
    obtain ⟨k, hk, rfl, hle, hg⟩ := hrel
    obtain ⟨L, hL⟩ : ∃ L, (bs ++ List.replicate k false).length = L := ⟨_, rfl⟩
    obtain ⟨B', ws', hb1, hst⟩ := hg.step
    have hc1 := hb1.c1
    rw [hL] at hc1 hle
    have Hg := Lib.hid hg
    have Hst := Lib.hid hst
    have Hb1 := Lib.hid hb1
    have Hc1 := Lib.hid hc1
    clear hg hst hb1 hc1
    by_cases hgo : k < 4 ∧ L < 8 * n
    · obtain ⟨hk4, hL8⟩ := hgo
      have t1 : decide ((k : Int) < 4) = true := by simp; omega
      have t2 : decide ((L : Int) < (n : Int) * 8) = true := by simp; omega
      have hL2 : (bs ++ List.replicate (k + 1) false).length ≤ 8 * n := by simp at hL ⊢; omega
      have hrep : bs ++ List.replicate (k + 1) false = bs ++ List.replicate k false ++ [false] := by rw [List.append_assoc, ← List.replicate_succ']
      have HL2 := Lib.hid hL2
      have HL := Lib.hid hL
      have Hrep := Lib.hid hrep
      clear hL2 hL hrep
      go_wp2_with fail
      refine (BitArray_GetSize_c wr p 0 _ Hc1.out).mono ?_
      rintro e w2 ⟨rfl, rfl⟩
      go_wp2_with fail
      refine (appendBit_c wr p B' ws' _ Hb1.out (by rw [HL.out]; omega) false).mono ?_
      rintro e w2 hg
      obtain ⟨rfl, hg2⟩ := Hst.out _ _ _ _ _ hg
      rw [← Hrep.out] at hg2
      have Hg2 := Lib.hid hg2
      clear hg2
      clear hg
      go_wp2_with fail
      go_roundw
      case rel => exact ⟨k + 1, by omega, by go_num, HL2.out, Hg2.out⟩
      case measure => simp [intOf] <;> omega
    · have hfin : k = 4 ∨ L = 8 * n := by omega
      have hL1000 : L ≤ 8000 := by omega
      have h7 := and7 L (by omega)
      have HL := Lib.hid hL
      have Hle := Lib.hid hle
      have Hfin := Lib.hid hfin
      clear hL hle hfin
      by_cases hk4 : k < 4
      · have t1 : decide ((k : Int) < 4) = true := by simp; omega
        have t2 : decide ((L : Int) < (n : Int) * 8) = false := by simp; have := Hfin.out; omega
        go_wp2_with fail
        refine (BitArray_GetSize_c wr p 0 _ Hc1.out).mono ?_
        rintro e w2 ⟨rfl, rfl⟩
        go_wp2_with fail
        refine (BitArray_GetSize_c wr p 0 _ Hc1.out).mono ?_
        rintro e w2 ⟨rfl, rfl⟩
        by_cases hr : L % 8 = 0
        · rw [hr] at h7
          go_wp2_with fail
          obtain ⟨Z, hZ⟩ : ∃ Z, Z = bs ++ List.replicate (k) false := ⟨_, rfl⟩
          obtain ⟨q, hq8⟩ : ∃ q, q = L / 8 := ⟨_, rfl⟩
          have hL0 := HL.out
          rw [List.length_append, List.length_replicate] at hL0
          have hle0 := Hle.out
          have hfin0 := Hfin.out
          have hZl : Z.length = 8 * q := by rw [hZ, hq8, List.length_append, List.length_replicate]; omega
          have hqn : q ≤ n := by omega
          have hZg : Grown w p B Z wr := hZ ▸ Hg.out
          have hTz : ∃ m, Z = bs ++ List.replicate m false ∧ (4 ≤ m ∨ q = n) := ⟨_, hZ, by omega⟩
          have hc2 : wr.cell? ⟨p, 1, none⟩ = some (.int .i64 (Z.length : Nat)) := by obtain ⟨_, _, hb, _⟩ := hZg.step; exact hb.c1
          obtain ⟨L8, hL8⟩ : ∃ L8, Z.length = L8 := ⟨_, rfl⟩
          rw [hL8] at hc2 hZl
          clear hZ hq8 hL0 hle0 hfin0
          have HZg := Lib.hid hZg
          have HTz := Lib.hid hTz
          have HL8 := Lib.hid hL8
          clear hZg hTz hL8
          refine (sizeBytes_c wr p L8 (by omega) hc2).mono ?_
          rintro e w2 ⟨rfl, rfl⟩
          rw [show (L8 + 7) / 8 = q by omega]
          clear hc2
          go_wp2_with fail
          go_loopw [10, 11] (fun a _ wr => ∃ (j : Nat) (U : List Bool), a = .int .i64 j ∧ j ≤ n - q ∧ U.length = 8 * j ∧ Grown w p B (Z ++ U) wr) (fun a _ _ => n - q - (intOf a).toNat)
          case atStart => exact ⟨0, [], rfl, by omega, rfl, by simpa using HZg.out⟩
          case round =>
            obtain ⟨j, U, rfl, hj, hU, hg⟩ := hrel
            obtain ⟨B', ws', hb1, hst⟩ := hg.step
            obtain ⟨L9, hL9⟩ : ∃ L9, (Z ++ U).length = L9 := ⟨_, rfl⟩
            have hc9 := hb1.c1
            rw [hL9] at hc9
            have hlen := hL9
            rw [List.length_append, HL8.out, hU] at hL9
            have Hg := Lib.hid hg
            have Hb1 := Lib.hid hb1
            have Hst := Lib.hid hst
            have Hlen := Lib.hid hlen
            have HU := Lib.hid hU
            have Hc9 := Lib.hid hc9
            clear hg hb1 hst hlen hU hc9
            by_cases hjl : j < n - q
            · have h1 := vpAnd1 j (by omega)
              have t5 : decide ((j : Int) < (n : Int) - (q : Int)) = true := by simp; omega
              obtain hj2 | hj2 : j % 2 = 0 ∨ j % 2 = 1 := by omega
              · rw [hj2] at h1
                go_wp2_with fail
                refine (appendBits_c wr p B' ws' _ Hb1.out (by rw [Hlen.out]; omega) 236 8 (by decide) (by decide)).mono ?_
                rintro e w3 hg
                obtain ⟨rfl, hg2⟩ := Hst.out _ _ _ _ _ hg
                rw [List.append_assoc] at hg2
                have Hg2 := Lib.hid hg2
                clear hg2
                clear hg
                go_wp2_with fail
                go_roundw
                case rel => exact ⟨j + 1, _, by go_num, by omega, by rw [List.length_append, HU.out, beBits_length]; omega, Hg2.out⟩
                case measure => simp [intOf] <;> omega
              · rw [hj2] at h1
                go_wp2_with fail
                refine (appendBits_c wr p B' ws' _ Hb1.out (by rw [Hlen.out]; omega) 17 8 (by decide) (by decide)).mono ?_
                rintro e w3 hg
                obtain ⟨rfl, hg2⟩ := Hst.out _ _ _ _ _ hg
                rw [List.append_assoc] at hg2
                have Hg2 := Lib.hid hg2
                clear hg2
                clear hg
                go_wp2_with fail
                go_roundw
                case rel => exact ⟨j + 1, _, by go_num, by omega, by rw [List.length_append, HU.out, beBits_length]; omega, Hg2.out⟩
                case measure => simp [intOf] <;> omega
            · have t5 : decide ((j : Int) < (n : Int) - (q : Int)) = false := by simp; omega
              go_wp2_with fail
              refine (BitArray_GetSize_c wr p 0 _ Hc9.out).mono ?_
              rintro e w3 ⟨rfl, rfl⟩
              have t9 : ((L9 : Int) == (n : Int) * 8) = true := by rw [beq_iff_eq]; omega
              go_wp2_with fail
              go_ret
              obtain ⟨m, hZ, hm⟩ := HTz.out
              have hUl := HU.out
              refine ⟨rfl, List.replicate m false ++ U, ?_, ?_, ?_⟩
              · rw [← List.append_assoc, ← hZ, Hlen.out]; omega
              · intro i hi hi2
                rw [List.length_append, List.length_replicate, hUl] at hi2
                have him : i < m := by omega
                rw [List.getElem?_append_left (by simpa using him), List.getElem?_replicate, if_pos him]
              · rw [← List.append_assoc, ← hZ]; exact Hg.out
        · obtain ⟨r, hrr⟩ : ∃ r, L % 8 = r := ⟨_, rfl⟩
          rw [hrr] at h7 hr
          have t3 : decide (0 < (r : Int)) = true := by simp; omega
          go_wp2_with fail
          clear h7 t3
          try generalize decide (0 < (r : Int)) = bb
          try generalize decide (¬r = 0) = bb2
          try generalize decide (0 < r) = bb3
          go_loopw [8] (fun a wr => ∃ (i : Nat), r ≤ i ∧ i ≤ 8 ∧ a = .int .i64 i ∧ Grown w p B (bs ++ List.replicate (k + (i - r)) false) wr) (fun a _ => 8 - (intOf a).toNat)
          case atStart => exact ⟨r, by omega, by omega, rfl, by rw [Nat.sub_self]; exact Hg.out⟩
          case round =>
            obtain ⟨i, hi1, hi8, rfl, hg⟩ := hrel
            by_cases hil : i < 8
            · obtain ⟨B', ws', hb1, hst⟩ := hg.step
              have hrep : bs ++ List.replicate (k + (i + 1 - r)) false = bs ++ List.replicate (k + (i - r)) false ++ [false] := by rw [List.append_assoc, ← List.replicate_succ', show k + (i + 1 - r) = k + (i - r) + 1 by omega]
              have hlb : (bs ++ List.replicate (k + (i - r)) false).length < 16777215 := by have := HL.out; rw [List.length_append, List.length_replicate] at *; omega
              have Hg := Lib.hid hg
              have Hst := Lib.hid hst
              have Hb1 := Lib.hid hb1
              have Hrep := Lib.hid hrep
              have Hlb := Lib.hid hlb
              clear hg hst hb1 hrep hlb
              go_wp2_with fail
              refine (appendBit_c wr p B' ws' _ Hb1.out Hlb.out false).mono ?_
              rintro e w2 hg
              obtain ⟨rfl, hg2⟩ := Hst.out _ _ _ _ _ hg
              rw [← Hrep.out] at hg2
              have Hg2 := Lib.hid hg2
              clear hg2
              clear hg
              go_wp2_with fail
              go_roundw
              case rel => exact ⟨i + 1, by omega, by omega, by go_num, Hg2.out⟩
              case measure => simp [intOf] <;> omega
            · have hi88 : i = 8 := by omega
              have t4 : decide ((i : Int) < 8) = false := by simp; omega
              have Hgg := Lib.hid hg
              clear hg
              go_wp2_with fail
              obtain ⟨Z, hZ⟩ : ∃ Z, Z = bs ++ List.replicate (k + (i - r)) false := ⟨_, rfl⟩
              obtain ⟨q, hq8⟩ : ∃ q, q = (L + (8 - r)) / 8 := ⟨_, rfl⟩
              have hL0 := HL.out
              rw [List.length_append, List.length_replicate] at hL0
              have hle0 := Hle.out
              have hfin0 := Hfin.out
              have hZl : Z.length = 8 * q := by rw [hZ, hq8, List.length_append, List.length_replicate]; omega
              have hqn : q ≤ n := by omega
              have hZg : Grown w p B Z wr := hZ ▸ Hgg.out
              have hTz : ∃ m, Z = bs ++ List.replicate m false ∧ (4 ≤ m ∨ q = n) := ⟨_, hZ, by omega⟩
              have hc2 : wr.cell? ⟨p, 1, none⟩ = some (.int .i64 (Z.length : Nat)) := by obtain ⟨_, _, hb, _⟩ := hZg.step; exact hb.c1
              obtain ⟨L8, hL8⟩ : ∃ L8, Z.length = L8 := ⟨_, rfl⟩
              rw [hL8] at hc2 hZl
              clear hZ hq8 hL0 hle0 hfin0
              have HZg := Lib.hid hZg
              have HTz := Lib.hid hTz
              have HL8 := Lib.hid hL8
              clear hZg hTz hL8
              refine (sizeBytes_c wr p L8 (by omega) hc2).mono ?_
              rintro e w2 ⟨rfl, rfl⟩
              rw [show (L8 + 7) / 8 = q by omega]
              clear hc2
              go_wp2_with fail
              go_loopw [10, 11] (fun a _ wr => ∃ (j : Nat) (U : List Bool), a = .int .i64 j ∧ j ≤ n - q ∧ U.length = 8 * j ∧ Grown w p B (Z ++ U) wr) (fun a _ _ => n - q - (intOf a).toNat)
              case atStart => exact ⟨0, [], rfl, by omega, rfl, by simpa using HZg.out⟩
              case round =>
                obtain ⟨j, U, rfl, hj, hU, hg⟩ := hrel
                obtain ⟨B', ws', hb1, hst⟩ := hg.step
                obtain ⟨L9, hL9⟩ : ∃ L9, (Z ++ U).length = L9 := ⟨_, rfl⟩
                have hc9 := hb1.c1
                rw [hL9] at hc9
                have hlen := hL9
                rw [List.length_append, HL8.out, hU] at hL9
                have Hg := Lib.hid hg
                have Hb1 := Lib.hid hb1
                have Hst := Lib.hid hst
                have Hlen := Lib.hid hlen
                have HU := Lib.hid hU
                have Hc9 := Lib.hid hc9
                clear hg hb1 hst hlen hU hc9
                by_cases hjl : j < n - q
                · have h1 := vpAnd1 j (by omega)
                  have t5 : decide ((j : Int) < (n : Int) - (q : Int)) = true := by simp; omega
                  obtain hj2 | hj2 : j % 2 = 0 ∨ j % 2 = 1 := by omega
                  · rw [hj2] at h1
                    go_wp2_with fail
                    refine (appendBits_c wr p B' ws' _ Hb1.out (by rw [Hlen.out]; omega) 236 8 (by decide) (by decide)).mono ?_
                    rintro e w3 hg
                    obtain ⟨rfl, hg2⟩ := Hst.out _ _ _ _ _ hg
                    rw [List.append_assoc] at hg2
                    have Hg2 := Lib.hid hg2
                    clear hg2
                    clear hg
                    go_wp2_with fail
                    go_roundw
                    case rel => exact ⟨j + 1, _, by go_num, by omega, by rw [List.length_append, HU.out, beBits_length]; omega, Hg2.out⟩
                    case measure => simp [intOf] <;> omega
                  · rw [hj2] at h1
                    go_wp2_with fail
                    refine (appendBits_c wr p B' ws' _ Hb1.out (by rw [Hlen.out]; omega) 17 8 (by decide) (by decide)).mono ?_
                    rintro e w3 hg
                    obtain ⟨rfl, hg2⟩ := Hst.out _ _ _ _ _ hg
                    rw [List.append_assoc] at hg2
                    have Hg2 := Lib.hid hg2
                    clear hg2
                    clear hg
                    go_wp2_with fail
                    go_roundw
                    case rel => exact ⟨j + 1, _, by go_num, by omega, by rw [List.length_append, HU.out, beBits_length]; omega, Hg2.out⟩
                    case measure => simp [intOf] <;> omega
                · have t5 : decide ((j : Int) < (n : Int) - (q : Int)) = false := by simp; omega
                  go_wp2_with fail
                  refine (BitArray_GetSize_c wr p 0 _ Hc9.out).mono ?_
                  rintro e w3 ⟨rfl, rfl⟩
                  have t9 : ((L9 : Int) == (n : Int) * 8) = true := by rw [beq_iff_eq]; omega
                  go_wp2_with fail
                  go_ret
                  obtain ⟨m, hZ, hm⟩ := HTz.out
                  have hUl := HU.out
                  refine ⟨rfl, List.replicate m false ++ U, ?_, ?_, ?_⟩
                  · rw [← List.append_assoc, ← hZ, Hlen.out]; omega
                  · intro i hi hi2
                    rw [List.length_append, List.length_replicate, hUl] at hi2
                    have him : i < m := by omega
                    rw [List.getElem?_append_left (by simpa using him), List.getElem?_replicate, if_pos him]
                  · rw [← List.append_assoc, ← hZ]; exact Hg.out
      · have t1 : decide ((k : Int) < 4) = false := by simp; omega
        go_wp2_with fail
        refine (BitArray_GetSize_c wr p 0 _ Hc1.out).mono ?_
        rintro e w2 ⟨rfl, rfl⟩
        by_cases hr : L % 8 = 0
        · rw [hr] at h7
          go_wp2_with fail
          obtain ⟨Z, hZ⟩ : ∃ Z, Z = bs ++ List.replicate (k) false := ⟨_, rfl⟩
          obtain ⟨q, hq8⟩ : ∃ q, q = L / 8 := ⟨_, rfl⟩
          have hL0 := HL.out
          rw [List.length_append, List.length_replicate] at hL0
          have hle0 := Hle.out
          have hfin0 := Hfin.out
          have hZl : Z.length = 8 * q := by rw [hZ, hq8, List.length_append, List.length_replicate]; omega
          have hqn : q ≤ n := by omega
          have hZg : Grown w p B Z wr := hZ ▸ Hg.out
          have hTz : ∃ m, Z = bs ++ List.replicate m false ∧ (4 ≤ m ∨ q = n) := ⟨_, hZ, by omega⟩
          have hc2 : wr.cell? ⟨p, 1, none⟩ = some (.int .i64 (Z.length : Nat)) := by obtain ⟨_, _, hb, _⟩ := hZg.step; exact hb.c1
          obtain ⟨L8, hL8⟩ : ∃ L8, Z.length = L8 := ⟨_, rfl⟩
          rw [hL8] at hc2 hZl
          clear hZ hq8 hL0 hle0 hfin0
          have HZg := Lib.hid hZg
          have HTz := Lib.hid hTz
          have HL8 := Lib.hid hL8
          clear hZg hTz hL8
          refine (sizeBytes_c wr p L8 (by omega) hc2).mono ?_
          rintro e w2 ⟨rfl, rfl⟩
          rw [show (L8 + 7) / 8 = q by omega]
          clear hc2
          go_wp2_with fail
          go_loopw [10, 11] (fun a _ wr => ∃ (j : Nat) (U : List Bool), a = .int .i64 j ∧ j ≤ n - q ∧ U.length = 8 * j ∧ Grown w p B (Z ++ U) wr) (fun a _ _ => n - q - (intOf a).toNat)
          case atStart => exact ⟨0, [], rfl, by omega, rfl, by simpa using HZg.out⟩
          case round =>
            obtain ⟨j, U, rfl, hj, hU, hg⟩ := hrel
            obtain ⟨B', ws', hb1, hst⟩ := hg.step
            obtain ⟨L9, hL9⟩ : ∃ L9, (Z ++ U).length = L9 := ⟨_, rfl⟩
            have hc9 := hb1.c1
            rw [hL9] at hc9
            have hlen := hL9
            rw [List.length_append, HL8.out, hU] at hL9
            have Hg := Lib.hid hg
            have Hb1 := Lib.hid hb1
            have Hst := Lib.hid hst
            have Hlen := Lib.hid hlen
            have HU := Lib.hid hU
            have Hc9 := Lib.hid hc9
            clear hg hb1 hst hlen hU hc9
            by_cases hjl : j < n - q
            · have h1 := vpAnd1 j (by omega)
              have t5 : decide ((j : Int) < (n : Int) - (q : Int)) = true := by simp; omega
              obtain hj2 | hj2 : j % 2 = 0 ∨ j % 2 = 1 := by omega
              · rw [hj2] at h1
                go_wp2_with fail
                refine (appendBits_c wr p B' ws' _ Hb1.out (by rw [Hlen.out]; omega) 236 8 (by decide) (by decide)).mono ?_
                rintro e w3 hg
                obtain ⟨rfl, hg2⟩ := Hst.out _ _ _ _ _ hg
                rw [List.append_assoc] at hg2
                have Hg2 := Lib.hid hg2
                clear hg2
                clear hg
                go_wp2_with fail
                go_roundw
                case rel => exact ⟨j + 1, _, by go_num, by omega, by rw [List.length_append, HU.out, beBits_length]; omega, Hg2.out⟩
                case measure => simp [intOf] <;> omega
              · rw [hj2] at h1
                go_wp2_with fail
                refine (appendBits_c wr p B' ws' _ Hb1.out (by rw [Hlen.out]; omega) 17 8 (by decide) (by decide)).mono ?_
                rintro e w3 hg
                obtain ⟨rfl, hg2⟩ := Hst.out _ _ _ _ _ hg
                rw [List.append_assoc] at hg2
                have Hg2 := Lib.hid hg2
                clear hg2
                clear hg
                go_wp2_with fail
                go_roundw
                case rel => exact ⟨j + 1, _, by go_num, by omega, by rw [List.length_append, HU.out, beBits_length]; omega, Hg2.out⟩
                case measure => simp [intOf] <;> omega
            · have t5 : decide ((j : Int) < (n : Int) - (q : Int)) = false := by simp; omega
              go_wp2_with fail
              refine (BitArray_GetSize_c wr p 0 _ Hc9.out).mono ?_
              rintro e w3 ⟨rfl, rfl⟩
              have t9 : ((L9 : Int) == (n : Int) * 8) = true := by rw [beq_iff_eq]; omega
              go_wp2_with fail
              go_ret
              obtain ⟨m, hZ, hm⟩ := HTz.out
              have hUl := HU.out
              refine ⟨rfl, List.replicate m false ++ U, ?_, ?_, ?_⟩
              · rw [← List.append_assoc, ← hZ, Hlen.out]; omega
              · intro i hi hi2
                rw [List.length_append, List.length_replicate, hUl] at hi2
                have him : i < m := by omega
                rw [List.getElem?_append_left (by simpa using him), List.getElem?_replicate, if_pos him]
              · rw [← List.append_assoc, ← hZ]; exact Hg.out
        · obtain ⟨r, hrr⟩ : ∃ r, L % 8 = r := ⟨_, rfl⟩
          rw [hrr] at h7 hr
          have t3 : decide (0 < (r : Int)) = true := by simp; omega
          go_wp2_with fail
          clear h7 t3
          try generalize decide (0 < (r : Int)) = bb
          try generalize decide (¬r = 0) = bb2
          try generalize decide (0 < r) = bb3
          go_loopw [8] (fun a wr => ∃ (i : Nat), r ≤ i ∧ i ≤ 8 ∧ a = .int .i64 i ∧ Grown w p B (bs ++ List.replicate (k + (i - r)) false) wr) (fun a _ => 8 - (intOf a).toNat)
          case atStart => exact ⟨r, by omega, by omega, rfl, by rw [Nat.sub_self]; exact Hg.out⟩
          case round =>
            obtain ⟨i, hi1, hi8, rfl, hg⟩ := hrel
            by_cases hil : i < 8
            · obtain ⟨B', ws', hb1, hst⟩ := hg.step
              have hrep : bs ++ List.replicate (k + (i + 1 - r)) false = bs ++ List.replicate (k + (i - r)) false ++ [false] := by rw [List.append_assoc, ← List.replicate_succ', show k + (i + 1 - r) = k + (i - r) + 1 by omega]
              have hlb : (bs ++ List.replicate (k + (i - r)) false).length < 16777215 := by have := HL.out; rw [List.length_append, List.length_replicate] at *; omega
              have Hg := Lib.hid hg
              have Hst := Lib.hid hst
              have Hb1 := Lib.hid hb1
              have Hrep := Lib.hid hrep
              have Hlb := Lib.hid hlb
              clear hg hst hb1 hrep hlb
              go_wp2_with fail
              refine (appendBit_c wr p B' ws' _ Hb1.out Hlb.out false).mono ?_
              rintro e w2 hg
              obtain ⟨rfl, hg2⟩ := Hst.out _ _ _ _ _ hg
              rw [← Hrep.out] at hg2
              have Hg2 := Lib.hid hg2
              clear hg2
              clear hg
              go_wp2_with fail
              go_roundw
              case rel => exact ⟨i + 1, by omega, by omega, by go_num, Hg2.out⟩
              case measure => simp [intOf] <;> omega
            · have hi88 : i = 8 := by omega
              have t4 : decide ((i : Int) < 8) = false := by simp; omega
              have Hgg := Lib.hid hg
              clear hg
              go_wp2_with fail
              obtain ⟨Z, hZ⟩ : ∃ Z, Z = bs ++ List.replicate (k + (i - r)) false := ⟨_, rfl⟩
              obtain ⟨q, hq8⟩ : ∃ q, q = (L + (8 - r)) / 8 := ⟨_, rfl⟩
              have hL0 := HL.out
              rw [List.length_append, List.length_replicate] at hL0
              have hle0 := Hle.out
              have hfin0 := Hfin.out
              have hZl : Z.length = 8 * q := by rw [hZ, hq8, List.length_append, List.length_replicate]; omega
              have hqn : q ≤ n := by omega
              have hZg : Grown w p B Z wr := hZ ▸ Hgg.out
              have hTz : ∃ m, Z = bs ++ List.replicate m false ∧ (4 ≤ m ∨ q = n) := ⟨_, hZ, by omega⟩
              have hc2 : wr.cell? ⟨p, 1, none⟩ = some (.int .i64 (Z.length : Nat)) := by obtain ⟨_, _, hb, _⟩ := hZg.step; exact hb.c1
              obtain ⟨L8, hL8⟩ : ∃ L8, Z.length = L8 := ⟨_, rfl⟩
              rw [hL8] at hc2 hZl
              clear hZ hq8 hL0 hle0 hfin0
              have HZg := Lib.hid hZg
              have HTz := Lib.hid hTz
              have HL8 := Lib.hid hL8
              clear hZg hTz hL8
              refine (sizeBytes_c wr p L8 (by omega) hc2).mono ?_
              rintro e w2 ⟨rfl, rfl⟩
              rw [show (L8 + 7) / 8 = q by omega]
              clear hc2
              go_wp2_with fail
              go_loopw [10, 11] (fun a _ wr => ∃ (j : Nat) (U : List Bool), a = .int .i64 j ∧ j ≤ n - q ∧ U.length = 8 * j ∧ Grown w p B (Z ++ U) wr) (fun a _ _ => n - q - (intOf a).toNat)
              case atStart => exact ⟨0, [], rfl, by omega, rfl, by simpa using HZg.out⟩
              case round =>
                obtain ⟨j, U, rfl, hj, hU, hg⟩ := hrel
                obtain ⟨B', ws', hb1, hst⟩ := hg.step
                obtain ⟨L9, hL9⟩ : ∃ L9, (Z ++ U).length = L9 := ⟨_, rfl⟩
                have hc9 := hb1.c1
                rw [hL9] at hc9
                have hlen := hL9
                rw [List.length_append, HL8.out, hU] at hL9
                have Hg := Lib.hid hg
                have Hb1 := Lib.hid hb1
                have Hst := Lib.hid hst
                have Hlen := Lib.hid hlen
                have HU := Lib.hid hU
                have Hc9 := Lib.hid hc9
                clear hg hb1 hst hlen hU hc9
                by_cases hjl : j < n - q
                · have h1 := vpAnd1 j (by omega)
                  have t5 : decide ((j : Int) < (n : Int) - (q : Int)) = true := by simp; omega
                  obtain hj2 | hj2 : j % 2 = 0 ∨ j % 2 = 1 := by omega
                  · rw [hj2] at h1
                    go_wp2_with fail
                    refine (appendBits_c wr p B' ws' _ Hb1.out (by rw [Hlen.out]; omega) 236 8 (by decide) (by decide)).mono ?_
                    rintro e w3 hg
                    obtain ⟨rfl, hg2⟩ := Hst.out _ _ _ _ _ hg
                    rw [List.append_assoc] at hg2
                    have Hg2 := Lib.hid hg2
                    clear hg2
                    clear hg
                    go_wp2_with fail
                    go_roundw
                    case rel => exact ⟨j + 1, _, by go_num, by omega, by rw [List.length_append, HU.out, beBits_length]; omega, Hg2.out⟩
                    case measure => simp [intOf] <;> omega
                  · rw [hj2] at h1
                    go_wp2_with fail
                    refine (appendBits_c wr p B' ws' _ Hb1.out (by rw [Hlen.out]; omega) 17 8 (by decide) (by decide)).mono ?_
                    rintro e w3 hg
                    obtain ⟨rfl, hg2⟩ := Hst.out _ _ _ _ _ hg
                    rw [List.append_assoc] at hg2
                    have Hg2 := Lib.hid hg2
                    clear hg2
                    clear hg
                    go_wp2_with fail
                    go_roundw
                    case rel => exact ⟨j + 1, _, by go_num, by omega, by rw [List.length_append, HU.out, beBits_length]; omega, Hg2.out⟩
                    case measure => simp [intOf] <;> omega
                · have t5 : decide ((j : Int) < (n : Int) - (q : Int)) = false := by simp; omega
                  go_wp2_with fail
                  refine (BitArray_GetSize_c wr p 0 _ Hc9.out).mono ?_
                  rintro e w3 ⟨rfl, rfl⟩
                  have t9 : ((L9 : Int) == (n : Int) * 8) = true := by rw [beq_iff_eq]; omega
                  go_wp2_with fail
                  go_ret
                  obtain ⟨m, hZ, hm⟩ := HTz.out
                  have hUl := HU.out
                  refine ⟨rfl, List.replicate m false ++ U, ?_, ?_, ?_⟩
                  · rw [← List.append_assoc, ← hZ, Hlen.out]; omega
                  · intro i hi hi2
                    rw [List.length_append, List.length_replicate, hUl] at hi2
                    have him : i < m := by omega
                    rw [List.getElem?_append_left (by simpa using him), List.getElem?_replicate, if_pos him]
                  · rw [← List.append_assoc, ← hZ]; exact Hg.out
end Go.Proofs.YtnpkihobbcglcaaGreatDoor
