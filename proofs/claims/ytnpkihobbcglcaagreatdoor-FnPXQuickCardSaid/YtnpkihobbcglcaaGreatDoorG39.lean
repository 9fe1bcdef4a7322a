/- Part 39 of the proof of FnPXQuick (a QR code that is written for a text says this text in a picture): parts of the road. No condition. -/
import Derived.Test.YtnpkihobbcglcaaGreatDoorG02
import Derived.Test.YtnpkihobbcglcaaGreatDoorG16
import Derived.Test.YtnpkihobbcglcaaGreatDoorG18
import Derived.Test.YtnpkihobbcglcaaGreatDoorG28
import Derived.Test.YtnpkihobbcglcaaGreatDoorG38
/- A stream of bits is read on; a segment of bytes. -/
open Go Go.RowKit
namespace Go.Proofs.YtnpkihobbcglcaaGreatDoor
open Go.QZ

/-- The source of bits at q; what is left of it is rest. -/
def Rd (w : World) (q D n cap : Nat) (ys : List Nat) (rest : List Bool) : Prop := ∃ a b, Src w q D n cap a b ys ∧ Left ys n (8 * a + b) rest
theorem Rd.mod {S : Nat → Prop} {w w' : World} {q D n cap : Nat} {ys : List Nat} {rest : List Bool} (h : Rd w q D n cap ys rest) (hm : QZ.Mod S w w') (h1 : ¬ S q) (h2 : ¬ S D) : Rd w' q D n cap ys rest := by
  obtain ⟨a, b, hs, hl⟩ := h
  exact ⟨a, b, ⟨hm.blk h1 hs.head, fun j hj => cell_mod hm h2 (hs.bytes j hj), hs.ne, hs.b8, hs.few, hs.an⟩, hl⟩
theorem rd_c (w : World) (q D n cap k v : Nat) (ys : List Nat) (post : List Bool) (h : Rd w q D n cap ys (beBits v k ++ post)) (hys : ∀ x ∈ ys, x < 256) (hk : k = 4 ∨ k = 6 ∨ (7 ≤ k ∧ k ≤ 12)) (hv : v < 2 ^ k) :
    Calls Tryz.prog 219 #[.pointer (some ⟨q, 0, none⟩), .int .i64 k] w fun e w' => e = .returned (.tuple #[.int .i64 v, .nilIface]) ∧ Rd w' q D n cap ys post ∧ QZ.Mod (· = q) w w' := by
  obtain ⟨a, b, hs, hl⟩ := h
  obtain ⟨h1, h2, h3⟩ := hl.take hv
  refine (readBits_c w q D n cap a b k ys hs hys hk h3).mono ?_
  rintro e w' ⟨a', b', rfl, hs', hpos, hm⟩
  exact ⟨by rw [h1], ⟨a', b', hs', by rw [hpos]; exact h2⟩, hm⟩
theorem rdAvail_c (w : World) (q D n cap : Nat) (ys : List Nat) (rest : List Bool) (h : Rd w q D n cap ys rest) : Calls Tryz.prog 218 #[.pointer (some ⟨q, 0, none⟩)] w fun e w' => e = .returned (.int .i64 rest.length) ∧ ∃ k, w.drewN k = w' := by
  obtain ⟨a, b, hs, hl⟩ := h
  refine (avail_c w q D n cap a b ys hs).mono ?_
  rintro e w' ⟨rfl, hk⟩
  exact ⟨by rw [show 8 * n - 8 * a - b = rest.length by have := hl.1; omega], hk⟩

theorem encB_cons (c : Nat) (cs : List Nat) : encB (c :: cs) = beBits c 8 ++ encB cs := by simp [encB]
theorem encB_drop (cs : List Nat) (i c : Nat) (h : cs[i]? = some c) : encB (cs.drop i) = beBits c 8 ++ encB (cs.drop (i + 1)) := by
  have hl : i < cs.length := by
    rcases Nat.lt_or_ge i cs.length with h1 | h1
    · exact h1
    · rw [List.getElem?_eq_none h1] at h; cases h
  rw [List.drop_eq_getElem_cons hl, encB_cons]
  rw [List.getElem?_eq_getElem hl] at h
  injection h with h
  rw [h]

theorem own_apart {w : World} {base base' : Nat} {E E' : TypeId} {v v' : Value} {xs xs' : List Value} (h : Own w base E v xs) (h' : Own w base' E' v' xs') (hE : E ≠ E') (k : Nat) (hk : v.ownBlock = some k) : v'.ownBlock ≠ some k := by
  intro hk'
  obtain ⟨_, h | ⟨g, cap, cur, hv, _, hg, _⟩⟩ := h
  · rw [h.1] at hk; simp [Value.ownBlock] at hk
  obtain ⟨_, h' | ⟨g', cap', cur', hv', _, hg', _⟩⟩ := h'
  · rw [h'.1] at hk'; simp [Value.ownBlock] at hk'
  rw [hv] at hk
  rw [hv'] at hk'
  simp [Value.ownBlock] at hk hk'
  subst hk; subst hk'
  rw [hg] at hg'
  simp at hg'
  exact hE hg'.2
theorem cellsN_app (k : IntKind) (a b : List Nat) : cellsN k (a ++ b) = cellsN k a ++ cellsN k b := by simp [cellsN]

/-- A segment of bytes was read: behind the text and, as a list of its own, in the list of segments. -/
def ByteSeg (w : World) (base : Nat) (q D n cap : Nat) (ys : List Nat) (out cs : List Nat) (post : List Bool) (e : Ending) (w' : World) : Prop :=
  ∃ v' S sc X, e = .returned (.tuple #[v', .slice (some ⟨S, 0, none⟩) 1 sc, .nilIface]) ∧ Own w' base 5 v' (cellsN .u8 (out ++ cs)) ∧ w'.cell? ⟨S, 0, none⟩ = some (.slice (some ⟨X, 0, none⟩) cs.length cs.length) ∧ (∀ j, j < cs.length → w'.cell? ⟨X, j, none⟩ = some (.int .u8 (nth cs j : Nat))) ∧ Rd w' q D n cap ys post ∧ QZ.Mod (fun k => k = q ∨ base ≤ k) w w' ∧ base ≤ S ∧ base ≤ X

theorem i32' : (Tryz.prog.info? 32).map (fun i => (i.zero, i.size, i.bytes)) = some (some (.slice none 0 0), 1, 24) := by kernel_rfl

set_option maxRecDepth 20000 in
set_option maxHeartbeats 1600000 in
theorem byteSeg_c (w : World) (base : Nat) (vv sv : Value) (q D n cap : Nat) (ys out cs : List Nat) (post : List Bool) (x3 x5 : Value) (h : Rd w q D n cap ys (encB cs ++ post)) (hys : ∀ x ∈ ys, x < 256) (hcs : ∀ x ∈ cs, x < 256) (ho : Own w base 5 vv (cellsN .u8 out)) (hs : Own w base 32 sv []) (hq : q < base) (hD : D < base) (hb : base ≤ w.heap.size) (hc1 : 1 ≤ cs.length) (hc2 : cs.length ≤ 1000) (hol : out.length ≤ 1000) :
    Calls Tryz.prog 226 #[.pointer (some ⟨q, 0, none⟩), vv, .int .i64 cs.length, x3, sv, x5] w (ByteSeg w base q D n cap ys out cs post) := by
  obtain ⟨c, hc⟩ : ∃ c, cs.length = c := ⟨_, rfl⟩
  have hmk := fun w => make_run (P := Tryz.prog) Tryz.underlying32 i32 rfl (c : Int) (c : Int) c c rfl rfl (Nat.le_refl _) (by omega) (by omega) w
  have hel : (encB cs ++ post).length = 8 * c + post.length := by rw [List.length_append, encB_len, hc]
  have t1 : decide (((8 * c + post.length : Nat) : Int) < 8 * (c : Int)) = false := by simp <;> omega
  have t2 : decide ((8 : Int) * (c : Int) ≤ ((8 * c + post.length : Nat) : Int)) = true := by simp <;> omega
  rw [hc]
  rw [hc] at hc1 hc2
  have Hh := Lib.hid h
  have Ho := Lib.hid ho
  have Hs := Lib.hid hs
  have Hc := Lib.hid hc
  have Hel := Lib.hid hel
  clear h ho hs hc hel
  go_enter Tryz.func226, Tryz.ntmps226
  go_wp2_with fail
  refine (rdAvail_c w q D n cap ys _ Hh.out).mono ?_
  rintro e w1 ⟨rfl, kk, rfl⟩
  rw [Hel.out]
  obtain ⟨AL, hAL⟩ : ∃ AL, 8 * c + post.length = AL := ⟨_, rfl⟩
  rw [hAL]
  have hALl : 8 * c ≤ AL := by omega
  have t3 : decide ((AL : Int) < 8 * (c : Int)) = false := by simp <;> omega
  have hmk1 := hmk (w.drewN kk)
  clear hmk t1 t2
  have HAL := Lib.hid hAL
  clear hAL
  go_wp2_with fail
  clear hmk1
  have hmA : QZ.Mod (fun _ => False) w ((w.drewN kk).alloc (zrow 5 (.int .u8 0) c)) := (mod_drewN (fun _ => False) w kk).alloc _
  have hX0 : Blk ((w.drewN kk).alloc (zrow 5 (.int .u8 0) c)) w.heap.size (cellsN .u8 (frontTo cs 0 c)) := by
    rw [frontTo_zero]; exact made_u8 (w.drewN kk) c
  have hszA : ((w.drewN kk).alloc (zrow 5 (.int .u8 0) c)).heap.size = w.heap.size + 1 := World.size_alloc _ _
  have hRA := Hh.out.mod hmA (fun f => f) (fun f => f)
  have hoA := Ho.out.mod hmA (fun _ _ f => f)
  have hsA := Hs.out.mod hmA (fun _ _ f => f)
  generalize (w.drewN kk).alloc (zrow 5 (.int .u8 0) c) = wA at *
  obtain ⟨X, hX⟩ : ∃ X, w.heap.size = X := ⟨_, rfl⟩
  try rw [show (w.drewN kk).heap.size = X from hX]
  try rw [hX]
  rw [hX] at hX0 hszA hb
  have hoB := hoA.block
  have hsB := hsA.block
  have HmA := Lib.hid hmA
  have HX0 := Lib.hid hX0
  have HszA := Lib.hid hszA
  have HRA := Lib.hid hRA
  have HoA := Lib.hid hoA
  have HsA := Lib.hid hsA
  clear hmA hX0 hszA hRA hoA hsA
  go_loopw [16, 17, 18] (fun a _ _ wr => ∃ i : Nat, i ≤ c ∧ a = .int .i64 i ∧ Rd wr q D n cap ys (encB (cs.drop i) ++ post) ∧ Blk wr X (cellsN .u8 (frontTo cs i c)) ∧ QZ.Mod (fun k => k = q ∨ k = X) wA wr) (fun a _ _ _ => c - (intOf a).toNat)
  case atStart => exact ⟨0, by omega, rfl, HRA.out, HX0.out, QZ.Mod.refl _ _⟩
  case round =>
    obtain ⟨i, hi, rfl, hR, hbX, hm⟩ := hrel
    by_cases hlt : i < c
    · have hil : i < cs.length := by rw [Hc.out]; exact hlt
      obtain ⟨b, hbe⟩ : ∃ b, cs[i]? = some b := ⟨cs[i], List.getElem?_eq_getElem hil⟩
      have hb8 : b < 256 := hcs b (List.mem_of_getElem? hbe)
      have hnb : nth cs i = b := by unfold nth; rw [List.getD_eq_getElem?_getD, hbe]; rfl
      rw [encB_drop cs i b hbe, List.append_assoc] at hR
      have hf := frontTo_succ cs i c hil hlt
      rw [hnb] at hf
      have hqX : ¬ q = X := by omega
      have hfl := frontTo_len cs i c (by omega) hi
      have HR := Lib.hid hR
      have HbX := Lib.hid hbX
      have Hm := Lib.hid hm
      have Hbe := Lib.hid hbe
      have Hnb := Lib.hid hnb
      have Hf := Lib.hid hf
      have Hfl := Lib.hid hfl
      clear hR hbX hm hbe hnb hf hfl
      go_wp2_with fail
      refine (rd_c wr q D n cap 8 b ys _ HR.out hys (by omega) (by omega)).mono ?_
      rintro e w2 ⟨rfl, hR2, hm2⟩
      have hbX2 := hm2.blk (show ¬ X = q by omega) HbX.out
      have hcell := hbX2.cell i
      rw [cellsN_get _ _ _ (by rw [Hfl.out]; exact hlt)] at hcell
      have hfr := hbX2.frozen i
      have hb3 := hbX2.set i (.int .u8 b)
      rw [cellsN_set, Hf.out] at hb3
      have hM3 := (Hm.out.trans (hm2.mono (fun k _ e => .inl e))).setCell (p := ⟨X, i, none⟩) (.inr (.inr rfl)) (.int .u8 b)
      have hset := (QZ.Mod.refl (fun k => k = X) w2).setCell (p := ⟨X, i, none⟩) (.inr rfl) (.int .u8 b)
      have hR3 := hR2.mod hset (by omega) (by omega)
      generalize nth (frontTo cs i c) i = old at *
      have Hb3 := Lib.hid hb3
      have HM3 := Lib.hid hM3
      have HR3 := Lib.hid hR3
      clear hb3 hM3 hR3
      clear hbX2 hm2 hR2 hset
      go_wp2_with fail
      go_roundw
      case rel => exact ⟨i + 1, by omega, by go_num, HR3.out, Hb3.out, HM3.out⟩
      case measure => simp [intOf] <;> omega
    · obtain rfl : c = i := by omega
      have hfa := frontTo_all cs c (by rw [Hc.out]; exact Nat.le_refl _)
      rw [Hc.out, Nat.sub_self, List.replicate_zero, List.append_nil] at hfa
      rw [hfa] at hbX
      have hdr : cs.drop c = [] := List.drop_eq_nil_of_le (by rw [Hc.out]; exact Nat.le_refl _)
      rw [hdr] at hR
      have hR' : Rd wr q D n cap ys post := hR
      have hszr := hm.size
      have hoR := HoA.out.mod hm (fun k hk s => by have := Ho.out.block k hk; rcases s with e | e <;> omega)
      have hsR := HsA.out.mod hm (fun k hk s => by have := Hs.out.block k hk; rcases s with e | e <;> omega)
      have hone1 : ∀ u ∈ cellsN .u8 cs, u.oneCell' = true := by
        intro u hu
        obtain ⟨j, _, rfl⟩ := List.mem_map.1 hu
        rfl
      have hl1 : (cellsN .u8 cs).length = c := by rw [cellsN_length]; exact Hc.out
      have hlo : (cellsN .u8 out).length = out.length := cellsN_length _ _
      have hnews1 : ∀ j u, (cellsN .u8 cs)[j]? = some u → wr.cell? ((⟨X, 0, none⟩ : Addr).add j) = some u := by
        intro j u hu
        rw [Addr.add_lit, Nat.zero_add, hbX.cell]; exact hu
      have hbr : base ≤ wr.heap.size := by have := HszA.out; omega
      have hap := own_apart hoR hsR (by decide)
      have hap2 := own_apart hsR hoR (by decide)
      have hXo : vv.ownBlock ≠ some X := fun e => absurd (Ho.out.block X e).2 (by rw [hX]; exact Nat.lt_irrefl _)
      have hXs : sv.ownBlock ≠ some X := fun e => absurd (Hs.out.block X e).2 (by rw [hX]; exact Nat.lt_irrefl _)
      have hfew1 : (cellsN .u8 out).length + c ≤ 1000000 := by rw [hlo]; omega
      have hmW := HmA.out.none (S := fun k => k = q ∨ base ≤ k)
      have hmR := hmW.trans (hm.mono (fun k _ e => by rcases e with e | e <;> omega))
      have hqo : vv.ownBlock ≠ some q := fun e => by have := (Ho.out.block q e).1; omega
      have hDo : vv.ownBlock ≠ some D := fun e => by have := (Ho.out.block D e).1; omega
      have hqs : sv.ownBlock ≠ some q := fun e => by have := (Hs.out.block q e).1; omega
      have hDs : sv.ownBlock ≠ some D := fun e => by have := (Hs.out.block D e).1; omega
      have hvb := hoR.block
      have hsb := hsR.block
      have hafter : ∀ v7 w7, Hid (Own w7 base 5 v7 (cellsN .u8 out ++ cellsN .u8 cs)) → Hid (QZ.Mod (fun k => vv.ownBlock = some k) wr w7) →
          Hid (Own (w7.alloc (.cells #[.slice (some ⟨X, 0, none⟩) c c] 32)) base 32 sv []) ∧ Hid (base ≤ (w7.alloc (.cells #[.slice (some ⟨X, 0, none⟩) c c] 32)).heap.size) ∧
          Hid (∀ j u, [Value.slice (some ⟨X, 0, none⟩) c c][j]? = some u → (w7.alloc (.cells #[.slice (some ⟨X, 0, none⟩) c c] 32)).cell? ((⟨w7.heap.size, 0, none⟩ : Addr).add j) = some u) := fun v7 w7 h1 h2 => by
        have hs7 := hsR.mod h2.out (fun k hk s => hap2 k hk s)
        refine ⟨hs7.alloc _, ?_, ?_⟩
        · show _ ≤ _
          rw [World.size_alloc]; have := h2.out.size; omega
        · intro j u hu
          rw [Addr.add_lit, Nat.zero_add, (Blk.new w7 [.slice (some ⟨X, 0, none⟩) c c] 32).cell]; exact hu
      have hone2 : ∀ u ∈ [Value.slice (some ⟨X, 0, none⟩) c c], u.oneCell' = true := by intro u hu; rw [List.mem_singleton.1 hu]; rfl
      have hfin : ∀ v7 w7 v9 w9, Hid (Own w7 base 5 v7 (cellsN .u8 out ++ cellsN .u8 cs)) → Hid (QZ.Mod (fun k => vv.ownBlock = some k) wr w7) → Hid (Own w9 base 32 v9 ([] ++ [.slice (some ⟨X, 0, none⟩) c c])) → Hid (QZ.Mod (fun k => sv.ownBlock = some k) (w7.alloc (.cells #[.slice (some ⟨X, 0, none⟩) c c] 32)) w9) →
          ByteSeg w base q D n cap ys out cs post (.returned (.tuple #[v7, v9, .nilIface])) w9 := fun v7 w7 v9 w9 h1 h2 h3 h4 => by
        obtain ⟨S, sc, hv9, hSb, _, _, hc9⟩ := h3.out.full (by simp)
        have hs7 := hsR.mod h2.out (fun k hk s => hap2 k hk s)
        have hmal := (QZ.Mod.refl (fun _ => False) w7).alloc (.cells #[.slice (some ⟨X, 0, none⟩) c c] 32)
        have hap7 := own_apart h1.out hs7 (by decide)
        have ho9 := (h1.out.mod hmal (fun _ _ f => f)).mod h4.out (fun k hk s => hap7 k hk s)
        have hX9 := ((hbX.keep h2.out hXo).mod' hmal).keep h4.out hXs
        refine ⟨v7, S, sc, X, by rw [hv9]; rfl, by rw [cellsN_app]; exact ho9, ?_, fun j hj => ?_, ((hR'.mod h2.out hqo hDo).mod hmal (fun f => f) (fun f => f)).mod h4.out hqs hDs, ((hmR.trans (h2.out.mono (fun k _ hk => .inr (hvb k hk).1))).trans hmal.none).trans (h4.out.mono (fun k _ hk => .inr (hsb k hk).1)), hSb, hb⟩
        · rw [Hc.out]; exact hc9 0 _ rfl
        · rw [hX9.cell, cellsN_get _ _ _ hj]
      have HR' := Lib.hid hR'
      have HbX := Lib.hid hbX
      have Hm := Lib.hid hm
      have HoR := Lib.hid hoR
      have HsR := Lib.hid hsR
      have Hone1 := Lib.hid hone1
      have Hl1 := Lib.hid hl1
      have Hnews1 := Lib.hid hnews1
      have Hbr := Lib.hid hbr
      have Hap := Lib.hid hap
      have Hap2 := Lib.hid hap2
      have HXo := Lib.hid hXo
      have HXs := Lib.hid hXs
      have Hfew1 := Lib.hid hfew1
      have HmR := Lib.hid hmR
      have Hszr := Lib.hid hszr
      have Hfa := Lib.hid hfa
      have Hafter := Lib.hid hafter
      have Hone2 := Lib.hid hone2
      have Hfin := Lib.hid hfin
      have Hvb := Lib.hid hvb
      have Hsb := Lib.hid hsb
      clear hR' hbX hm hoR hsR hone1 hl1 hnews1 hbr hap hap2 hXo hXs hfew1 hmR hszr hfa hafter hone2 hfin hvb hsb
      clear hR hmW
      go_wp2_with (at_builtin; first | (refine wpList_app rfl (.tmp 49) (.tmp 50) 32 rfl base 5 (.int .u8 0) 1 Tryz.underlying32 i32 rfl _ (cellsN .u8 out) rfl HoR.out ⟨X, 0, none⟩ c c (cellsN .u8 cs) rfl Hl1.out Hnews1.out Hone1.out Hfew1.out (by decide) Hbr.out ?_; intro v7 w7 ho7 hm7 hv7; obtain ⟨HsE, HN8, Hnews2⟩ := Hafter.out v7 w7 ho7 hm7) | (refine wpList_app rfl (.tmp 52) (.tmp 54) 33 rfl base 32 (.slice none 0 0) 24 Tryz.underlying33 i32' rfl _ [] rfl HsE.out ⟨w7.heap.size, 0, none⟩ 1 1 [.slice (some ⟨X, 0, none⟩) c c] rfl rfl Hnews2.out Hone2.out (by simp) (by decide) HN8.out ?_; intro v9 w9 ho9 hm9 hv9))
      go_ret3
      exact Hfin.out v7 w7 v9 w9 ho7 hm7 ho9 hm9
end Go.Proofs.YtnpkihobbcglcaaGreatDoor
/- A segment of digits is read. -/
open Go Go.RowKit
namespace Go.Proofs.YtnpkihobbcglcaaGreatDoor
open Go.QZ

/-- Behind the text stands what was read. -/
def SegTo (w : World) (base q D n cap : Nat) (ys out : List Nat) (rest : List Bool) (bv : Value) (wr : World) : Prop := ∃ vv, vv = bv ∧ Own wr base 5 vv (cellsN .u8 out) ∧ Rd wr q D n cap ys rest ∧ QZ.Mod (fun k => k = q ∨ base ≤ k) w wr ∧ base ≤ wr.heap.size
def SegOut (w : World) (base q D n cap : Nat) (ys out : List Nat) (post : List Bool) (e : Ending) (w' : World) : Prop := ∃ v', e = .returned (.tuple #[v', .nilIface]) ∧ Own w' base 5 v' (cellsN .u8 out) ∧ Rd w' q D n cap ys post ∧ QZ.Mod (fun k => k = q ∨ base ≤ k) w w'

/-- What is needed to append one byte. -/
theorem push_of {w : World} {base : Nat} {v : Value} {xs : List Value} (d : Nat) (h : Hid (Own w base 5 v xs)) (hb : base ≤ w.heap.size) :
    Hid (Own (w.alloc (.cells #[.int .u8 d] 5)) base 5 v xs) ∧ Hid (base ≤ (w.alloc (.cells #[.int .u8 d] 5)).heap.size) ∧ Hid (∀ j u, [Value.int .u8 d][j]? = some u → (w.alloc (.cells #[.int .u8 d] 5)).cell? ((⟨w.heap.size, 0, none⟩ : Addr).add j) = some u) := by
  refine ⟨h.out.alloc _, ?_, ?_⟩
  · show _ ≤ _
    rw [World.size_alloc]; omega
  · intro j u hu
    rw [Addr.add_lit, Nat.zero_add, (Blk.new w [.int .u8 d] 5).cell]; exact hu
theorem one_u8 (d : Nat) : ∀ u ∈ [Value.int .u8 d], u.oneCell' = true := by intro u hu; rw [List.mem_singleton.1 hu]; rfl
theorem size_of_mod {S : Nat → Prop} {w w' : World} {N : Nat} {o : Obj} (h : Hid (QZ.Mod S (w.alloc o) w')) (hb : N ≤ w.heap.size) : N ≤ w'.heap.size := by
  have := h.out.size
  rw [World.size_alloc] at this
  omega
theorem SegTo.push {w wr w7 : World} {base q D n cap : Nat} {ys out : List Nat} {rest : List Bool} {v v7 : Value} {d : Nat} (h : SegTo w base q D n cap ys out rest v wr) (hq : q < base) (hD : D < base) (ho7 : Hid (Own w7 base 5 v7 (cellsN .u8 out ++ [.int .u8 d]))) (hm7 : Hid (QZ.Mod (fun k => v.ownBlock = some k) (wr.alloc (.cells #[.int .u8 d] 5)) w7)) : SegTo w base q D n cap ys (out ++ [d]) rest v7 w7 := by
  obtain ⟨vv, rfl, h1, h2, h3, h4⟩ := h
  have hb := h1.block
  have hma := (QZ.Mod.refl (fun _ => False) wr).alloc (.cells #[.int .u8 d] 5)
  refine ⟨v7, rfl, by rw [cellsN_app]; exact ho7.out, (h2.mod hma (fun f => f) (fun f => f)).mod hm7.out (fun e => by have := (hb q e).1; omega) (fun e => by have := (hb D e).1; omega), (h3.trans hma.none).trans (hm7.out.mono (fun k _ hk => .inr (hb k hk).1)), size_of_mod hm7 h4⟩
theorem SegTo.rd {w wr w2 : World} {base q D n cap : Nat} {ys out : List Nat} {rest post : List Bool} {v : Value} (h : SegTo w base q D n cap ys out rest v wr) (hq : q < base) (hR : Rd w2 q D n cap ys post) (hm : QZ.Mod (· = q) wr w2) : SegTo w base q D n cap ys out post v w2 := by
  obtain ⟨vv, rfl, h1, h2, h3, h4⟩ := h
  have hb := h1.block
  exact ⟨vv, rfl, h1.mod hm (fun k hk e => by have := hb k hk; omega), hR, h3.trans (hm.mono (fun k _ e => .inl e)), Nat.le_trans h4 hm.size⟩

theorem hold {p : Prop} (h : Hid p) : p := h

theorem dig3 (a b c : Nat) (ha : 48 ≤ a ∧ a ≤ 57) (hb : 48 ≤ b ∧ b ≤ 57) (hc : 48 ≤ c ∧ c ≤ 57) : ∃ v x y z t : Nat, (a - 48) * 100 + (b - 48) * 10 + (c - 48) = v ∧ v < 1000 ∧ v / 100 = x ∧ v / 10 = t ∧ t % 10 = y ∧ v % 10 = z ∧ 48 + x = a ∧ 48 + y = b ∧ 48 + z = c := ⟨_, _, _, _, _, rfl, by omega, rfl, rfl, rfl, rfl, by omega, by omega, by omega⟩

set_option maxRecDepth 20000 in
set_option maxHeartbeats 1600000 in
theorem numSeg_c (w : World) (base : Nat) (vv : Value) (q D n cap : Nat) (ys out cs : List Nat) (post : List Bool) (h : Rd w q D n cap ys (encN cs ++ post)) (hys : ∀ x ∈ ys, x < 256) (hcs : ∀ c ∈ cs, 48 ≤ c ∧ c ≤ 57) (ho : Own w base 5 vv (cellsN .u8 out)) (hq : q < base) (hD : D < base) (hb : base ≤ w.heap.size) (hc2 : cs.length ≤ 1000) (hol : out.length ≤ 1000) :
    Calls Tryz.prog 224 #[.pointer (some ⟨q, 0, none⟩), vv, .int .i64 cs.length] w (SegOut w base q D n cap ys (out ++ cs) post) := by
  have hS0 : SegTo w base q D n cap ys (out ++ []) (encN cs ++ post) vv w := ⟨vv, rfl, by rw [List.append_nil]; exact ho, h, QZ.Mod.refl _ _, hb⟩
  have Hh := Lib.hid h
  have Ho := Lib.hid ho
  have HS0 := Lib.hid hS0
  clear h ho hS0
  go_enter Tryz.func224, Tryz.ntmps224
  go_wp2_with fail
  go_loopw [2, 1, 8, 9] (fun c r _ _ wr => ∃ (m : Nat) (done rest : List Nat), c = .int .i64 m ∧ rest.length = m ∧ cs = done ++ rest ∧ SegTo w base q D n cap ys (out ++ done) (encN rest ++ post) r wr) (fun c _ _ _ _ => (intOf c).toNat)
  case atStart => exact ⟨_, [], cs, rfl, rfl, rfl, HS0.out⟩
  case round =>
    obtain ⟨m, done, rest, rfl, hrl, hcd, hS⟩ := hrel
    have hml : m ≤ 1000 := by rw [hcd, List.length_append] at hc2; omega
    have hdl : (out ++ done).length ≤ 2000 := by rw [hcd, List.length_append] at hc2; rw [List.length_append]; omega
    have hrd : ∀ c ∈ rest, 48 ≤ c ∧ c ≤ 57 := fun c hc => hcs c (by rw [hcd]; exact List.mem_append_right _ hc)
    by_cases hm3 : 3 ≤ m
    · obtain ⟨a, b, c, r, rfl⟩ : ∃ a b c r, rest = a :: b :: c :: r := by
        match rest, hrl with
        | a :: b :: c :: r, _ => exact ⟨a, b, c, r, rfl⟩
        | [], h => simp at h; omega
        | [a], h => simp at h; omega
        | [a, b], h => simp at h; omega
      obtain ⟨v, x, y, z, t, e0, e1, e2, e3, e4, e5, e6, e7, e8⟩ := dig3 a b c (hrd a (by simp)) (hrd b (by simp)) (hrd c (by simp))
      have hm3i : (m : Int) - 3 = ((m - 3 : Nat) : Int) := by omega
      have hen : encN (a :: b :: c :: r) ++ post = beBits v 10 ++ (encN r ++ post) := by rw [← e0, ← List.append_assoc]; rfl
      rw [hen] at hS
      have hl2 : r.length = m - 3 := by simp at hrl; omega
      have hcd2 : cs = (done ++ [a, b, c]) ++ r := by rw [hcd]; simp
      obtain ⟨vv1, hvv1, hown, hR, hM, hbw⟩ := id hS
      have tv : decide ((1000 : Int) ≤ (v : Int)) = false := by simp <;> omega
      have i2 : (v : Int) / 100 = (x : Int) := by omega
      have i3 : (v : Int) / 10 = (t : Int) := by omega
      have i4 : (t : Int) % 10 = (y : Int) := by omega
      have i5 : (v : Int) % 10 = (z : Int) := by omega
      have i6 : (48 : Int) + (x : Int) = (a : Int) := by omega
      have i7 : (48 : Int) + (y : Int) = (b : Int) := by omega
      have i8 : (48 : Int) + (z : Int) = (c : Int) := by omega
      have ha8 : a < 256 := by omega
      have hb8 : b < 256 := by omega
      have hc8 : c < 256 := by omega
      have hol2 : (cellsN .u8 (out ++ done)).length ≤ 2000 := by rw [cellsN_length]; exact hdl
      have hf1 : (cellsN .u8 (out ++ done)).length + 1 ≤ 1000000 := by omega
      have hf2 : (cellsN .u8 (out ++ done) ++ [Value.int .u8 a]).length + 1 ≤ 1000000 := by rw [List.length_append]; show _ + 1 + 1 ≤ _; omega
      have hf3 : (cellsN .u8 (out ++ done) ++ [Value.int .u8 a] ++ [Value.int .u8 b]).length + 1 ≤ 1000000 := by rw [List.length_append, List.length_append]; show _ + 1 + 1 + 1 ≤ _; omega
      have Hf1 := Lib.hid hf1
      have Hf2 := Lib.hid hf2
      have Hf3 := Lib.hid hf3
      have HS := Lib.hid hS
      have Hown := Lib.hid hown
      have HR := Lib.hid hR
      have HM := Lib.hid hM
      have Hen := Lib.hid hen
      have Hcd := Lib.hid hcd
      have Hcd2 := Lib.hid hcd2
      have Hl2 := Lib.hid hl2
      have Hm3i := Lib.hid hm3i
      have Hrd := Lib.hid hrd
      have Hdl := Lib.hid hdl
      have Hol2 := Lib.hid hol2
      have He0 := Lib.hid e0
      have Hvv1 := Lib.hid hvv1
      clear hf1 hf2 hf3 hS hown hR hM hen hcd hcd2 hl2 hm3i hrd hdl hol2 e0 hvv1
      go_wp2_with fail
      refine (rd_c wr q D n cap 10 v ys _ HR.out hys (by omega) (by omega)).mono ?_
      rintro e w2 ⟨rfl, hR2, hm2⟩
      have hS2 := HS.out.rd hq hR2 hm2
      clear hR2 hm2
      obtain ⟨vv2, hvv2, hown2, _, _, hbw2⟩ := id hS2
      subst hvv2
      obtain ⟨Ho5, HN5, Hn5⟩ := push_of a hown2 hbw2
      have HS2 := Lib.hid hS2
      have Hown2 := Lib.hid hown2
      clear hS2 hown2
      go_wp2_with (at_builtin; refine hold ?_)
      refine wpList_app rfl (.tmp 34) (.tmp 39) 32 rfl base 5 (.int .u8 0) 1 Tryz.underlying32 i32 rfl vv2 (cellsN .u8 (out ++ done)) rfl Ho5.out ⟨w2.heap.size, 0, none⟩ 1 1 [.int .u8 a] rfl rfl Hn5.out (one_u8 a) Hf1.out (by decide) HN5.out ?_
      intro v7 w7 ho7 hm7 hv7
      have hbw7 := size_of_mod hm7 hbw2
      obtain ⟨Ho8, HN8, Hn8⟩ := push_of b ho7 hbw7
      clear hv7
      go_wp2_with (at_builtin; refine hold ?_)
      refine wpList_app rfl (.tmp 41) (.tmp 47) 32 rfl base 5 (.int .u8 0) 1 Tryz.underlying32 i32 rfl v7 (cellsN .u8 (out ++ done) ++ [.int .u8 a]) rfl Ho8.out ⟨w7.heap.size, 0, none⟩ 1 1 [.int .u8 b] rfl rfl Hn8.out (one_u8 b) Hf2.out (by decide) HN8.out ?_
      intro v9 w9 ho9 hm9 hv9
      have hbw9 := size_of_mod hm9 hbw7
      obtain ⟨HoA, HNA, HnA⟩ := push_of c ho9 hbw9
      clear hv9
      go_wp2_with (at_builtin; refine hold ?_)
      refine wpList_app rfl (.tmp 49) (.tmp 54) 32 rfl base 5 (.int .u8 0) 1 Tryz.underlying32 i32 rfl v9 (cellsN .u8 (out ++ done) ++ [.int .u8 a] ++ [.int .u8 b]) rfl HoA.out ⟨w9.heap.size, 0, none⟩ 1 1 [.int .u8 c] rfl rfl HnA.out (one_u8 c) Hf3.out (by decide) HNA.out ?_
      intro vB wB hoB hmB hvB
      clear hvB
      go_wp2_with fail
      have hA := HS2.out.push hq hD ho7 hm7
      have hB := hA.push hq hD (by rw [cellsN_app]; exact ho9) hm9
      have hC := hB.push hq hD (by rw [cellsN_app, cellsN_app]; exact hoB) hmB
      simp only [List.append_assoc, List.cons_append, List.nil_append] at hC
      go_roundw
      case rel => exact ⟨m - 3, done ++ [a, b, c], r, by rw [← Hm3i.out], Hl2.out, Hcd2.out, hC⟩
      case measure => simp [intOf] <;> omega
    · obtain rfl | rfl | rfl : m = 0 ∨ m = 1 ∨ m = 2 := by omega
      · obtain rfl : rest = [] := List.eq_nil_of_length_eq_zero hrl
        rw [List.append_nil] at hcd
        rw [show encN [] ++ post = post from rfl, ← hcd] at hS
        obtain ⟨v1, hv1, s1, s2, s3, s4⟩ := id hS
        have Hs1 := Lib.hid s1
        have Hs2 := Lib.hid s2
        have Hs3 := Lib.hid s3
        have HS := Lib.hid hS
        have Hcd := Lib.hid hcd
        clear s1 s2 s3 hS hcd
        go_wp2_with fail
        go_ret2
        exact ⟨v1, by rw [hv1]; rfl, Hs1.out, Hs2.out, Hs3.out⟩
      · obtain ⟨a, rfl⟩ := List.length_eq_one_iff.1 hrl
        have had := hrd a (by simp)
        obtain ⟨v, hv⟩ : ∃ v, a - 48 = v := ⟨_, rfl⟩
        rw [show encN [a] = beBits v 4 by rw [← hv]; rfl] at hS
        obtain ⟨vv1, hvv1, hown, hR, hM, hbw⟩ := id hS
        have tv : decide ((10 : Int) ≤ (v : Int)) = false := by simp <;> omega
        have i6 : (48 : Int) + (v : Int) = (a : Int) := by omega
        have ha8 : a < 256 := by omega
        have hol2 : (cellsN .u8 (out ++ done)).length ≤ 2000 := by rw [cellsN_length]; exact hdl
        have hf1 : (cellsN .u8 (out ++ done)).length + 1 ≤ 1000000 := by omega
        have Hf1 := Lib.hid hf1
        have Hown := Lib.hid hown
        have HR := Lib.hid hR
        have HM := Lib.hid hM
        have Hrd := Lib.hid hrd
        have Hdl := Lib.hid hdl
        have Hol2 := Lib.hid hol2
        have Hv := Lib.hid hv
        have Hvv1 := Lib.hid hvv1
        have HS := Lib.hid hS
        have Hcd := Lib.hid hcd
        clear hf1 hown hR hM hrd hdl hol2 hv hvv1 hS hcd
        go_wp2_with fail
        refine (rd_c wr q D n cap 4 v ys _ HR.out hys (by omega) (by omega)).mono ?_
        rintro e w2 ⟨rfl, hR2, hm2⟩
        have hS2 := HS.out.rd hq hR2 hm2
        clear hR2 hm2
        obtain ⟨vv2, hvv2, hown2, _, _, hbw2⟩ := id hS2
        subst hvv2
        obtain ⟨Ho5, HN5, Hn5⟩ := push_of a hown2 hbw2
        have HS2 := Lib.hid hS2
        have Hown2 := Lib.hid hown2
        clear hS2 hown2
        go_wp2_with (at_builtin; refine hold ?_)
        refine wpList_app rfl (.tmp 112) (.tmp 116) 32 rfl base 5 (.int .u8 0) 1 Tryz.underlying32 i32 rfl vv2 (cellsN .u8 (out ++ done)) rfl Ho5.out ⟨w2.heap.size, 0, none⟩ 1 1 [.int .u8 a] rfl rfl Hn5.out (one_u8 a) Hf1.out (by decide) HN5.out ?_
        intro v7 w7 ho7 hm7 hv7
        clear hv7
        go_wp2_with fail
        go_ret2
        obtain ⟨v1, hv1, s1, s2, s3, s4⟩ := HS2.out.push hq hD ho7 hm7
        rw [List.append_assoc, ← Hcd.out] at s1
        exact ⟨v1, by rw [hv1]; rfl, s1, s2, s3⟩
      · obtain ⟨a, b, rfl⟩ : ∃ a b, rest = [a, b] := by
          match rest, hrl with
          | [a, b], _ => exact ⟨a, b, rfl⟩
          | [], h => simp at h
          | [a], h => simp at h
          | a :: b :: c :: r, h => simp at h
        have had := hrd a (by simp)
        have hbd := hrd b (by simp)
        obtain ⟨v, hv⟩ : ∃ v, (a - 48) * 10 + (b - 48) = v := ⟨_, rfl⟩
        rw [show encN [a, b] = beBits v 7 by rw [← hv]; rfl] at hS
        obtain ⟨vv1, hvv1, hown, hR, hM, hbw⟩ := id hS
        obtain ⟨x, hx⟩ : ∃ x, v / 10 = x := ⟨_, rfl⟩
        obtain ⟨y, hy⟩ : ∃ y, v % 10 = y := ⟨_, rfl⟩
        have tv : decide ((100 : Int) ≤ (v : Int)) = false := by simp <;> omega
        have i4 : (v : Int) / 10 = (x : Int) := by omega
        have i5 : (v : Int) % 10 = (y : Int) := by omega
        have i6 : (48 : Int) + (x : Int) = (a : Int) := by omega
        have i7 : (48 : Int) + (y : Int) = (b : Int) := by omega
        have ha8 : a < 256 := by omega
        have hb8 : b < 256 := by omega
        have hvl : v < 100 := by omega
        have hol2 : (cellsN .u8 (out ++ done)).length ≤ 2000 := by rw [cellsN_length]; exact hdl
        have hf1 : (cellsN .u8 (out ++ done)).length + 1 ≤ 1000000 := by omega
        have hf2 : (cellsN .u8 (out ++ done) ++ [Value.int .u8 a]).length + 1 ≤ 1000000 := by rw [List.length_append]; show _ + 1 + 1 ≤ _; omega
        have Hf1 := Lib.hid hf1
        have Hf2 := Lib.hid hf2
        have Hown := Lib.hid hown
        have HR := Lib.hid hR
        have HM := Lib.hid hM
        have Hrd := Lib.hid hrd
        have Hdl := Lib.hid hdl
        have Hol2 := Lib.hid hol2
        have Hv := Lib.hid hv
        have Hvv1 := Lib.hid hvv1
        have HS := Lib.hid hS
        have Hcd := Lib.hid hcd
        clear hf1 hf2 hown hR hM hrd hdl hol2 hv hvv1 hS hcd
        go_wp2_with fail
        refine (rd_c wr q D n cap 7 v ys _ HR.out hys (by omega) (by omega)).mono ?_
        rintro e w2 ⟨rfl, hR2, hm2⟩
        have hS2 := HS.out.rd hq hR2 hm2
        clear hR2 hm2
        obtain ⟨vv2, hvv2, hown2, _, _, hbw2⟩ := id hS2
        subst hvv2
        obtain ⟨Ho5, HN5, Hn5⟩ := push_of a hown2 hbw2
        have HS2 := Lib.hid hS2
        have Hown2 := Lib.hid hown2
        clear hS2 hown2
        go_wp2_with (at_builtin; refine hold ?_)
        refine wpList_app rfl (.tmp 78) (.tmp 83) 32 rfl base 5 (.int .u8 0) 1 Tryz.underlying32 i32 rfl vv2 (cellsN .u8 (out ++ done)) rfl Ho5.out ⟨w2.heap.size, 0, none⟩ 1 1 [.int .u8 a] rfl rfl Hn5.out (one_u8 a) Hf1.out (by decide) HN5.out ?_
        intro v7 w7 ho7 hm7 hv7
        have hbw7 := size_of_mod hm7 hbw2
        obtain ⟨Ho8, HN8, Hn8⟩ := push_of b ho7 hbw7
        clear hv7
        go_wp2_with (at_builtin; refine hold ?_)
        refine wpList_app rfl (.tmp 85) (.tmp 90) 32 rfl base 5 (.int .u8 0) 1 Tryz.underlying32 i32 rfl v7 (cellsN .u8 (out ++ done) ++ [.int .u8 a]) rfl Ho8.out ⟨w7.heap.size, 0, none⟩ 1 1 [.int .u8 b] rfl rfl Hn8.out (one_u8 b) Hf2.out (by decide) HN8.out ?_
        intro v9 w9 ho9 hm9 hv9
        clear hv9
        go_wp2_with fail
        go_ret2
        have hA := HS2.out.push hq hD ho7 hm7
        have hB := hA.push hq hD (by rw [cellsN_app]; exact ho9) hm9
        obtain ⟨v1, hv1, s1, s2, s3, s4⟩ := hB
        simp only [List.append_assoc, List.cons_append, List.nil_append] at s1
        rw [← Hcd.out] at s1
        exact ⟨v1, by rw [hv1]; rfl, s1, s2, s3⟩
end Go.Proofs.YtnpkihobbcglcaaGreatDoor
/- A character of the alphanumeric set. -/
open Go Go.RowKit
namespace Go.Proofs.YtnpkihobbcglcaaGreatDoor
open Go.QZ

set_option maxRecDepth 20000 in
set_option maxHeartbeats 1600000 in
theorem alnChar_c (w : World) (v : Nat) (hv : v < 45) : Calls Tryz.prog 253 #[.int .i64 v] w fun e w' => e = .returned (.tuple #[.int .u8 (nth alnC v : Nat), .nilIface]) ∧ w = w' := by
  obtain rfl | rfl | rfl | rfl | rfl | rfl | rfl | rfl | rfl | rfl | rfl | rfl | rfl | rfl | rfl | rfl | rfl | rfl | rfl | rfl | rfl | rfl | rfl | rfl | rfl | rfl | rfl | rfl | rfl | rfl | rfl | rfl | rfl | rfl | rfl | rfl | rfl | rfl | rfl | rfl | rfl | rfl | rfl | rfl | rfl : v = 0 ∨ v = 1 ∨ v = 2 ∨ v = 3 ∨ v = 4 ∨ v = 5 ∨ v = 6 ∨ v = 7 ∨ v = 8 ∨ v = 9 ∨ v = 10 ∨ v = 11 ∨ v = 12 ∨ v = 13 ∨ v = 14 ∨ v = 15 ∨ v = 16 ∨ v = 17 ∨ v = 18 ∨ v = 19 ∨ v = 20 ∨ v = 21 ∨ v = 22 ∨ v = 23 ∨ v = 24 ∨ v = 25 ∨ v = 26 ∨ v = 27 ∨ v = 28 ∨ v = 29 ∨ v = 30 ∨ v = 31 ∨ v = 32 ∨ v = 33 ∨ v = 34 ∨ v = 35 ∨ v = 36 ∨ v = 37 ∨ v = 38 ∨ v = 39 ∨ v = 40 ∨ v = 41 ∨ v = 42 ∨ v = 43 ∨ v = 44 := by omega
  all_goals
    go_enter Tryz.func253, Tryz.ntmps253
    go_wp2
    go_ret2
    exact ⟨rfl, rfl⟩
end Go.Proofs.YtnpkihobbcglcaaGreatDoor
/- A segment of alphanumeric characters is read. -/
open Go Go.RowKit
namespace Go.Proofs.YtnpkihobbcglcaaGreatDoor
open Go.QZ

theorem aln2 (a b : Nat) (ha : a < 256 ∧ alnOf a ≠ 99) (hb : b < 256 ∧ alnOf b ≠ 99) : ∃ v x y : Nat, alnOf a * 45 + alnOf b = v ∧ v < 2048 ∧ v / 45 = x ∧ v % 45 = y ∧ x < 45 ∧ y < 45 ∧ nth alnC x = a ∧ nth alnC y = b := by
  obtain ⟨a1, a2⟩ := aln_back a ha.1 ha.2
  obtain ⟨b1, b2⟩ := aln_back b hb.1 hb.2
  refine ⟨_, alnOf a, alnOf b, rfl, by omega, by omega, by omega, a1, b1, a2, b2⟩

set_option maxRecDepth 20000 in
set_option maxHeartbeats 1600000 in
theorem alnSeg_c (w : World) (base : Nat) (vv : Value) (q D n cap : Nat) (ys out cs : List Nat) (post : List Bool) (h : Rd w q D n cap ys (encA cs ++ post)) (hys : ∀ x ∈ ys, x < 256) (hcs : ∀ c ∈ cs, c < 256 ∧ alnOf c ≠ 99) (ho : Own w base 5 vv (cellsN .u8 out)) (hq : q < base) (hD : D < base) (hb : base ≤ w.heap.size) (hc2 : cs.length ≤ 1000) (hol : out.length ≤ 1000) :
    Calls Tryz.prog 225 #[.pointer (some ⟨q, 0, none⟩), vv, .int .i64 cs.length, .bool false] w (SegOut w base q D n cap ys (out ++ cs) post) := by
  have hS0 : SegTo w base q D n cap ys (out ++ []) (encA cs ++ post) vv w := ⟨vv, rfl, by rw [List.append_nil]; exact ho, h, QZ.Mod.refl _ _, hb⟩
  obtain ⟨sz, cp, hsh⟩ : ∃ sz cp, (vv = .slice none 0 0 ∧ sz = 0 ∧ cp = 0) ∨ ∃ g, vv = .slice (some ⟨g, 0, none⟩) sz cp := by
    rcases ho.either with h | ⟨g, cap', h, _⟩
    · exact ⟨0, 0, .inl ⟨h.1, rfl, rfl⟩⟩
    · exact ⟨_, _, .inr ⟨g, h⟩⟩
  obtain ⟨aa, hvv⟩ : ∃ aa, vv = .slice aa sz cp := by
    rcases hsh with ⟨h, rfl, rfl⟩ | ⟨g, h⟩
    · exact ⟨_, h⟩
    · exact ⟨_, h⟩
  subst hvv
  clear hsh
  have Hh := Lib.hid h
  have Ho := Lib.hid ho
  have HS0 := Lib.hid hS0
  clear h ho hS0
  go_enter Tryz.func225, Tryz.ntmps225
  go_wp2_with fail
  go_loopw [2, 1, 11, 12, 13] (fun c r _ _ _ wr => ∃ (m : Nat) (done rest : List Nat), c = .int .i64 m ∧ rest.length = m ∧ cs = done ++ rest ∧ SegTo w base q D n cap ys (out ++ done) (encA rest ++ post) r wr) (fun c _ _ _ _ _ => (intOf c).toNat)
  case atStart => exact ⟨_, [], cs, rfl, rfl, rfl, HS0.out⟩
  case round =>
    obtain ⟨m, done, rest, rfl, hrl, hcd, hS⟩ := hrel
    have hml : m ≤ 1000 := by rw [hcd, List.length_append] at hc2; omega
    have hdl : (out ++ done).length ≤ 2000 := by rw [hcd, List.length_append] at hc2; rw [List.length_append]; omega
    have hrd : ∀ c ∈ rest, c < 256 ∧ alnOf c ≠ 99 := fun c hc => hcs c (by rw [hcd]; exact List.mem_append_right _ hc)
    have hol2 : (cellsN .u8 (out ++ done)).length ≤ 2000 := by rw [cellsN_length]; exact hdl
    have hf1 : (cellsN .u8 (out ++ done)).length + 1 ≤ 1000000 := by omega
    by_cases hm2 : 2 ≤ m
    · obtain ⟨a, b, r, rfl⟩ : ∃ a b r, rest = a :: b :: r := by
        match rest, hrl with
        | a :: b :: r, _ => exact ⟨a, b, r, rfl⟩
        | [], h => simp at h; omega
        | [a], h => simp at h; omega
      obtain ⟨v, x, y, e0, e1, e2, e3, hxl, hyl, e6, e7⟩ := aln2 a b (hrd a (by simp)) (hrd b (by simp))
      have hm2i : (m : Int) - 2 = ((m - 2 : Nat) : Int) := by omega
      have hen : encA (a :: b :: r) ++ post = beBits v 11 ++ (encA r ++ post) := by rw [← e0, ← List.append_assoc]; rfl
      rw [hen] at hS
      have hl2 : r.length = m - 2 := by simp at hrl; omega
      have hcd2 : cs = (done ++ [a, b]) ++ r := by rw [hcd]; simp
      obtain ⟨vv1, hvv1, hown, hR, hM, hbw⟩ := id hS
      have i2 : (v : Int) / 45 = (x : Int) := by omega
      have i3 : (v : Int) % 45 = (y : Int) := by omega
      have ha8 : a < 256 := (hrd a (by simp)).1
      have hb8 : b < 256 := (hrd b (by simp)).1
      have hf2 : (cellsN .u8 (out ++ done) ++ [Value.int .u8 a]).length + 1 ≤ 1000000 := by rw [List.length_append]; show _ + 1 + 1 ≤ _; omega
      have Hf1 := Lib.hid hf1
      have Hf2 := Lib.hid hf2
      have HS := Lib.hid hS
      have Hown := Lib.hid hown
      have HR := Lib.hid hR
      have HM := Lib.hid hM
      have Hen := Lib.hid hen
      have Hcd := Lib.hid hcd
      have Hcd2 := Lib.hid hcd2
      have Hl2 := Lib.hid hl2
      have Hm2i := Lib.hid hm2i
      have Hrd := Lib.hid hrd
      have Hdl := Lib.hid hdl
      have Hol2 := Lib.hid hol2
      have He0 := Lib.hid e0
      have Hvv1 := Lib.hid hvv1
      have He6 := Lib.hid e6
      have He7 := Lib.hid e7
      clear hf1 hf2 hS hown hR hM hen hcd hcd2 hl2 hm2i hrd hdl hol2 e0 hvv1 e6 e7
      go_wp2_with fail
      refine (rd_c wr q D n cap 11 v ys _ HR.out hys (by omega) (by omega)).mono ?_
      rintro e w2 ⟨rfl, hR2, hm3⟩
      have hS2 := HS.out.rd hq hR2 hm3
      clear hR2 hm3
      go_wp2_with fail
      refine (alnChar_c w2 x hxl).mono ?_
      rintro e w3 ⟨rfl, rfl⟩
      rw [He6.out]
      obtain ⟨vv2, hvv2, hown2, _, _, hbw2⟩ := id hS2
      subst hvv2
      obtain ⟨Ho5, HN5, Hn5⟩ := push_of a hown2 hbw2
      have HS2 := Lib.hid hS2
      have Hown2 := Lib.hid hown2
      clear hS2 hown2
      go_wp2_with (at_builtin; refine hold ?_)
      refine wpList_app rfl (.tmp 43) (.tmp 45) 32 rfl base 5 (.int .u8 0) 1 Tryz.underlying32 i32 rfl vv2 (cellsN .u8 (out ++ done)) rfl Ho5.out ⟨w2.heap.size, 0, none⟩ 1 1 [.int .u8 a] rfl rfl Hn5.out (one_u8 a) Hf1.out (by decide) HN5.out ?_
      intro v7 w7 ho7 hm7 hv7
      have hbw7 := size_of_mod hm7 hbw2
      obtain ⟨Ho8, HN8, Hn8⟩ := push_of b ho7 hbw7
      clear hv7
      go_wp2_with fail
      refine (alnChar_c w7 y hyl).mono ?_
      rintro e w3 ⟨rfl, rfl⟩
      rw [He7.out]
      go_wp2_with (at_builtin; refine hold ?_)
      refine wpList_app rfl (.tmp 53) (.tmp 55) 32 rfl base 5 (.int .u8 0) 1 Tryz.underlying32 i32 rfl v7 (cellsN .u8 (out ++ done) ++ [.int .u8 a]) rfl Ho8.out ⟨w7.heap.size, 0, none⟩ 1 1 [.int .u8 b] rfl rfl Hn8.out (one_u8 b) Hf2.out (by decide) HN8.out ?_
      intro v9 w9 ho9 hm9 hv9
      clear hv9
      go_wp2_with fail
      have hA := HS2.out.push hq hD ho7 hm7
      have hB := hA.push hq hD (by rw [cellsN_app]; exact ho9) hm9
      simp only [List.append_assoc, List.cons_append, List.nil_append] at hB
      go_roundw
      case rel => exact ⟨m - 2, done ++ [a, b], r, by rw [← Hm2i.out], Hl2.out, Hcd2.out, hB⟩
      case measure => simp [intOf] <;> omega
    · obtain rfl | rfl : m = 0 ∨ m = 1 := by omega
      · obtain rfl : rest = [] := List.eq_nil_of_length_eq_zero hrl
        rw [List.append_nil] at hcd
        rw [show encA [] ++ post = post from rfl, ← hcd] at hS
        obtain ⟨v1, hv1, s1, s2, s3, s4⟩ := id hS
        have Hs1 := Lib.hid s1
        have Hs2 := Lib.hid s2
        have Hs3 := Lib.hid s3
        have HS := Lib.hid hS
        have Hcd := Lib.hid hcd
        clear s1 s2 s3 hS hcd
        go_wp2_with fail
        go_ret2
        exact ⟨v1, by rw [hv1]; rfl, Hs1.out, Hs2.out, Hs3.out⟩
      · obtain ⟨a, rfl⟩ := List.length_eq_one_iff.1 hrl
        have had := hrd a (by simp)
        obtain ⟨hxl, hxa⟩ := aln_back a had.1 had.2
        have ha8 := had.1
        obtain ⟨v, hv⟩ : ∃ v, alnOf a = v := ⟨_, rfl⟩
        rw [hv] at hxl hxa
        rw [show encA [a] = beBits v 6 by rw [← hv]; rfl] at hS
        obtain ⟨vv1, hvv1, hown, hR, hM, hbw⟩ := id hS
        clear had
        have Hf1 := Lib.hid hf1
        have Hown := Lib.hid hown
        have HR := Lib.hid hR
        have HM := Lib.hid hM
        have Hrd := Lib.hid hrd
        have Hdl := Lib.hid hdl
        have Hol2 := Lib.hid hol2
        have Hv := Lib.hid hv
        have Hvv1 := Lib.hid hvv1
        have HS := Lib.hid hS
        have Hcd := Lib.hid hcd
        have Hxa := Lib.hid hxa
        clear hf1 hown hR hM hrd hdl hol2 hv hvv1 hS hcd hxa
        go_wp2_with fail
        refine (rd_c wr q D n cap 6 v ys _ HR.out hys (by omega) (by omega)).mono ?_
        rintro e w2 ⟨rfl, hR2, hm3⟩
        have hS2 := HS.out.rd hq hR2 hm3
        clear hR2 hm3
        go_wp2_with fail
        refine (alnChar_c w2 v hxl).mono ?_
        rintro e w3 ⟨rfl, rfl⟩
        rw [Hxa.out]
        obtain ⟨vv2, hvv2, hown2, _, _, hbw2⟩ := id hS2
        subst hvv2
        obtain ⟨Ho5, HN5, Hn5⟩ := push_of a hown2 hbw2
        have HS2 := Lib.hid hS2
        have Hown2 := Lib.hid hown2
        clear hS2 hown2
        go_wp2_with (at_builtin; refine hold ?_)
        refine wpList_app rfl (.tmp 81) (.tmp 83) 32 rfl base 5 (.int .u8 0) 1 Tryz.underlying32 i32 rfl vv2 (cellsN .u8 (out ++ done)) rfl Ho5.out ⟨w2.heap.size, 0, none⟩ 1 1 [.int .u8 a] rfl rfl Hn5.out (one_u8 a) Hf1.out (by decide) HN5.out ?_
        intro v7 w7 ho7 hm7 hv7
        clear hv7
        go_wp2_with fail
        go_ret2
        obtain ⟨v1, hv1, s1, s2, s3, s4⟩ := HS2.out.push hq hD ho7 hm7
        rw [List.append_assoc, ← Hcd.out] at s1
        exact ⟨v1, by rw [hv1]; rfl, s1, s2, s3⟩
end Go.Proofs.YtnpkihobbcglcaaGreatDoor
/- The decoder's result; the name of a level. -/
open Go Go.RowKit
namespace Go.Proofs.YtnpkihobbcglcaaGreatDoor
open Go.QZ

theorem lvlStr_c (w : World) (l : Nat) (hl : l < 4) : Calls Tryz.prog 229 #[.int .i64 l] w fun e w' => (∃ s : ByteArray, e = .returned (.string s)) ∧ w = w' := by
  obtain rfl | rfl | rfl | rfl : l = 0 ∨ l = 1 ∨ l = 2 ∨ l = 3 := by omega
  all_goals
    go_enter Tryz.func229, Tryz.ntmps229
    go_wp2
    go_ret
    exact ⟨⟨_, rfl⟩, rfl⟩

theorem newResult_c (w : World) (A : Option Addr) (n cap : Nat) (s lv : ByteArray) (sg : Value) (x4 x5 x6 : Int) (hn : n ≤ 100000) (hsg : (∃ a b c, sg = .slice a b c)) :
    Calls Tryz.prog 228 #[.slice A n cap, .string s, sg, .string lv, .int .i64 x4, .int .i64 x5, .int .i64 x6] w fun e w' => e = .returned (.pointer (some ⟨w.heap.size, 0, none⟩)) ∧ Blk w' w.heap.size [.slice A n cap, .int .i64 (8 * n : Nat), .string s, sg, .string lv, .int .i64 0, .int .i64 0, .nilIface, .int .i64 x5, .int .i64 x4, .int .i64 x6] ∧ QZ.Mod (fun _ => False) w w' := by
  obtain ⟨a, b, c, rfl⟩ := hsg
  obtain ⟨n8, hn8⟩ : ∃ n8, 8 * n = n8 := ⟨_, rfl⟩
  have hn8i : (8 : Int) * (n : Int) = (n8 : Int) := by omega
  rw [hn8]
  have hnew := Lib.hid (fun ty => Blk.new w [.slice A n cap, .int .i64 n8, .string s, .slice a b c, .string lv, .int .i64 0, .int .i64 0, .nilIface, .int .i64 x5, .int .i64 x4, .int .i64 x6] ty)
  go_enter Tryz.func228, Tryz.ntmps228
  go_wp2
  go_ret
  exact ⟨rfl, hnew.out _, (QZ.Mod.refl _ _).alloc _⟩
end Go.Proofs.YtnpkihobbcglcaaGreatDoor
