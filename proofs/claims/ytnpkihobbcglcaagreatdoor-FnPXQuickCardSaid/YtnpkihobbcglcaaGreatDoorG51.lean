/- Part 51 of the proof of FnPXQuick (a QR code that is written for a text says this text in a picture): parts of the road. No condition. -/
import Derived.Test.YtnpkihobbcglcaaGreatDoorG24
import Derived.Test.YtnpkihobbcglcaaGreatDoorG46
/- Modules are taken out of rows of pixels. -/
open Go Go.RowKit
namespace Go.Proofs.YtnpkihobbcglcaaGreatDoor
open Go.QZ

def bl (g : Nat → Bool) (j : Nat) : List Value := (List.range j).map fun x => .bool (g x)
theorem bl_len (g : Nat → Bool) (j : Nat) : (bl g j).length = j := by simp [bl]
theorem bl_step (g : Nat → Bool) (j : Nat) : bl g (j + 1) = bl g j ++ [.bool (g j)] := by unfold bl; rw [List.range_succ, List.map_append]; rfl
theorem bl_get (g : Nat → Bool) (j x : Nat) (h : x < j) : (bl g j)[x]? = some (.bool (g x)) := by simp [bl, h]

def TakenRows (w : World) (n : Nat) (f : Nat → Nat → Bool) (e : Ending) (w' : World) : Prop := ∃ R cap, e = .returned (.tuple #[.slice (some ⟨R, 0, none⟩) n cap, .bool true]) ∧ Rows2 w' R n n f ∧ QZ.Mod (fun _ => False) w w'
/-- j modules of a row are taken. -/
def RowTo (N2 : Nat) (g : Nat → Bool) (j : Nat) (wo : World) (bv : Value) (wz : World) : Prop := ∃ rv, rv = bv ∧ Own wz N2 4 rv (bl g j) ∧ QZ.Mod (fun k => N2 ≤ k) wo wz
/-- y rows are taken. -/
def RowsTo (base n : Nat) (f : Nat → Nat → Bool) (y : Nat) (w : World) (bv : Value) (wr : World) : Prop := ∃ vv us, vv = bv ∧ Rowed base n f y vv us wr ∧ QZ.Mod (fun k => base ≤ k) w wr

set_option maxRecDepth 20000 in
set_option maxHeartbeats 1600000 in
theorem taken_c (w : World) (R W H n s m0 m1 m2 m3 cap : Nat) (f : Nat → Nat → Bool) (h : Rows2 w R W H f) (hn : 1 ≤ n) (hn2 : n ≤ 45) (hs : 1 ≤ s) (hs2 : s ≤ 4) (hm0 : m0 ≤ 15) (hm2 : m2 ≤ 15) (hW : m0 + s * n ≤ W) (hH : m2 + s * n ≤ H) (hW2 : W ≤ 300) (hH2 : H ≤ 300) :
    Calls Tryz.prog 27 #[.slice (some ⟨R, 0, none⟩) H cap, .int .i64 s, .agg #[.int .i64 m0, .int .i64 m1, .int .i64 m2, .int .i64 m3], .int .i64 n, .int .i64 n] w (TakenRows w n (fun x y => f (m0 + s * x + s / 2) (m2 + s * y + s / 2))) := by
  have hB := Blk.new w [.int .i64 m0, .int .i64 m1, .int .i64 m2, .int .i64 m3] 59
  have hmB := (QZ.Mod.refl (fun _ => False) w).alloc (.cells [.int .i64 m0, .int .i64 m1, .int .i64 m2, .int .i64 m3].toArray 59)
  have hsB := World.size_alloc w (.cells [.int .i64 m0, .int .i64 m1, .int .i64 m2, .int .i64 m3].toArray 59)
  obtain ⟨sh, hsh⟩ : ∃ sh, s / 2 = sh := ⟨_, rfl⟩
  have hshi : (s : Int) / 2 = (sh : Int) := by omega
  have Hh := Lib.hid h
  have HB := Lib.hid hB
  have HmB := Lib.hid hmB
  have HsB := Lib.hid hsB
  have HW := Lib.hid hW
  have HH := Lib.hid hH
  have Hsh := Lib.hid hsh
  clear h hB hmB hsB hW hH hsh
  go_enter Tryz.func27, Tryz.ntmps27
  go_wp2_with fail
  change Code.wp _ _ _ _ (w.alloc (.cells [.int .i64 m0, .int .i64 m1, .int .i64 m2, .int .i64 m3].toArray 59))
  generalize w.alloc (.cells [.int .i64 m0, .int .i64 m1, .int .i64 m2, .int .i64 m3].toArray 59) = wA at *
  obtain ⟨B, hBB⟩ : ∃ B, w.heap.size = B := ⟨_, rfl⟩
  rw [hBB] at HB HsB ⊢
  go_loopw [13, 14, 15, 16, 17, 12] (fun a _ _ _ _ o wr => ∃ y : Nat, y ≤ n ∧ a = .int .i64 y ∧ RowsTo (B + 1) n (fun x y => f (m0 + s * x + sh) (m2 + s * y + sh)) y wA o wr) (fun a _ _ _ _ _ _ => n - (intOf a).toNat)
  case atStart => exact ⟨0, by omega, rfl, _, [], rfl, Rowed.start _ _ _ _, QZ.Mod.refl _ _⟩
  case round =>
    obtain ⟨y, hy, rfl, vv, us, rfl, hro, hm⟩ := hrel
    have hszA := hm.size
    have hsA := HsB.out
    have hbB := hm.blk (show ¬ B + 1 ≤ B by omega) HB.out
    have b0 := hbB.cell 0
    have b2 := hbB.cell 2
    have hmw : QZ.Mod (fun k => w.heap.size ≤ k) w wr := (mod_from0 (mod_start _ _) HmB.out).trans (hm.mono (fun k _ hk => by omega))
    by_cases hlt : y < n
    · obtain ⟨sy, hsy⟩ : ∃ sy, s * y = sy := ⟨_, rfl⟩
      have hsyi : (s : Int) * (y : Int) = (sy : Int) := by rw [← hsy]; exact (Int.natCast_mul s y).symm
      have hsyl : sy + s ≤ s * n := by rw [← hsy, ← Nat.mul_succ]; exact Nat.mul_le_mul_left s hlt
      obtain ⟨kk, hkk⟩ : ∃ kk, m2 + sy + sh = kk := ⟨_, rfl⟩
      have hsl : sy ≤ 180 := by have := Nat.mul_le_mul hs2 hn2; omega
      have hkH : kk < H := by have := HH.out; have := Hsh.out; omega
      have hkki : (m2 : Int) + (sy : Int) + (sh : Int) = (kk : Int) := by omega
      have hrr := Hh.out.old hmw (fun _ h => h)
      obtain ⟨G, cg, g1, g2⟩ := hrr kk hkH
      have g1w := g1
      have Hro := Lib.hid hro
      have Hm := Lib.hid hm
      have HbB := Lib.hid hbB
      have Hmw := Lib.hid hmw
      have Hsy := Lib.hid hsy
      have Hkk := Lib.hid hkk
      have Hrr := Lib.hid hrr
      have Hg2 := Lib.hid g2
      have Hg1w := Lib.hid g1w
      have HszA := Lib.hid hszA
      have HsA := Lib.hid hsA
      have Hsyl := Lib.hid hsyl
      clear hro hm hbB hmw hsy hkk hrr g2 g1w hszA hsA hsyl
      go_wp2_with fail
      generalize decide ((y : Int) < (n : Int)) = bb
      try generalize decide ((H : Int) ≤ (kk : Int)) = bk
      try generalize decide (H ≤ kk) = bk2
      obtain ⟨wo, hwo⟩ : ∃ wo : World, wo = wr := ⟨_, rfl⟩
      subst hwo
      clear b0 b2 g1
      go_loopw [16, 15, 17] (fun a o _ wz => ∃ x : Nat, x ≤ n ∧ a = .int .i64 x ∧ RowTo wo.heap.size (fun x => f (m0 + s * x + sh) kk) x wo o wz) (fun a _ _ _ => n - (intOf a).toNat)
      case atStart => exact ⟨0, by omega, rfl, _, rfl, Own.start _ _ _, QZ.Mod.refl _ _⟩
      case round =>
        obtain ⟨x, hx, rfl, rv, rfl, hown, hmz⟩ := hrel
        by_cases hxl : x < n
        · obtain ⟨sx, hsx⟩ : ∃ sx, s * x = sx := ⟨_, rfl⟩
          have hsxi : (s : Int) * (x : Int) = (sx : Int) := by rw [← hsx]; exact (Int.natCast_mul s x).symm
          have hsxl : sx + s ≤ s * n := by rw [← hsx, ← Nat.mul_succ]; exact Nat.mul_le_mul_left s hxl
          have hsl2 : sx ≤ 180 := by have := Nat.mul_le_mul hs2 hn2; omega
          obtain ⟨ii, hii⟩ : ∃ ii, m0 + sx + sh = ii := ⟨_, rfl⟩
          have hiW : ii < W := by have := HW.out; have := Hsh.out; omega
          have hiii : (m0 : Int) + (sx : Int) + (sh : Int) = (ii : Int) := by omega
          have hBz : wr.cell? ⟨B, 0, none⟩ = some (.int .i64 m0) := cell_mod hmz (by have := HsA.out; have := HszA.out; omega) (HbB.out.at 0 rfl)
          have hgz := cell_old hmz (fun _ h => h) Hg1w.out
          have hfz := cell_old hmz (fun _ h => h) (Hg2.out ii hiW)
          have hstep := bl_step (fun x => f (m0 + s * x + sh) kk) x
          simp only [hsx, hii] at hstep
          generalize f ii kk = bv at *
          have hown5 := hown.alloc (.cells #[.bool bv] 4)
          have hnews : ∀ j u, [Value.bool bv][j]? = some u → (wr.alloc (.cells #[.bool bv] 4)).cell? ((⟨wr.heap.size, 0, none⟩ : Addr).add j) = some u := by
            intro j u hu
            rw [Addr.add_lit, Nat.zero_add, (Blk.new wr [.bool bv] 4).cell]; exact hu
          have hone : ∀ u ∈ [Value.bool bv], u.oneCell' = true := by intro u hu; rw [List.mem_singleton.1 hu]; rfl
          have hfew : (bl (fun x => f (m0 + s * x + sh) kk) x).length + 1 ≤ 1000000 := by rw [bl_len]; omega
          have hszz := hmz.size
          have hN5 : wo.heap.size ≤ (wr.alloc (.cells #[.bool bv] 4)).heap.size := by rw [World.size_alloc]; omega
          have hblk := hown.block
          have hmz2 := hmz.alloc (.cells #[.bool bv] 4)
          have Hstep := Lib.hid hstep
          have Hown5 := Lib.hid hown5
          have Hnews := Lib.hid hnews
          have Hone := Lib.hid hone
          have Hfew := Lib.hid hfew
          have HN5 := Lib.hid hN5
          have Hblk := Lib.hid hblk
          have Hmz2 := Lib.hid hmz2
          have Hsx := Lib.hid hsx
          have Hii := Lib.hid hii
          clear hstep hown5 hnews hone hfew hN5 hblk hmz2 hsx hii
          clear hown hmz
          go_wp2_with (at_builtin; refine wpList_app rfl (.tmp 57) (.tmp 65) 56 rfl wo.heap.size 4 (.bool false) 1 Tryz.underlying56 i4 rfl _ (bl (fun x => f (m0 + s * x + sh) kk) x) rfl Hown5.out ⟨wr.heap.size, 0, none⟩ 1 1 [.bool bv] rfl rfl Hnews.out Hone.out Hfew.out (by decide) HN5.out ?_; intro v7 w7 ho7 hm7 hv7; obtain ⟨g7, cap7, hv7e⟩ := own_shape ho7; subst hv7e)
          go_roundw
          case rel => exact ⟨x + 1, by omega, by go_num, _, rfl, by rw [Hstep.out]; exact ho7.out, Hmz2.out.trans (hm7.out.mono (fun q _ hq => (Hblk.out q hq).1))⟩
          case measure => simp [intOf] <;> omega
        · obtain rfl : n = x := by omega
          obtain ⟨g7, cap7, rfl, hg7, hg8, _, hc7⟩ := hown.full (by rw [bl_len]; omega)
          rw [bl_len] at hown ⊢
          have hro4 := Hro.out.mod hmz (fun k hk => .inr hk)
          have hM4 := Hm.out.trans (hmz.mono (fun k _ hk => by have := HszA.out; have := HsA.out; omega))
          have hsz5 := World.size_alloc wr (.cells #[.slice (some ⟨g7, 0, none⟩) n cap7] 56)
          have hszz := hmz.size
          have hmA := (QZ.Mod.refl (fun _ => False) wr).alloc (.cells #[.slice (some ⟨g7, 0, none⟩) n cap7] 56)
          have ho5 := hro4.2.1.alloc (.cells #[.slice (some ⟨g7, 0, none⟩) n cap7] 56)
          have hN5 : B + 1 ≤ (wr.alloc (.cells #[.slice (some ⟨g7, 0, none⟩) n cap7] 56)).heap.size := by rw [hsz5]; have := HszA.out; have := HsA.out; omega
          have hnews : ∀ j u, [Value.slice (some ⟨g7, 0, none⟩) n cap7][j]? = some u → (wr.alloc (.cells #[.slice (some ⟨g7, 0, none⟩) n cap7] 56)).cell? ((⟨wr.heap.size, 0, none⟩ : Addr).add j) = some u := by
            intro j u hu
            rw [Addr.add_lit, Nat.zero_add, (Blk.new wr [.slice (some ⟨g7, 0, none⟩) n cap7] 56).cell]; exact hu
          have hone : ∀ u ∈ [Value.slice (some ⟨g7, 0, none⟩) n cap7], u.oneCell' = true := by intro u hu; rw [List.mem_singleton.1 hu]; rfl
          have hfew : us.length + 1 ≤ 1000000 := by have := hro4.1; omega
          have hrowat : RowAt (B + 1) (wr.alloc (.cells #[.slice (some ⟨g7, 0, none⟩) n cap7] 56)) (.slice (some ⟨g7, 0, none⟩) n cap7) n (fun x => f (m0 + s * x + sh) (m2 + s * y + sh)) :=
            ⟨g7, cap7, rfl, fun x hx => by rw [Hsy.out, Hkk.out]; exact cell_mod hmA (fun f => f) (hc7 x _ (bl_get _ _ _ hx)), by have := HszA.out; have := HsA.out; omega, by rw [hsz5]; omega⟩
          have hown1 := Hro.out.2.1.block
          have hown2 := hro4.2.1.block
          have hstep : ∀ v7 w7, Own w7 (B + 1) 56 v7 (us ++ [.slice (some ⟨g7, 0, none⟩) n cap7]) → QZ.Mod (fun k => vv.ownBlock = some k) (wr.alloc (.cells #[.slice (some ⟨g7, 0, none⟩) n cap7] 56)) w7 → Rowed (B + 1) n (fun x y => f (m0 + s * x + sh) (m2 + s * y + sh)) (y + 1) v7 (us ++ [.slice (some ⟨g7, 0, none⟩) n cap7]) w7 := fun v7 w7 h1 h2 =>
            (hro4.mod hmA (fun _ f => f.elim)).step (by omega) hrowat (fun G' c e => by
              injection e with e1 _ _
              injection e1 with e1
              injection e1 with e1
              intro e2
              have := (hown1 _ e2).2
              omega) h1 h2
          have hM5 := hM4.alloc (.cells #[.slice (some ⟨g7, 0, none⟩) n cap7] 56)
          have Ho5 := Lib.hid ho5
          have HN5 := Lib.hid hN5
          have Hnews := Lib.hid hnews
          have Hone := Lib.hid hone
          have Hfew := Lib.hid hfew
          have Hstep := Lib.hid hstep
          have HM5 := Lib.hid hM5
          have Hown2 := Lib.hid hown2
          clear ho5 hN5 hnews hone hfew hstep hM5 hown2
          clear hro4 hrowat hM4 hown hmz hc7
          go_wp2_with (at_builtin; refine wpList_app rfl (.tmp 67) (.tmp 69) 24 rfl (B + 1) 56 (.slice none 0 0) 24 Tryz.underlying24 i56 rfl _ us rfl Ho5.out ⟨wr.heap.size, 0, none⟩ 1 1 [.slice (some ⟨g7, 0, none⟩) n cap7] rfl rfl Hnews.out Hone.out Hfew.out (by decide) HN5.out ?_; intro v7 w7 ho7 hm7 hv7; obtain ⟨g9, cap9, hv7e⟩ := own_shape ho7; subst hv7e)
          go_roundw
          case rel => exact ⟨y + 1, by omega, by go_num, _, _, rfl, Hstep.out _ _ ho7.out hm7.out, HM5.out.trans (hm7.out.mono (fun q _ hq => (Hown2.out q hq).1))⟩
          case measure => simp [intOf] <;> omega
    · obtain rfl : n = y := by omega
      obtain ⟨R2, c2, rfl, hr2, hRb, _⟩ := hro.rows2 (by omega)
      have Hro := Lib.hid hro
      have Hr2 := Lib.hid hr2
      have HRb := Lib.hid hRb
      have Hm := Lib.hid hm
      have Hmw := Lib.hid hmw
      have HbB := Lib.hid hbB
      clear hro hr2 hRb hm hmw hbB
      go_wp2_with fail
      go_ret2
      have hshE := Hsh.out
      subst hshE
      exact ⟨R2, c2, rfl, Hr2.out, mod_end Hmw.out⟩
end Go.Proofs.YtnpkihobbcglcaaGreatDoor
