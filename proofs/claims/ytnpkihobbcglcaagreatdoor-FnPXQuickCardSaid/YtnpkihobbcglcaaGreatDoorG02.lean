/- Part 2 of the proof of FnPXQuick (a QR code that is written for a text says this text in a picture): parts of the road. No condition. -/
import Derived.Test.YtnpkihobbcglcaaGreatDoorProg
import Derived.Test.YtnpkihobbcglcaaGreatDoorG01
/- Functions that hand back a field, or store one. (Written by gen_get.py.) -/
open Go Go.RowKit
namespace Go.Proofs.YtnpkihobbcglcaaGreatDoor
open Go.QZ

theorem QRCode_GetMode_c (w : World) (p o : Nat) (v : Value) (h : w.cell? ⟨p, o, none⟩ = some v) : Calls Tryz.prog 17 #[.pointer (some ⟨p, o, none⟩)] w fun e w' => e = .returned v ∧ w = w' := by
  go_enter Tryz.func17, Tryz.ntmps17
  go_wp2
  go_ret
  exact ⟨rfl, rfl⟩

theorem QRCode_GetECLevel_c (w : World) (p o : Nat) (v : Value) (h : w.cell? ⟨p, o + 1, none⟩ = some v) : Calls Tryz.prog 15 #[.pointer (some ⟨p, o, none⟩)] w fun e w' => e = .returned v ∧ w = w' := by
  go_enter Tryz.func15, Tryz.ntmps15
  go_wp2
  go_ret
  exact ⟨rfl, rfl⟩

theorem QRCode_GetVersion_c (w : World) (p o : Nat) (v : Value) (h : w.cell? ⟨p, o + 2, none⟩ = some v) : Calls Tryz.prog 12 #[.pointer (some ⟨p, o, none⟩)] w fun e w' => e = .returned v ∧ w = w' := by
  go_enter Tryz.func12, Tryz.ntmps12
  go_wp2
  go_ret
  exact ⟨rfl, rfl⟩

theorem QRCode_GetMaskPattern_c (w : World) (p o : Nat) (v : Value) (h : w.cell? ⟨p, o + 3, none⟩ = some v) : Calls Tryz.prog 14 #[.pointer (some ⟨p, o, none⟩)] w fun e w' => e = .returned v ∧ w = w' := by
  go_enter Tryz.func14, Tryz.ntmps14
  go_wp2
  go_ret
  exact ⟨rfl, rfl⟩

theorem QRCode_GetMatrix_c (w : World) (p o : Nat) (v : Value) (h : w.cell? ⟨p, o + 4, none⟩ = some v) : Calls Tryz.prog 11 #[.pointer (some ⟨p, o, none⟩)] w fun e w' => e = .returned v ∧ w = w' := by
  go_enter Tryz.func11, Tryz.ntmps11
  go_wp2
  go_ret
  exact ⟨rfl, rfl⟩

theorem ByteMatrix_GetHeight_c (w : World) (p o : Nat) (v : Value) (h : w.cell? ⟨p, o + 2, none⟩ = some v) : Calls Tryz.prog 19 #[.pointer (some ⟨p, o, none⟩)] w fun e w' => e = .returned v ∧ w = w' := by
  go_enter Tryz.func19, Tryz.ntmps19
  go_wp2
  go_ret
  exact ⟨rfl, rfl⟩

theorem ByteMatrix_GetWidth_c (w : World) (p o : Nat) (v : Value) (h : w.cell? ⟨p, o + 1, none⟩ = some v) : Calls Tryz.prog 20 #[.pointer (some ⟨p, o, none⟩)] w fun e w' => e = .returned v ∧ w = w' := by
  go_enter Tryz.func20, Tryz.ntmps20
  go_wp2
  go_ret
  exact ⟨rfl, rfl⟩

theorem ByteMatrix_GetArray_c (w : World) (p o : Nat) (v : Value) (h : w.cell? ⟨p, o, none⟩ = some v) : Calls Tryz.prog 170 #[.pointer (some ⟨p, o, none⟩)] w fun e w' => e = .returned v ∧ w = w' := by
  go_enter Tryz.func170, Tryz.ntmps170
  go_wp2
  go_ret
  exact ⟨rfl, rfl⟩

theorem BitArray_GetSize_c (w : World) (p o : Nat) (v : Value) (h : w.cell? ⟨p, o + 1, none⟩ = some v) : Calls Tryz.prog 91 #[.pointer (some ⟨p, o, none⟩)] w fun e w' => e = .returned v ∧ w = w' := by
  go_enter Tryz.func91, Tryz.ntmps91
  go_wp2
  go_ret
  exact ⟨rfl, rfl⟩

theorem BitMatrix_GetWidth_c (w : World) (p o : Nat) (v : Value) (h : w.cell? ⟨p, o, none⟩ = some v) : Calls Tryz.prog 115 #[.pointer (some ⟨p, o, none⟩)] w fun e w' => e = .returned v ∧ w = w' := by
  go_enter Tryz.func115, Tryz.ntmps115
  go_wp2
  go_ret
  exact ⟨rfl, rfl⟩

theorem BitMatrix_GetHeight_c (w : World) (p o : Nat) (v : Value) (h : w.cell? ⟨p, o + 1, none⟩ = some v) : Calls Tryz.prog 114 #[.pointer (some ⟨p, o, none⟩)] w fun e w' => e = .returned v ∧ w = w' := by
  go_enter Tryz.func114, Tryz.ntmps114
  go_wp2
  go_ret
  exact ⟨rfl, rfl⟩

theorem Version_GetVersionNumber_c (w : World) (p o : Nat) (v : Value) (h : w.cell? ⟨p, o, none⟩ = some v) : Calls Tryz.prog 13 #[.pointer (some ⟨p, o, none⟩)] w fun e w' => e = .returned v ∧ w = w' := by
  go_enter Tryz.func13, Tryz.ntmps13
  go_wp2
  go_ret
  exact ⟨rfl, rfl⟩

theorem Version_GetTotalCodewords_c (w : World) (p o : Nat) (v : Value) (h : w.cell? ⟨p, o + 3, none⟩ = some v) : Calls Tryz.prog 48 #[.pointer (some ⟨p, o, none⟩)] w fun e w' => e = .returned v ∧ w = w' := by
  go_enter Tryz.func48, Tryz.ntmps48
  go_wp2
  go_ret
  exact ⟨rfl, rfl⟩

theorem ECBlocks_GetECCodewordsPerBlock_c (w : World) (p o : Nat) (v : Value) (h : w.cell? ⟨p, o, none⟩ = some v) : Calls Tryz.prog 162 #[.pointer (some ⟨p, o, none⟩)] w fun e w' => e = .returned v ∧ w = w' := by
  go_enter Tryz.func162, Tryz.ntmps162
  go_wp2
  go_ret
  exact ⟨rfl, rfl⟩

theorem ECBlocks_GetECBlocks_c (w : World) (p o : Nat) (v : Value) (h : w.cell? ⟨p, o + 1, none⟩ = some v) : Calls Tryz.prog 163 #[.pointer (some ⟨p, o, none⟩)] w fun e w' => e = .returned v ∧ w = w' := by
  go_enter Tryz.func163, Tryz.ntmps163
  go_wp2
  go_ret
  exact ⟨rfl, rfl⟩

theorem DecoderResult_GetText_c (w : World) (p o : Nat) (v : Value) (h : w.cell? ⟨p, o + 2, none⟩ = some v) : Calls Tryz.prog 68 #[.pointer (some ⟨p, o, none⟩)] w fun e w' => e = .returned v ∧ w = w' := by
  go_enter Tryz.func68, Tryz.ntmps68
  go_wp2
  go_ret
  exact ⟨rfl, rfl⟩

theorem DecoderResult_GetRawBytes_c (w : World) (p o : Nat) (v : Value) (h : w.cell? ⟨p, o, none⟩ = some v) : Calls Tryz.prog 69 #[.pointer (some ⟨p, o, none⟩)] w fun e w' => e = .returned v ∧ w = w' := by
  go_enter Tryz.func69, Tryz.ntmps69
  go_wp2
  go_ret
  exact ⟨rfl, rfl⟩

theorem DecoderResult_GetByteSegments_c (w : World) (p o : Nat) (v : Value) (h : w.cell? ⟨p, o + 3, none⟩ = some v) : Calls Tryz.prog 67 #[.pointer (some ⟨p, o, none⟩)] w fun e w' => e = .returned v ∧ w = w' := by
  go_enter Tryz.func67, Tryz.ntmps67
  go_wp2
  go_ret
  exact ⟨rfl, rfl⟩

theorem DecoderResult_GetECLevel_c (w : World) (p o : Nat) (v : Value) (h : w.cell? ⟨p, o + 4, none⟩ = some v) : Calls Tryz.prog 70 #[.pointer (some ⟨p, o, none⟩)] w fun e w' => e = .returned v ∧ w = w' := by
  go_enter Tryz.func70, Tryz.ntmps70
  go_wp2
  go_ret
  exact ⟨rfl, rfl⟩

theorem DecoderResult_GetErrorsCorrected_c (w : World) (p o : Nat) (v : Value) (h : w.cell? ⟨p, o + 5, none⟩ = some v) : Calls Tryz.prog 71 #[.pointer (some ⟨p, o, none⟩)] w fun e w' => e = .returned v ∧ w = w' := by
  go_enter Tryz.func71, Tryz.ntmps71
  go_wp2
  go_ret
  exact ⟨rfl, rfl⟩

theorem DecoderResult_GetStructuredAppendParity_c (w : World) (p o : Nat) (v : Value) (h : w.cell? ⟨p, o + 8, none⟩ = some v) : Calls Tryz.prog 73 #[.pointer (some ⟨p, o, none⟩)] w fun e w' => e = .returned v ∧ w = w' := by
  go_enter Tryz.func73, Tryz.ntmps73
  go_wp2
  go_ret
  exact ⟨rfl, rfl⟩

theorem DecoderResult_GetStructuredAppendSequenceNumber_c (w : World) (p o : Nat) (v : Value) (h : w.cell? ⟨p, o + 9, none⟩ = some v) : Calls Tryz.prog 72 #[.pointer (some ⟨p, o, none⟩)] w fun e w' => e = .returned v ∧ w = w' := by
  go_enter Tryz.func72, Tryz.ntmps72
  go_wp2
  go_ret
  exact ⟨rfl, rfl⟩

theorem DecoderResult_GetSymbologyModifier_c (w : World) (p o : Nat) (v : Value) (h : w.cell? ⟨p, o + 10, none⟩ = some v) : Calls Tryz.prog 74 #[.pointer (some ⟨p, o, none⟩)] w fun e w' => e = .returned v ∧ w = w' := by
  go_enter Tryz.func74, Tryz.ntmps74
  go_wp2
  go_ret
  exact ⟨rfl, rfl⟩

theorem BlockPair_GetDataBytes_c (w : World) (p o : Nat) (v : Value) (h : w.cell? ⟨p, o, none⟩ = some v) : Calls Tryz.prog 101 #[.pointer (some ⟨p, o, none⟩)] w fun e w' => e = .returned v ∧ w = w' := by
  go_enter Tryz.func101, Tryz.ntmps101
  go_wp2
  go_ret
  exact ⟨rfl, rfl⟩

theorem BlockPair_GetErrorCorrectionBytes_c (w : World) (p o : Nat) (v : Value) (h : w.cell? ⟨p, o + 1, none⟩ = some v) : Calls Tryz.prog 102 #[.pointer (some ⟨p, o, none⟩)] w fun e w' => e = .returned v ∧ w = w' := by
  go_enter Tryz.func102, Tryz.ntmps102
  go_wp2
  go_ret
  exact ⟨rfl, rfl⟩

theorem DataBlock_GetNumDataCodewords_c (w : World) (p o : Nat) (v : Value) (h : w.cell? ⟨p, o, none⟩ = some v) : Calls Tryz.prog 186 #[.pointer (some ⟨p, o, none⟩)] w fun e w' => e = .returned v ∧ w = w' := by
  go_enter Tryz.func186, Tryz.ntmps186
  go_wp2
  go_ret
  exact ⟨rfl, rfl⟩

theorem DataBlock_GetCodewords_c (w : World) (p o : Nat) (v : Value) (h : w.cell? ⟨p, o + 1, none⟩ = some v) : Calls Tryz.prog 187 #[.pointer (some ⟨p, o, none⟩)] w fun e w' => e = .returned v ∧ w = w' := by
  go_enter Tryz.func187, Tryz.ntmps187
  go_wp2
  go_ret
  exact ⟨rfl, rfl⟩

theorem FormatInformation_GetErrorCorrectionLevel_c (w : World) (p o : Nat) (v : Value) (h : w.cell? ⟨p, o, none⟩ = some v) : Calls Tryz.prog 183 #[.pointer (some ⟨p, o, none⟩)] w fun e w' => e = .returned v ∧ w = w' := by
  go_enter Tryz.func183, Tryz.ntmps183
  go_wp2
  go_ret
  exact ⟨rfl, rfl⟩

theorem FormatInformation_GetDataMask_c (w : World) (p o : Nat) (v : Value) (h : w.cell? ⟨p, o + 1, none⟩ = some v) : Calls Tryz.prog 191 #[.pointer (some ⟨p, o, none⟩)] w fun e w' => e = .returned v ∧ w = w' := by
  go_enter Tryz.func191, Tryz.ntmps191
  go_wp2
  go_ret
  exact ⟨rfl, rfl⟩

theorem GenericGF_GetZero_c (w : World) (p o : Nat) (v : Value) (h : w.cell? ⟨p, o + 2, none⟩ = some v) : Calls Tryz.prog 203 #[.pointer (some ⟨p, o, none⟩)] w fun e w' => e = .returned v ∧ w = w' := by
  go_enter Tryz.func203, Tryz.ntmps203
  go_wp2
  go_ret
  exact ⟨rfl, rfl⟩

theorem GenericGF_GetOne_c (w : World) (p o : Nat) (v : Value) (h : w.cell? ⟨p, o + 3, none⟩ = some v) : Calls Tryz.prog 262 #[.pointer (some ⟨p, o, none⟩)] w fun e w' => e = .returned v ∧ w = w' := by
  go_enter Tryz.func262, Tryz.ntmps262
  go_wp2
  go_ret
  exact ⟨rfl, rfl⟩

theorem GenericGF_GetGeneratorBase_c (w : World) (p o : Nat) (v : Value) (h : w.cell? ⟨p, o + 6, none⟩ = some v) : Calls Tryz.prog 201 #[.pointer (some ⟨p, o, none⟩)] w fun e w' => e = .returned v ∧ w = w' := by
  go_enter Tryz.func201, Tryz.ntmps201
  go_wp2
  go_ret
  exact ⟨rfl, rfl⟩

theorem GenericGF_GetSize_c (w : World) (p o : Nat) (v : Value) (h : w.cell? ⟨p, o + 4, none⟩ = some v) : Calls Tryz.prog 264 #[.pointer (some ⟨p, o, none⟩)] w fun e w' => e = .returned v ∧ w = w' := by
  go_enter Tryz.func264, Tryz.ntmps264
  go_wp2
  go_ret
  exact ⟨rfl, rfl⟩

theorem GenericGFPoly_GetCoefficients_c (w : World) (p o : Nat) (v : Value) (h : w.cell? ⟨p, o + 1, none⟩ = some v) : Calls Tryz.prog 168 #[.pointer (some ⟨p, o, none⟩)] w fun e w' => e = .returned v ∧ w = w' := by
  go_enter Tryz.func168, Tryz.ntmps168
  go_wp2
  go_ret
  exact ⟨rfl, rfl⟩

theorem LuminanceSourceBase_GetWidth_c (w : World) (p o : Nat) (v : Value) (h : w.cell? ⟨p, o, none⟩ = some v) : Calls Tryz.prog 308 #[.pointer (some ⟨p, o, none⟩)] w fun e w' => e = .returned v ∧ w = w' := by
  go_enter Tryz.func308, Tryz.ntmps308
  go_wp2
  go_ret
  exact ⟨rfl, rfl⟩

theorem LuminanceSourceBase_GetHeight_c (w : World) (p o : Nat) (v : Value) (h : w.cell? ⟨p, o + 1, none⟩ = some v) : Calls Tryz.prog 305 #[.pointer (some ⟨p, o, none⟩)] w fun e w' => e = .returned v ∧ w = w' := by
  go_enter Tryz.func305, Tryz.ntmps305
  go_wp2
  go_ret
  exact ⟨rfl, rfl⟩

theorem GlobalHistogramBinarizer_GetLuminanceSource_c (w : World) (p o : Nat) (v : Value) (h : w.cell? ⟨p, o, none⟩ = some v) : Calls Tryz.prog 319 #[.pointer (some ⟨p, o, none⟩)] w fun e w' => e = .returned v ∧ w = w' := by
  go_enter Tryz.func319, Tryz.ntmps319
  go_wp2
  go_ret
  exact ⟨rfl, rfl⟩

end Go.Proofs.YtnpkihobbcglcaaGreatDoor
open Go Go.RowKit
namespace Go.Proofs.YtnpkihobbcglcaaGreatDoor
open Go.QZ

/-- The cells of row y of a matrix so wide. -/
def rowC (d : Nat) (f : Nat → Nat → Int) (y : Nat) : List Value := (List.range d).map fun x => Value.int .i8 (f x y)
/-- The slices of its rows. -/
def rowS (T d : Nat) : List Value := (List.range d).map fun y => Value.slice (some ⟨T + 1 + y, 0, none⟩) d d

theorem rowC_get (d : Nat) (f : Nat → Nat → Int) (y x : Nat) (h : x < d) : (rowC d f y)[x]? = some (.int .i8 (f x y)) := by simp [rowC, h]
theorem rowS_get (T d y : Nat) (h : y < d) : (rowS T d)[y]? = some (.slice (some ⟨T + 1 + y, 0, none⟩) d d) := by simp [rowS, h]

/-- One cell changed. -/
def upd (f : Nat → Nat → Int) (x y : Nat) (v : Int) : Nat → Nat → Int := fun a b => if a = x ∧ b = y then v else f a b

theorem rowC_set (d : Nat) (f : Nat → Nat → Int) (y x : Nat) (v : Int) : (rowC d f y).set x (.int .i8 v) = rowC d (upd f x y v) y := by
  apply List.ext_getElem (by simp [rowC])
  intro j h1 h2
  simp only [rowC, List.getElem_set, List.getElem_map, List.getElem_range, upd]
  by_cases e : x = j
  · subst e; simp
  · rw [if_neg e, if_neg (fun h => e h.1.symm)]
theorem rowC_upd (d : Nat) (f : Nat → Nat → Int) (y x z : Nat) (v : Int) (h : z ≠ y) : rowC d (upd f x y v) z = rowC d f z := by
  unfold rowC upd
  congr 1
  funext a
  rw [if_neg (fun e => h e.2)]

/-- A ByteMatrix so wide and high, whose rows' slices lie in block T. -/
structure GM (w : World) (T d : Nat) (f : Nat → Nat → Int) : Prop where
  head : Blk w (T + d + 1) [.slice (some ⟨T, 0, none⟩) d d, .int .i64 d, .int .i64 d]
  rows : Blk w T (rowS T d)
  cells : ∀ y, y < d → Blk w (T + 1 + y) (rowC d f y)
  small : d ≤ 1000

/-- Its blocks. -/
def GMb (T d : Nat) (k : Nat) : Prop := T < k ∧ k ≤ T + d

theorem GM.mod {S : Nat → Prop} {w w' : World} {T d : Nat} {f : Nat → Nat → Int} (h : GM w T d f) (hm : QZ.Mod S w w') (hS : ∀ k, T ≤ k → k ≤ T + d + 1 → ¬ S k) : GM w' T d f :=
  ⟨hm.blk (hS _ (by omega) (by omega)) h.head, hm.blk (hS _ (by omega) (by omega)) h.rows, fun y hy => hm.blk (hS _ (by omega) (by omega)) (h.cells y hy), h.small⟩
theorem GM.congr {w : World} {T d : Nat} {f g : Nat → Nat → Int} (h : GM w T d f) (e : ∀ x y, x < d → y < d → f x y = g x y) : GM w T d g := by
  refine ⟨h.head, h.rows, fun y hy => ?_, h.small⟩
  have := h.cells y hy
  rwa [show rowC d f y = rowC d g y from List.map_congr_left (fun x hx => by rw [e x y (List.mem_range.1 hx) hy])] at this
theorem GM.c0 {w : World} {T d : Nat} {f : Nat → Nat → Int} (h : GM w T d f) : w.cell? ⟨T + d + 1, 0, none⟩ = some (.slice (some ⟨T, 0, none⟩) d d) := by rw [h.head.cell]; rfl
theorem GM.c1 {w : World} {T d : Nat} {f : Nat → Nat → Int} (h : GM w T d f) : w.cell? ⟨T + d + 1, 1, none⟩ = some (.int .i64 d) := by rw [h.head.cell]; rfl
theorem GM.c2 {w : World} {T d : Nat} {f : Nat → Nat → Int} (h : GM w T d f) : w.cell? ⟨T + d + 1, 2, none⟩ = some (.int .i64 d) := by rw [h.head.cell]; rfl
theorem GM.cr {w : World} {T d : Nat} {f : Nat → Nat → Int} (h : GM w T d f) (y : Nat) (hy : y < d) : w.cell? ⟨T, y, none⟩ = some (.slice (some ⟨T + 1 + y, 0, none⟩) d d) := by rw [h.rows.cell, rowS_get _ _ _ hy]
theorem GM.cx {w : World} {T d : Nat} {f : Nat → Nat → Int} (h : GM w T d f) (x y : Nat) (hx : x < d) (hy : y < d) : w.cell? ⟨T + 1 + y, x, none⟩ = some (.int .i8 (f x y)) := by rw [(h.cells y hy).cell, rowC_get _ _ _ _ hx]
theorem GM.put {w : World} {T d : Nat} {f : Nat → Nat → Int} (h : GM w T d f) (x y : Nat) (hy : y < d) (v : Int) : GM (w.setCell ⟨T + 1 + y, x, none⟩ (.int .i8 v)) T d (upd f x y v) := by
  refine ⟨h.head.set_other (by simp only; omega) _, h.rows.set_other (by simp only; omega) _, fun z hz => ?_, h.small⟩
  by_cases e : z = y
  · subst e
    have := (h.cells z hz).set x (.int .i8 v)
    rwa [rowC_set] at this
  · have := (h.cells z hz).set_other (a := ⟨T + 1 + y, x, none⟩) (by simp only; omega) (.int .i8 v)
    rwa [← rowC_upd d f y x z v e] at this

theorem i121 : (Tryz.prog.info? 124).map (fun i => (i.zero, i.size, i.bytes)) = some (some (.slice none 0 0), 1, 24) := by kernel_rfl
theorem i124 : (Tryz.prog.info? 57).map (fun i => (i.zero, i.size, i.bytes)) = some (some (.int .i8 0), 1, 1) := by kernel_rfl

set_option maxHeartbeats 400000 in
theorem gmGet_c (w : World) (T d : Nat) (f : Nat → Nat → Int) (h : GM w T d f) (M : Nat) (hM : M = T + d + 1) (x y : Int) (hx0 : 0 ≤ x) (hx : x < d) (hy0 : 0 ≤ y) (hy : y < d) :
    Calls Tryz.prog 21 #[.pointer (some ⟨M, 0, none⟩), .int .i64 x, .int .i64 y] w fun e w' => e = .returned (.int .i8 (f x.toNat y.toNat)) ∧ w = w' := by
  obtain ⟨x, rfl⟩ := Int.eq_ofNat_of_zero_le hx0
  obtain ⟨y, rfl⟩ := Int.eq_ofNat_of_zero_le hy0
  rw [Int.toNat_natCast, Int.toNat_natCast]
  have c0 := h.c0
  rw [← hM] at c0
  have cr := h.cr y (by omega)
  have cx := h.cx x y (by omega) (by omega)
  have hs := h.small
  generalize T + 1 + y = Y at *
  generalize f x y = v at *
  clear h hM
  go_enter Tryz.func21, Tryz.ntmps21
  go_wp2
  go_ret
  exact ⟨rfl, rfl⟩

set_option maxHeartbeats 400000 in
theorem gmSet_c (w : World) (T d : Nat) (f : Nat → Nat → Int) (h : GM w T d f) (M : Nat) (hM : M = T + d + 1) (x y : Int) (hx0 : 0 ≤ x) (hx : x < d) (hy0 : 0 ≤ y) (hy : y < d) (v : Int) :
    Calls Tryz.prog 177 #[.pointer (some ⟨M, 0, none⟩), .int .i64 x, .int .i64 y, .int .i8 v] w fun e w' => e = .returned (.tuple #[]) ∧ GM w' T d (upd f x.toNat y.toNat v) ∧ QZ.Mod (GMb T d) w w' := by
  obtain ⟨x, rfl⟩ := Int.eq_ofNat_of_zero_le hx0
  obtain ⟨y, rfl⟩ := Int.eq_ofNat_of_zero_le hy0
  rw [Int.toNat_natCast, Int.toNat_natCast]
  have c0 := h.c0
  rw [← hM] at c0
  have cr := h.cr y (by omega)
  have cx := h.cx x y (by omega) (by omega)
  have hfr := (h.cells y (by omega)).frozen x
  have hs := h.small
  have Hp := Lib.hid (h.put x y (by omega) v)
  have Hm := Lib.hid ((QZ.Mod.refl (GMb T d) w).setCell (p := ⟨T + 1 + y, x, none⟩) (.inr (show GMb T d (T + 1 + y) from ⟨by omega, by omega⟩)) (.int .i8 v))
  generalize T + 1 + y = Y at *
  generalize f x y = v0 at *
  clear h hM
  go_enter Tryz.func177, Tryz.ntmps177
  go_wp2
  go_end0
  exact ⟨rfl, Hp.out, Hm.out⟩

set_option maxHeartbeats 400000 in
theorem gmSetBool_c (w : World) (T d : Nat) (f : Nat → Nat → Int) (h : GM w T d f) (M : Nat) (hM : M = T + d + 1) (x y : Int) (hx0 : 0 ≤ x) (hx : x < d) (hy0 : 0 ≤ y) (hy : y < d) (b : Bool) :
    Calls Tryz.prog 141 #[.pointer (some ⟨M, 0, none⟩), .int .i64 x, .int .i64 y, .bool b] w fun e w' => e = .returned (.tuple #[]) ∧ GM w' T d (upd f x.toNat y.toNat (if b then 1 else 0)) ∧ QZ.Mod (GMb T d) w w' := by
  obtain ⟨x, rfl⟩ := Int.eq_ofNat_of_zero_le hx0
  obtain ⟨y, rfl⟩ := Int.eq_ofNat_of_zero_le hy0
  rw [Int.toNat_natCast, Int.toNat_natCast]
  have c0 := h.c0
  rw [← hM] at c0
  have cr := h.cr y (by omega)
  have cx := h.cx x y (by omega) (by omega)
  have hfr := (h.cells y (by omega)).frozen x
  have hs := h.small
  have Hp1 := Lib.hid (h.put x y (by omega) 1)
  have Hp0 := Lib.hid (h.put x y (by omega) 0)
  have Hm1 := Lib.hid ((QZ.Mod.refl (GMb T d) w).setCell (p := ⟨T + 1 + y, x, none⟩) (.inr (show GMb T d (T + 1 + y) from ⟨by omega, by omega⟩)) (.int .i8 1))
  have Hm0 := Lib.hid ((QZ.Mod.refl (GMb T d) w).setCell (p := ⟨T + 1 + y, x, none⟩) (.inr (show GMb T d (T + 1 + y) from ⟨by omega, by omega⟩)) (.int .i8 0))
  generalize T + 1 + y = Y at *
  generalize f x y = v0 at *
  clear h hM
  cases b
  · go_enter Tryz.func141, Tryz.ntmps141
    go_wp2
    go_end0
    exact ⟨rfl, Hp0.out, Hm0.out⟩
  · go_enter Tryz.func141, Tryz.ntmps141
    go_wp2
    go_end0
    exact ⟨rfl, Hp1.out, Hm1.out⟩

/-- A new ByteMatrix, all 0. -/
def NewGM (w : World) (d : Nat) (e : Ending) (w' : World) : Prop :=
  e = .returned (.pointer (some ⟨w.heap.size + d + 1, 0, none⟩)) ∧ GM w' w.heap.size d (fun _ _ => 0) ∧ QZ.Mod (fun _ => False) w w'

theorem rowS_step (T d k : Nat) (h : k < d) : ((rowS T d).take k ++ List.replicate (d - k) (Value.slice none 0 0)).set k (.slice (some ⟨T + 1 + k, 0, none⟩) d d) = (rowS T d).take (k + 1) ++ List.replicate (d - (k + 1)) (Value.slice none 0 0) := by
  have hl : ((rowS T d).take k).length = k := by simp [rowS]; omega
  rw [List.set_append_right _ _ (by omega), hl, Nat.sub_self, List.take_succ_eq_append_getElem (by simp [rowS]; omega)]
  obtain ⟨m, hm⟩ : ∃ m, d - k = m + 1 := ⟨d - k - 1, by omega⟩
  rw [hm, show d - (k + 1) = m by omega, List.replicate_succ]
  simp [rowS]
theorem rowS_mid (T d k : Nat) (h : k < d) : ((rowS T d).take k ++ List.replicate (d - k) (Value.slice none 0 0))[k]? = some (.slice none 0 0) := by
  have hl : ((rowS T d).take k).length = k := by simp [rowS]; omega
  rw [List.getElem?_append_right (by omega), hl, Nat.sub_self, List.getElem?_replicate, if_pos (by omega)]

set_option maxHeartbeats 800000 in
theorem newGM_c (w : World) (d : Nat) (hd0 : 0 < d) (hd : d ≤ 1000) : Calls Tryz.prog 58 #[.int .i64 d, .int .i64 d] w (NewGM w d) := by
  have hmk := make_run (P := Tryz.prog) Tryz.underlying121 i121 rfl (d : Int) (d : Int) d d rfl rfl (Nat.le_refl _) (by omega) (by omega)
  have hmk2 := make_run (P := Tryz.prog) Tryz.underlying124 i124 rfl (d : Int) (d : Int) d d rfl rfl (Nat.le_refl _) (by omega) (by omega)
  go_enter Tryz.func58, Tryz.ntmps58
  go_wp2_with fail
  go_loopw [6] (fun a wr => ∃ k : Nat, k ≤ d ∧ a = .int .i64 k ∧ wr.heap.size = w.heap.size + 1 + k ∧ Blk wr w.heap.size ((rowS w.heap.size d).take k ++ List.replicate (d - k) (Value.slice none 0 0)) ∧ (∀ y, y < k → Blk wr (w.heap.size + 1 + y) (rowC d (fun _ _ => 0) y)) ∧ QZ.Mod (fun _ => False) w wr) (fun a _ => d - (intOf a).toNat)
  case atStart => exact ⟨0, by omega, rfl, by simp, by simpa using Blk.made w 124 (.slice none 0 0) d, fun y hy => by omega, (QZ.Mod.refl _ _).alloc _⟩
  case round =>
    obtain ⟨k, hk, rfl, hsz, hb, hrows, hm⟩ := hrel
    by_cases hlt : k < d
    · have hcell := (hb.alloc (zrow 57 (.int .i8 0) d)).cell k
      rw [rowS_mid _ _ _ hlt] at hcell
      have hfr := (hb.alloc (zrow 57 (.int .i8 0) d)).frozen k
      have hb2 := (hb.alloc (zrow 57 (.int .i8 0) d)).set k (.slice (some ⟨wr.heap.size, 0, none⟩) d d)
      have hb3 : Blk ((wr.alloc (zrow 57 (.int .i8 0) d)).setCell ⟨w.heap.size, k, none⟩ (.slice (some ⟨wr.heap.size, 0, none⟩) d d)) w.heap.size ((rowS w.heap.size d).take (k + 1) ++ List.replicate (d - (k + 1)) (Value.slice none 0 0)) := by
        have := hb2
        rw [hsz, rowS_step _ _ _ hlt] at this
        rw [hsz]; exact this
      have hrow2 : ∀ y, y < k + 1 → Blk ((wr.alloc (zrow 57 (.int .i8 0) d)).setCell ⟨w.heap.size, k, none⟩ (.slice (some ⟨wr.heap.size, 0, none⟩) d d)) (w.heap.size + 1 + y) (rowC d (fun _ _ => 0) y) := by
        intro y hy
        by_cases e : y = k
        · subst e
          have h1 := Blk.made wr 57 (.int .i8 0) d
          rw [hsz] at h1
          have h2 := h1.set_other (a := ⟨w.heap.size, y, none⟩) (by simp only; omega) (.slice (some ⟨wr.heap.size, 0, none⟩) d d)
          rwa [show List.replicate d (Value.int .i8 0) = rowC d (fun _ _ => 0) y from by simp [rowC, List.map_const']] at h2
        · exact ((hrows y (by omega)).alloc _).set_other (by simp only; omega) _
      have Hb3 := Lib.hid hb3; have Hr2 := Lib.hid hrow2; have Hsz := Lib.hid hsz
      have Hm2 := Lib.hid ((hm.alloc (zrow 57 (.int .i8 0) d)).setCell (p := ⟨w.heap.size, k, none⟩) (.inl (Nat.le_refl _)) (.slice (some ⟨wr.heap.size, 0, none⟩) d d))
      clear hb hb2 hb3 hrows hrow2 hm hsz hmk
      go_wp2_with fail
      go_roundw
      case rel => exact ⟨k + 1, by omega, by go_num, by simp; have := Hsz.out; omega, Hb3.out, Hr2.out, Hm2.out⟩
      case measure => simp [intOf]; omega
    · obtain rfl : k = d := by omega
      have Hb := Lib.hid hb; have Hr := Lib.hid hrows; have Hsz := Lib.hid hsz; have Hm := Lib.hid hm
      clear hb hrows hsz hm hmk hmk2
      go_wp2_with fail
      go_ret
      have hsz := Hsz.out
      refine ⟨by rw [show w.heap.size + k + 1 = wr.heap.size by omega]; rfl, ⟨?_, ?_, fun y hy => (Hr.out y hy).alloc _, hd⟩, Hm.out.alloc _⟩
      · have := Blk.new wr [.slice (some ⟨w.heap.size, 0, none⟩) k k, .int .i64 k, .int .i64 k] 123
        rwa [hsz, show w.heap.size + 1 + k = w.heap.size + k + 1 by omega] at this
      · have := Hb.out
        rw [Nat.sub_self, List.take_of_length_le (by simp [rowS])] at this
        simp only [List.replicate_zero, List.append_nil] at this
        exact this.alloc _
end Go.Proofs.YtnpkihobbcglcaaGreatDoor
open Go Go.RowKit
namespace Go.Proofs.YtnpkihobbcglcaaGreatDoor
open Go.QZ

/-- The first k rows and j cells of the next one are v. -/
def fillTo (f : Nat → Nat → Int) (v : Int) (k j : Nat) : Nat → Nat → Int := fun a b => if b < k ∨ (b = k ∧ a < j) then v else f a b

theorem fillTo_step (f : Nat → Nat → Int) (v : Int) (k j : Nat) : upd (fillTo f v k j) j k v = fillTo f v k (j + 1) := by
  funext a b
  unfold upd fillTo
  by_cases h1 : a = j ∧ b = k
  · rw [if_pos h1, if_pos (by omega)]
  · rw [if_neg h1]
    by_cases h2 : b < k ∨ (b = k ∧ a < j)
    · rw [if_pos h2, if_pos (by omega)]
    · rw [if_neg h2, if_neg (by omega)]

set_option maxHeartbeats 800000 in
theorem gmClear_c (w : World) (T d : Nat) (f : Nat → Nat → Int) (h : GM w T d f) (M : Nat) (hM : M = T + d + 1) (v : Int) :
    Calls Tryz.prog 134 #[.pointer (some ⟨M, 0, none⟩), .int .i8 v] w fun e w' => e = .returned (.tuple #[]) ∧ GM w' T d (fun _ _ => v) ∧ QZ.Mod (GMb T d) w w' := by
  have c0 := h.c0
  rw [← hM] at c0
  have hs := h.small
  have H := Lib.hid h; have HM := Lib.hid hM
  clear h hM
  go_enter Tryz.func134, Tryz.ntmps134
  go_wp2_with fail
  go_loopw [11, 4, 5] (fun a _ _ wr => ∃ k : Nat, k ≤ d ∧ a = .int .i64 k ∧ GM wr T d (fillTo f v k 0) ∧ QZ.Mod (GMb T d) w wr) (fun a _ _ _ => d - (intOf a).toNat)
  case atStart => exact ⟨0, by omega, rfl, H.out.congr (fun x y _ _ => by unfold fillTo; rw [if_neg (by omega)]), QZ.Mod.refl _ _⟩
  case round =>
    obtain ⟨k, hk, rfl, hg, hm⟩ := hrel
    have hMM := HM.out
    have c0' := hg.c0
    rw [← hMM] at c0'
    clear c0 hMM
    by_cases hlt : k < d
    · have cr := hg.cr k hlt
      have Hg := Lib.hid hg; have Hm := Lib.hid hm
      obtain ⟨Y, hY⟩ : ∃ Y, T + 1 + k = Y := ⟨_, rfl⟩
      rw [hY] at cr
      have HY := Lib.hid hY
      clear hg hm hY
      go_wp2_with fail
      go_loopw [22, 5] (fun b _ wq => ∃ j : Nat, j ≤ d ∧ b = .int .i64 j ∧ GM wq T d (fillTo f v k j) ∧ QZ.Mod (GMb T d) w wq) (fun b _ _ => d - (intOf b).toNat)
      case atStart => exact ⟨0, by omega, rfl, Hg.out, Hm.out⟩
      case round =>
        obtain ⟨j, hj, rfl, hg2, hm2⟩ := hrel
        have hMM := HM.out
        have hYY := HY.out
        have c0'' := hg2.c0
        rw [← hMM] at c0''
        clear c0' cr hMM
        by_cases hjd : j < d
        · have cr2 := hg2.cr k hlt
          have cx := hg2.cx j k hjd hlt
          have hfr := (hg2.cells k hlt).frozen j
          have hp := hg2.put j k hlt v
          have hm3 := hm2.setCell (p := ⟨T + 1 + k, j, none⟩) (.inr (show GMb T d (T + 1 + k) from ⟨by omega, by omega⟩)) (.int .i8 v)
          rw [hYY] at cr2 cx hfr hp hm3
          rw [fillTo_step] at hp
          generalize fillTo f v k j j k = v0 at *
          have Hp := Lib.hid hp; have Hm3 := Lib.hid hm3
          clear hg2 hm2 hYY hp hm3
          go_wp2_with fail
          go_roundw
          case rel => exact ⟨j + 1, by omega, by go_num, Hp.out, Hm3.out⟩
          case measure => simp [intOf]; omega
        · obtain rfl : j = d := by omega
          have Hg2 := Lib.hid hg2; have Hm2 := Lib.hid hm2
          clear hg2 hm2 hYY
          go_wp2_with fail
          go_roundw
          case rel => exact ⟨k + 1, by omega, by go_num, Hg2.out.congr (fun x y hx hy => by unfold fillTo; by_cases e : y < k + 1
                                                                                            · rw [if_pos (by omega), if_pos (by omega)]
                                                                                            · rw [if_neg (by omega), if_neg (by omega)]), Hm2.out⟩
          case measure => simp [intOf]; omega
    · obtain rfl : k = d := by omega
      have Hg := Lib.hid hg; have Hm := Lib.hid hm
      clear hg hm
      go_wp2_with fail
      go_end0
      exact ⟨rfl, Hg.out.congr (fun x y hx hy => by unfold fillTo; rw [if_pos (by omega)]), Hm.out⟩

theorem clearMatrix_c (w : World) (T d : Nat) (f : Nat → Nat → Int) (h : GM w T d f) (M : Nat) (hM : M = T + d + 1) :
    Calls Tryz.prog 105 #[.pointer (some ⟨M, 0, none⟩)] w fun e w' => e = .returned (.tuple #[]) ∧ GM w' T d (fun _ _ => -1) ∧ QZ.Mod (GMb T d) w w' := by
  have H := Lib.hid h; have HM := Lib.hid hM; clear h hM
  go_enter Tryz.func105, Tryz.ntmps105
  go_wp2_with fail
  refine (gmClear_c w T d f H.out M HM.out (-1)).mono ?_
  rintro e w1 ⟨rfl, hg, hm⟩
  have Hg := Lib.hid hg; have Hm := Lib.hid hm
  clear hg hm
  go_wp2_with fail
  go_end0
  exact ⟨rfl, Hg.out, Hm.out⟩
end Go.Proofs.YtnpkihobbcglcaaGreatDoor
