import Derived.Test.YbulkdfzsDoorProg
import Derived.Test.YbulkdfzsDoorPlain
import Derived.WalkKit
import Derived.WalkSpells
import Derived.WalkLawsBesides
import Derived.Below
namespace Go.Proofs.YbulkdfzsDoor.T
open Go.RowKit
set_option linter.unusedVariables false
set_option linter.unusedSimpArgs false
set_option maxRecDepth 100000

theorem model_null (s : ByteArray) (w : World) (h : s.toList = [110, 117, 108, 108]) :
    Calls Ybad.prog 7 #[.string s] w fun e w' => e = .returned (.tuple #[.int .u32 1, .bool true]) ∧ w' = w := by
  go_enter Ybad.func7, Ybad.ntmps7
  go_wp2
  go_ret2
  exact ⟨rfl, rfl⟩
theorem model_bool (s : ByteArray) (w : World) (h : s.toList = [98, 111, 111, 108]) :
    Calls Ybad.prog 7 #[.string s] w fun e w' => e = .returned (.tuple #[.int .u32 2, .bool true]) ∧ w' = w := by
  go_enter Ybad.func7, Ybad.ntmps7
  go_wp2
  go_ret2
  exact ⟨rfl, rfl⟩
theorem model_int8 (s : ByteArray) (w : World) (h : s.toList = [105, 110, 116, 56]) :
    Calls Ybad.prog 7 #[.string s] w fun e w' => e = .returned (.tuple #[.int .u32 3, .bool true]) ∧ w' = w := by
  go_enter Ybad.func7, Ybad.ntmps7
  go_wp2
  go_ret2
  exact ⟨rfl, rfl⟩
theorem model_int16 (s : ByteArray) (w : World) (h : s.toList = [105, 110, 116, 49, 54]) :
    Calls Ybad.prog 7 #[.string s] w fun e w' => e = .returned (.tuple #[.int .u32 4, .bool true]) ∧ w' = w := by
  go_enter Ybad.func7, Ybad.ntmps7
  go_wp2
  go_ret2
  exact ⟨rfl, rfl⟩
theorem model_int32 (s : ByteArray) (w : World) (h : s.toList = [105, 110, 116, 51, 50]) :
    Calls Ybad.prog 7 #[.string s] w fun e w' => e = .returned (.tuple #[.int .u32 5, .bool true]) ∧ w' = w := by
  go_enter Ybad.func7, Ybad.ntmps7
  go_wp2
  go_ret2
  exact ⟨rfl, rfl⟩
theorem model_int64 (s : ByteArray) (w : World) (h : s.toList = [105, 110, 116, 54, 52]) :
    Calls Ybad.prog 7 #[.string s] w fun e w' => e = .returned (.tuple #[.int .u32 6, .bool true]) ∧ w' = w := by
  go_enter Ybad.func7, Ybad.ntmps7
  go_wp2
  go_ret2
  exact ⟨rfl, rfl⟩
theorem model_int (s : ByteArray) (w : World) (h : s.toList = [105, 110, 116]) :
    Calls Ybad.prog 7 #[.string s] w fun e w' => e = .returned (.tuple #[.int .u32 6, .bool true]) ∧ w' = w := by
  go_enter Ybad.func7, Ybad.ntmps7
  go_wp2
  go_ret2
  exact ⟨rfl, rfl⟩
theorem model_uint8 (s : ByteArray) (w : World) (h : s.toList = [117, 105, 110, 116, 56]) :
    Calls Ybad.prog 7 #[.string s] w fun e w' => e = .returned (.tuple #[.int .u32 7, .bool true]) ∧ w' = w := by
  go_enter Ybad.func7, Ybad.ntmps7
  go_wp2
  go_ret2
  exact ⟨rfl, rfl⟩
theorem model_byte (s : ByteArray) (w : World) (h : s.toList = [98, 121, 116, 101]) :
    Calls Ybad.prog 7 #[.string s] w fun e w' => e = .returned (.tuple #[.int .u32 7, .bool true]) ∧ w' = w := by
  go_enter Ybad.func7, Ybad.ntmps7
  go_wp2
  go_ret2
  exact ⟨rfl, rfl⟩
theorem model_uint16 (s : ByteArray) (w : World) (h : s.toList = [117, 105, 110, 116, 49, 54]) :
    Calls Ybad.prog 7 #[.string s] w fun e w' => e = .returned (.tuple #[.int .u32 8, .bool true]) ∧ w' = w := by
  go_enter Ybad.func7, Ybad.ntmps7
  go_wp2
  go_ret2
  exact ⟨rfl, rfl⟩
theorem model_uint32 (s : ByteArray) (w : World) (h : s.toList = [117, 105, 110, 116, 51, 50]) :
    Calls Ybad.prog 7 #[.string s] w fun e w' => e = .returned (.tuple #[.int .u32 9, .bool true]) ∧ w' = w := by
  go_enter Ybad.func7, Ybad.ntmps7
  go_wp2
  go_ret2
  exact ⟨rfl, rfl⟩
theorem model_uint64 (s : ByteArray) (w : World) (h : s.toList = [117, 105, 110, 116, 54, 52]) :
    Calls Ybad.prog 7 #[.string s] w fun e w' => e = .returned (.tuple #[.int .u32 10, .bool true]) ∧ w' = w := by
  go_enter Ybad.func7, Ybad.ntmps7
  go_wp2
  go_ret2
  exact ⟨rfl, rfl⟩
theorem model_uint (s : ByteArray) (w : World) (h : s.toList = [117, 105, 110, 116]) :
    Calls Ybad.prog 7 #[.string s] w fun e w' => e = .returned (.tuple #[.int .u32 10, .bool true]) ∧ w' = w := by
  go_enter Ybad.func7, Ybad.ntmps7
  go_wp2
  go_ret2
  exact ⟨rfl, rfl⟩
theorem model_float32 (s : ByteArray) (w : World) (h : s.toList = [102, 108, 111, 97, 116, 51, 50]) :
    Calls Ybad.prog 7 #[.string s] w fun e w' => e = .returned (.tuple #[.int .u32 11, .bool true]) ∧ w' = w := by
  go_enter Ybad.func7, Ybad.ntmps7
  go_wp2
  go_ret2
  exact ⟨rfl, rfl⟩
theorem model_float64 (s : ByteArray) (w : World) (h : s.toList = [102, 108, 111, 97, 116, 54, 52]) :
    Calls Ybad.prog 7 #[.string s] w fun e w' => e = .returned (.tuple #[.int .u32 12, .bool true]) ∧ w' = w := by
  go_enter Ybad.func7, Ybad.ntmps7
  go_wp2
  go_ret2
  exact ⟨rfl, rfl⟩
theorem model_float (s : ByteArray) (w : World) (h : s.toList = [102, 108, 111, 97, 116]) :
    Calls Ybad.prog 7 #[.string s] w fun e w' => e = .returned (.tuple #[.int .u32 12, .bool true]) ∧ w' = w := by
  go_enter Ybad.func7, Ybad.ntmps7
  go_wp2
  go_ret2
  exact ⟨rfl, rfl⟩
theorem model_str (s : ByteArray) (w : World) (h : s.toList = [115, 116, 114]) :
    Calls Ybad.prog 7 #[.string s] w fun e w' => e = .returned (.tuple #[.int .u32 13, .bool true]) ∧ w' = w := by
  go_enter Ybad.func7, Ybad.ntmps7
  go_wp2
  go_ret2
  exact ⟨rfl, rfl⟩
theorem model_string (s : ByteArray) (w : World) (h : s.toList = [115, 116, 114, 105, 110, 103]) :
    Calls Ybad.prog 7 #[.string s] w fun e w' => e = .returned (.tuple #[.int .u32 13, .bool true]) ∧ w' = w := by
  go_enter Ybad.func7, Ybad.ntmps7
  go_wp2
  go_ret2
  exact ⟨rfl, rfl⟩
theorem model_any (s : ByteArray) (w : World) (h : s.toList = [97, 110, 121]) :
    Calls Ybad.prog 7 #[.string s] w fun e w' => e = .returned (.tuple #[.int .u32 14, .bool true]) ∧ w' = w := by
  go_enter Ybad.func7, Ybad.ntmps7
  go_wp2
  go_ret2
  exact ⟨rfl, rfl⟩
theorem model_never (s : ByteArray) (w : World) (h : s.toList = [110, 101, 118, 101, 114]) :
    Calls Ybad.prog 7 #[.string s] w fun e w' => e = .returned (.tuple #[.int .u32 15, .bool true]) ∧ w' = w := by
  go_enter Ybad.func7, Ybad.ntmps7
  go_wp2
  go_ret2
  exact ⟨rfl, rfl⟩
theorem model_none (s : ByteArray) (w : World) (h0 : (s.toList == [110, 117, 108, 108]) = false) (h1 : (s.toList == [98, 111, 111, 108]) = false) (h2 : (s.toList == [105, 110, 116, 56]) = false) (h3 : (s.toList == [105, 110, 116, 49, 54]) = false) (h4 : (s.toList == [105, 110, 116, 51, 50]) = false) (h5 : (s.toList == [105, 110, 116, 54, 52]) = false) (h6 : (s.toList == [105, 110, 116]) = false) (h7 : (s.toList == [117, 105, 110, 116, 56]) = false) (h8 : (s.toList == [98, 121, 116, 101]) = false) (h9 : (s.toList == [117, 105, 110, 116, 49, 54]) = false) (h10 : (s.toList == [117, 105, 110, 116, 51, 50]) = false) (h11 : (s.toList == [117, 105, 110, 116, 54, 52]) = false) (h12 : (s.toList == [117, 105, 110, 116]) = false) (h13 : (s.toList == [102, 108, 111, 97, 116, 51, 50]) = false) (h14 : (s.toList == [102, 108, 111, 97, 116, 54, 52]) = false) (h15 : (s.toList == [102, 108, 111, 97, 116]) = false) (h16 : (s.toList == [115, 116, 114]) = false) (h17 : (s.toList == [115, 116, 114, 105, 110, 103]) = false) (h18 : (s.toList == [97, 110, 121]) = false) (h19 : (s.toList == [110, 101, 118, 101, 114]) = false) :
    Calls Ybad.prog 7 #[.string s] w fun e w' => e = .returned (.tuple #[.int .u32 0, .bool false]) ∧ w' = w := by
  go_enter Ybad.func7, Ybad.ntmps7
  go_wp2
  go_ret2
  exact ⟨rfl, rfl⟩

/-- The law's own table. -/
theorem model_all (s : ByteArray) (w : World) :
    Calls Ybad.prog 7 #[.string s] w fun e w' => e = .returned (.tuple #[.int .u32 (md s.toList).1, .bool (md s.toList).2]) ∧ w' = w := by
  by_cases h0 : s.toList = [110, 117, 108, 108]
  · rw [h0]; exact model_null s w h0
  by_cases h1 : s.toList = [98, 111, 111, 108]
  · rw [h1]; exact model_bool s w h1
  by_cases h2 : s.toList = [105, 110, 116, 56]
  · rw [h2]; exact model_int8 s w h2
  by_cases h3 : s.toList = [105, 110, 116, 49, 54]
  · rw [h3]; exact model_int16 s w h3
  by_cases h4 : s.toList = [105, 110, 116, 51, 50]
  · rw [h4]; exact model_int32 s w h4
  by_cases h5 : s.toList = [105, 110, 116, 54, 52]
  · rw [h5]; exact model_int64 s w h5
  by_cases h6 : s.toList = [105, 110, 116]
  · rw [h6]; exact model_int s w h6
  by_cases h7 : s.toList = [117, 105, 110, 116, 56]
  · rw [h7]; exact model_uint8 s w h7
  by_cases h8 : s.toList = [98, 121, 116, 101]
  · rw [h8]; exact model_byte s w h8
  by_cases h9 : s.toList = [117, 105, 110, 116, 49, 54]
  · rw [h9]; exact model_uint16 s w h9
  by_cases h10 : s.toList = [117, 105, 110, 116, 51, 50]
  · rw [h10]; exact model_uint32 s w h10
  by_cases h11 : s.toList = [117, 105, 110, 116, 54, 52]
  · rw [h11]; exact model_uint64 s w h11
  by_cases h12 : s.toList = [117, 105, 110, 116]
  · rw [h12]; exact model_uint s w h12
  by_cases h13 : s.toList = [102, 108, 111, 97, 116, 51, 50]
  · rw [h13]; exact model_float32 s w h13
  by_cases h14 : s.toList = [102, 108, 111, 97, 116, 54, 52]
  · rw [h14]; exact model_float64 s w h14
  by_cases h15 : s.toList = [102, 108, 111, 97, 116]
  · rw [h15]; exact model_float s w h15
  by_cases h16 : s.toList = [115, 116, 114]
  · rw [h16]; exact model_str s w h16
  by_cases h17 : s.toList = [115, 116, 114, 105, 110, 103]
  · rw [h17]; exact model_string s w h17
  by_cases h18 : s.toList = [97, 110, 121]
  · rw [h18]; exact model_any s w h18
  by_cases h19 : s.toList = [110, 101, 118, 101, 114]
  · rw [h19]; exact model_never s w h19
  have e : md s.toList = (0, false) := by unfold md; simp only [h0, h1, h2, h3, h4, h5, h6, h7, h8, h9, h10, h11, h12, h13, h14, h15, h16, h17, h18, h19, if_false]
  rw [e]
  exact model_none s w (beq_false_of_ne h0) (beq_false_of_ne h1) (beq_false_of_ne h2) (beq_false_of_ne h3) (beq_false_of_ne h4) (beq_false_of_ne h5) (beq_false_of_ne h6) (beq_false_of_ne h7) (beq_false_of_ne h8) (beq_false_of_ne h9) (beq_false_of_ne h10) (beq_false_of_ne h11) (beq_false_of_ne h12) (beq_false_of_ne h13) (beq_false_of_ne h14) (beq_false_of_ne h15) (beq_false_of_ne h16) (beq_false_of_ne h17) (beq_false_of_ne h18) (beq_false_of_ne h19)
end Go.Proofs.YbulkdfzsDoor.T
