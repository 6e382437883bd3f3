/- Reading back what encodeEntryHeader wrote. -/
import Derived.Test.YbulkbhqeEnc
import Derived.Test.YbulkbhqeGet
namespace Go.Proofs.Ybulkbhqe
open Go.RowKit
set_option linter.unusedVariables false
set_option linter.unusedSimpArgs false

theorem four (v : Int) (h0 : 0 ≤ v) (h1 : v ≤ 4294967295) : v / 16777216 % 256 * 16777216 + v / 65536 % 256 * 65536 + v / 256 % 256 * 256 + v % 256 = v := by omega
theorem eight (v : Int) (h0 : 0 ≤ v) (h1 : v ≤ 18446744073709551615) : v / 72057594037927936 % 256 * 72057594037927936 + v / 281474976710656 % 256 * 281474976710656 + v / 1099511627776 % 256 * 1099511627776 + v / 4294967296 % 256 * 4294967296 + v / 16777216 % 256 * 16777216 + v / 65536 % 256 * 65536 + v / 256 % 256 * 256 + v % 256 = v := by omega

theorem get_at (g t o n : Nat) (F : Nat → Value) (v : Int) (wx : World) (R : wx.rowIs g t 24 F) (ho : o + 4 ≤ 24) (hn : 4 ≤ n) (h0 : 0 ≤ v) (h1 : v ≤ 4294967295)
    (b0 : F o = .int .u8 (v / 16777216 % 256)) (b1 : F (o + 1) = .int .u8 (v / 65536 % 256)) (b2 : F (o + 2) = .int .u8 (v / 256 % 256)) (b3 : F (o + 3) = .int .u8 (v % 256)) :
    Calls Yba.prog 10 #[.agg #[], .slice (some ⟨g, o, none⟩) n n] wx fun e w' => e = .returned (.int .u32 v) ∧ ∃ q, w' = (wx.alloc (.cells #[] 37)).drewN q := by
  have h := get32 g o n n _ _ _ _ wx hn ((R.cell (by omega)).trans (by rw [b0])) ((R.cell (by omega)).trans (by rw [b1])) ((R.cell (by omega)).trans (by rw [b2])) ((R.cell (by omega)).trans (by rw [b3]))
    (by omega) (by omega) (by omega) (by omega) (by omega) (by omega) (by omega) (by omega)
  rw [four v h0 h1] at h
  exact h

theorem get_at8 (g t o n : Nat) (F : Nat → Value) (v : Int) (wx : World) (R : wx.rowIs g t 24 F) (ho : o + 8 ≤ 24) (hn : 8 ≤ n) (h0 : 0 ≤ v) (h1 : v ≤ 18446744073709551615)
    (b0 : F o = .int .u8 (v / 72057594037927936 % 256)) (b1 : F (o + 1) = .int .u8 (v / 281474976710656 % 256)) (b2 : F (o + 2) = .int .u8 (v / 1099511627776 % 256)) (b3 : F (o + 3) = .int .u8 (v / 4294967296 % 256))
    (b4 : F (o + 4) = .int .u8 (v / 16777216 % 256)) (b5 : F (o + 5) = .int .u8 (v / 65536 % 256)) (b6 : F (o + 6) = .int .u8 (v / 256 % 256)) (b7 : F (o + 7) = .int .u8 (v % 256)) :
    Calls Yba.prog 11 #[.agg #[], .slice (some ⟨g, o, none⟩) n n] wx fun e w' => e = .returned (.int .u64 v) ∧ ∃ q, w' = (wx.alloc (.cells #[] 37)).drewN q := by
  have h := get64 g o n n _ _ _ _ _ _ _ _ wx hn ((R.cell (by omega)).trans (by rw [b0])) ((R.cell (by omega)).trans (by rw [b1])) ((R.cell (by omega)).trans (by rw [b2])) ((R.cell (by omega)).trans (by rw [b3]))
    ((R.cell (by omega)).trans (by rw [b4])) ((R.cell (by omega)).trans (by rw [b5])) ((R.cell (by omega)).trans (by rw [b6])) ((R.cell (by omega)).trans (by rw [b7]))
    (by omega) (by omega) (by omega) (by omega) (by omega) (by omega) (by omega) (by omega) (by omega) (by omega) (by omega) (by omega) (by omega) (by omega) (by omega) (by omega)
  rw [eight v h0 h1] at h
  exact h

section
variable (f : Nat → Value) (kind length file record before : Int) (g t : Nat) (w : World) (R : w.rowIs g t 24 (enc f kind length file record before))
theorem G0 (R : w.rowIs g t 24 (enc f kind length file record before)) (h0 : 0 ≤ kind) (h1 : kind ≤ 4294967295) (wx : World) (hb : Below w.heap.size w wx) :
    Calls Yba.prog 10 #[.agg #[], .slice (some ⟨g, 0, none⟩) 24 24] wx fun e w' => e = .returned (.int .u32 kind) ∧ ∃ q, w' = (wx.alloc (.cells #[] 37)).drewN q :=
  get_at g t 0 24 _ kind wx (R.of_block (hb.block _ R.lt)) (by omega) (by omega) h0 h1 (by simp [enc, put]) (by simp [enc, put]) (by simp [enc, put]) (by simp [enc, put])
theorem G4 (R : w.rowIs g t 24 (enc f kind length file record before)) (wx : World) (hb : Below w.heap.size w wx) :
    Calls Yba.prog 10 #[.agg #[], .slice (some ⟨g, 4, none⟩) 20 20] wx fun e w' => e = .returned (.int .u32 (length % 4294967296)) ∧ ∃ q, w' = (wx.alloc (.cells #[] 37)).drewN q :=
  get_at g t 4 20 _ _ wx (R.of_block (hb.block _ R.lt)) (by omega) (by omega) (by omega) (by omega) (by simp [enc, put]) (by simp [enc, put]) (by simp [enc, put]) (by simp [enc, put])
theorem G8 (R : w.rowIs g t 24 (enc f kind length file record before)) (h0 : 0 ≤ file) (h1 : file ≤ 4294967295) (wx : World) (hb : Below w.heap.size w wx) :
    Calls Yba.prog 10 #[.agg #[], .slice (some ⟨g, 8, none⟩) 16 16] wx fun e w' => e = .returned (.int .u32 file) ∧ ∃ q, w' = (wx.alloc (.cells #[] 37)).drewN q :=
  get_at g t 8 16 _ file wx (R.of_block (hb.block _ R.lt)) (by omega) (by omega) h0 h1 (by simp [enc, put]) (by simp [enc, put]) (by simp [enc, put]) (by simp [enc, put])
theorem G12 (R : w.rowIs g t 24 (enc f kind length file record before)) (h0 : 0 ≤ record) (h1 : record ≤ 4294967295) (wx : World) (hb : Below w.heap.size w wx) :
    Calls Yba.prog 10 #[.agg #[], .slice (some ⟨g, 12, none⟩) 12 12] wx fun e w' => e = .returned (.int .u32 record) ∧ ∃ q, w' = (wx.alloc (.cells #[] 37)).drewN q :=
  get_at g t 12 12 _ record wx (R.of_block (hb.block _ R.lt)) (by omega) (by omega) h0 h1 (by simp [enc, put]) (by simp [enc, put]) (by simp [enc, put]) (by simp [enc, put])
theorem G16 (R : w.rowIs g t 24 (enc f kind length file record before)) (wx : World) (hb : Below w.heap.size w wx) :
    Calls Yba.prog 11 #[.agg #[], .slice (some ⟨g, 16, none⟩) 8 8] wx fun e w' => e = .returned (.int .u64 (before % 18446744073709551616)) ∧ ∃ q, w' = (wx.alloc (.cells #[] 37)).drewN q :=
  get_at8 g t 16 8 _ _ wx (R.of_block (hb.block _ R.lt)) (by omega) (by omega) (by omega) (by omega) (by simp [enc, put]) (by simp [enc, put]) (by simp [enc, put]) (by simp [enc, put]) (by simp [enc, put]) (by simp [enc, put]) (by simp [enc, put]) (by simp [enc, put])
end
end Go.Proofs.Ybulkbhqe
