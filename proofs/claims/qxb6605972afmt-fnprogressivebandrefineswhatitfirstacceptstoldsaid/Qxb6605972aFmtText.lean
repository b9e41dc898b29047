import Derived.Test.Qxb6605972aFmtFacts
import Derived.Stop.Told
import Derived.Stop.Texts
import Derived.Stop.FmtTextKit
namespace Go.Proofs.Qxb6605972aFmt
open Go.Kit Go.Extern.Stop Go.Stop Go.Extern

/-! What fmt.Sprintf is asked at the three calls, and that its told text is short. -/
def readingA (s e h l : Int) : List (List UInt8) := [[112, 114, 111, 103, 114, 101, 115, 115, 105, 118, 101, 32, 115, 99, 97, 110, 32, 111, 102, 32, 99, 111, 101, 102, 102, 105, 99, 105, 101, 110, 116, 115, 32, 37, 100, 32, 116, 111, 32, 37, 100, 44, 32, 98, 105, 116, 115, 32, 37, 100, 32, 116, 111, 32, 37, 100], shape3, digits 8 (s % 18446744073709551616).toNat, shape3, digits 8 (e % 18446744073709551616).toNat, shape23, digits 8 (h % 18446744073709551616).toNat, shape23, digits 8 (l % 18446744073709551616).toNat]
def readingB : List (List UInt8) := [[112, 114, 111, 103, 114, 101, 115, 115, 105, 118, 101, 32, 115, 99, 97, 110, 32, 111, 102, 32, 116, 104, 101, 32, 68, 67, 32, 99, 111, 101, 102, 102, 105, 99, 105, 101, 110, 116, 32, 97, 110, 100, 32, 111, 116, 104, 101, 114, 115, 32, 116, 111, 103, 101, 116, 104, 101, 114]]
def readingC (n : Int) : List (List UInt8) := [[112, 114, 111, 103, 114, 101, 115, 115, 105, 118, 101, 32, 115, 99, 97, 110, 32, 111, 102, 32, 65, 67, 32, 99, 111, 101, 102, 102, 105, 99, 105, 101, 110, 116, 115, 32, 111, 102, 32, 37, 100, 32, 99, 111, 109, 112, 111, 110, 101, 110, 116, 115], shape3, digits 8 (n % 18446744073709551616).toNat]

theorem parseA : (FmtText.parse [112, 114, 111, 103, 114, 101, 115, 115, 105, 118, 101, 32, 115, 99, 97, 110, 32, 111, 102, 32, 99, 111, 101, 102, 102, 105, 99, 105, 101, 110, 116, 115, 32, 37, 100, 32, 116, 111, 32, 37, 100, 44, 32, 98, 105, 116, 115, 32, 37, 100, 32, 116, 111, 32, 37, 100]).map FmtText.glue = some [.lit [112, 114, 111, 103, 114, 101, 115, 115, 105, 118, 101, 32, 115, 99, 97, 110, 32, 111, 102, 32, 99, 111, 101, 102, 102, 105, 99, 105, 101, 110, 116, 115, 32], .verb {} 100, .lit [32, 116, 111, 32], .verb {} 100, .lit [44, 32, 98, 105, 116, 115, 32], .verb {} 100, .lit [32, 116, 111, 32], .verb {} 100] := by rfl
theorem parseB : (FmtText.parse [112, 114, 111, 103, 114, 101, 115, 115, 105, 118, 101, 32, 115, 99, 97, 110, 32, 111, 102, 32, 116, 104, 101, 32, 68, 67, 32, 99, 111, 101, 102, 102, 105, 99, 105, 101, 110, 116, 32, 97, 110, 100, 32, 111, 116, 104, 101, 114, 115, 32, 116, 111, 103, 101, 116, 104, 101, 114]).map FmtText.glue = some [.lit [112, 114, 111, 103, 114, 101, 115, 115, 105, 118, 101, 32, 115, 99, 97, 110, 32, 111, 102, 32, 116, 104, 101, 32, 68, 67, 32, 99, 111, 101, 102, 102, 105, 99, 105, 101, 110, 116, 32, 97, 110, 100, 32, 111, 116, 104, 101, 114, 115, 32, 116, 111, 103, 101, 116, 104, 101, 114]] := by rfl
theorem parseC : (FmtText.parse [112, 114, 111, 103, 114, 101, 115, 115, 105, 118, 101, 32, 115, 99, 97, 110, 32, 111, 102, 32, 65, 67, 32, 99, 111, 101, 102, 102, 105, 99, 105, 101, 110, 116, 115, 32, 111, 102, 32, 37, 100, 32, 99, 111, 109, 112, 111, 110, 101, 110, 116, 115]).map FmtText.glue = some [.lit [112, 114, 111, 103, 114, 101, 115, 115, 105, 118, 101, 32, 115, 99, 97, 110, 32, 111, 102, 32, 65, 67, 32, 99, 111, 101, 102, 102, 105, 99, 105, 101, 110, 116, 115, 32, 111, 102, 32], .verb {} 100, .lit [32, 99, 111, 109, 112, 111, 110, 101, 110, 116, 115]] := by rfl

theorem textA (s e h l : Int) (ws : (Lit.int .i64 s).wf = true) (we : (Lit.int .i64 e).wf = true) (wh : (Lit.int .u64 h).wf = true) (wl : (Lit.int .u64 l).wf = true) :
    FmtText.text "fmt.Sprintf" (readingA s e h l) = some ([112, 114, 111, 103, 114, 101, 115, 115, 105, 118, 101, 32, 115, 99, 97, 110, 32, 111, 102, 32, 99, 111, 101, 102, 102, 105, 99, 105, 101, 110, 116, 115, 32] ++ (Lib.itoa s ++ ([32, 116, 111, 32] ++ (Lib.itoa e ++ ([44, 32, 98, 105, 116, 115, 32] ++ (Lib.itoa h ++ ([32, 116, 111, 32] ++ Lib.itoa l))))))) := by
  have h1 := FmtText.operand_int_at (sh := shape3) (k := .i64) rfl rfl s ws
  have h2 := FmtText.operand_int_at (sh := shape3) (k := .i64) rfl rfl e we
  have h3 := FmtText.operand_int_at (sh := shape23) (k := .u64) rfl rfl h wh
  have h4 := FmtText.operand_int_at (sh := shape23) (k := .u64) rfl rfl l wl
  rw [readingA, FmtText.text_sprintf_glued parseA (FmtText.operands_cons h1 (FmtText.operands_cons h2 (FmtText.operands_cons h3 (FmtText.operands_cons h4 FmtText.operands_nil))))]
  simp [FmtText.render, FmtText.printArg_d _ _ ws, FmtText.printArg_d _ _ we, FmtText.printArg_d _ _ wh, FmtText.printArg_d _ _ wl]
theorem textB : FmtText.text "fmt.Sprintf" readingB = some [112, 114, 111, 103, 114, 101, 115, 115, 105, 118, 101, 32, 115, 99, 97, 110, 32, 111, 102, 32, 116, 104, 101, 32, 68, 67, 32, 99, 111, 101, 102, 102, 105, 99, 105, 101, 110, 116, 32, 97, 110, 100, 32, 111, 116, 104, 101, 114, 115, 32, 116, 111, 103, 101, 116, 104, 101, 114] := by
  rw [readingB, FmtText.text_sprintf_glued parseB FmtText.operands_nil]
  simp [FmtText.render]
theorem textC (n : Int) (wn : (Lit.int .i64 n).wf = true) :
    FmtText.text "fmt.Sprintf" (readingC n) = some ([112, 114, 111, 103, 114, 101, 115, 115, 105, 118, 101, 32, 115, 99, 97, 110, 32, 111, 102, 32, 65, 67, 32, 99, 111, 101, 102, 102, 105, 99, 105, 101, 110, 116, 115, 32, 111, 102, 32] ++ (Lib.itoa n ++ [32, 99, 111, 109, 112, 111, 110, 101, 110, 116, 115])) := by
  have h1 := FmtText.operand_int_at (sh := shape3) (k := .i64) rfl rfl n wn
  rw [readingC, FmtText.text_sprintf_glued parseC (FmtText.operands_cons h1 FmtText.operands_nil)]
  simp [FmtText.render, FmtText.printArg_d _ _ wn]

theorem size_told (F : Interp) (r : List (List UInt8)) (t : List UInt8) (h : FmtText.text "fmt.Sprintf" r = some t) (hl : t.length ≤ 1000) : (FmtStop.textOf (F.told "fmt.Sprintf" r 0)).size ≤ 1000 := by
  have e := textOf_list F.told "fmt.Sprintf" r
  rw [told_string F h (by omega)] at e
  have e2 : (FmtStop.textOf (F.told "fmt.Sprintf" r 0)).size = t.length := by rw [← e]; simp
  omega
theorem sizeA (F : Interp) (s e h l : Int) (ws : (Lit.int .i64 s).wf = true) (we : (Lit.int .i64 e).wf = true) (wh : (Lit.int .u64 h).wf = true) (wl : (Lit.int .u64 l).wf = true) :
    (FmtStop.textOf (F.told "fmt.Sprintf" (readingA s e h l) 0)).size ≤ 1000 := by
  have l1 := FmtText.itoa_length_le ws
  have l2 := FmtText.itoa_length_le we
  have l3 := FmtText.itoa_length_le wh
  have l4 := FmtText.itoa_length_le wl
  exact size_told F _ _ (textA s e h l ws we wh wl) (by simp; omega)
theorem sizeB (F : Interp) : (FmtStop.textOf (F.told "fmt.Sprintf" readingB 0)).size ≤ 1000 := size_told F _ _ textB (by simp)
theorem sizeC (F : Interp) (n : Int) (wn : (Lit.int .i64 n).wf = true) : (FmtStop.textOf (F.told "fmt.Sprintf" (readingC n) 0)).size ≤ 1000 := by
  have l1 := FmtText.itoa_length_le wn
  exact size_told F _ _ (textC n wn) (by simp; omega)
end Go.Proofs.Qxb6605972aFmt
