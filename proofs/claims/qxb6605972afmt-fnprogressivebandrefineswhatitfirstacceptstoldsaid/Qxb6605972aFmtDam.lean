import Derived.Test.Qxb6605972aFmtText
namespace Go.Proofs.Qxb6605972aFmt
open Go.ChangeShapes Go.WideShapes Go.ChangeAt Go.RowKit
open Go.Extern.Stop Go.Stop Go.Extern
attribute [local go_sem] call23 guardF fmtA fmtAr fmtB fmtBr fmtC fmtCr act3 op3 strict3 str3 act23 op23 strict23 str23

set_option maxHeartbeats 800000 in
theorem damA (F : Interp) (g : Nat) (s e h l : Int) (w : World) (hF : F.answers w.tape) (h0 : w.cell? ⟨g, 0, none⟩ = some (.iface 3 (.int .i64 s))) (h1 : w.cell? ⟨g, 1, none⟩ = some (.iface 3 (.int .i64 e))) (h2 : w.cell? ⟨g, 2, none⟩ = some (.iface 23 (.int .u64 h))) (h3 : w.cell? ⟨g, 3, none⟩ = some (.iface 23 (.int .u64 l))) (hsz : (FmtStop.textOf (F "fmt.Sprintf" (readingA s e h l) 0)).size ≤ 1000) :
    Calls Tryf.prog 14 #[.string ⟨#[112, 114, 111, 103, 114, 101, 115, 115, 105, 118, 101, 32, 115, 99, 97, 110, 32, 111, 102, 32, 99, 111, 101, 102, 102, 105, 99, 105, 101, 110, 116, 115, 32, 37, 100, 32, 116, 111, 32, 37, 100, 44, 32, 98, 105, 116, 115, 32, 37, 100, 32, 116, 111, 32, 37, 100]⟩, .slice (some ⟨g, 0, none⟩) 4 4] w fun e w' => ∃ a, e = .returned (.iface 69 (.pointer (some a))) ∧ Below w.heap.size w w' := by
  have hF' := answers_open hF
  unfold readingA at hsz
  go_enter Tryf.func14, Tryf.ntmps14
  go_wp2
  apply rows_value nextTurns
  case hr =>
    go_simp
    exact ⟨rfl, rfl⟩
  case h =>
    go_wp2
    go_ret
    exact ⟨_, rfl, ((Below.refl _ _).alloc (Nat.le_refl _) _).drew⟩

set_option maxHeartbeats 800000 in
theorem damB (F : Interp) (w : World) (hF : F.answers w.tape) (hsz : (FmtStop.textOf (F "fmt.Sprintf" readingB 0)).size ≤ 1000) :
    Calls Tryf.prog 14 #[.string ⟨#[112, 114, 111, 103, 114, 101, 115, 115, 105, 118, 101, 32, 115, 99, 97, 110, 32, 111, 102, 32, 116, 104, 101, 32, 68, 67, 32, 99, 111, 101, 102, 102, 105, 99, 105, 101, 110, 116, 32, 97, 110, 100, 32, 111, 116, 104, 101, 114, 115, 32, 116, 111, 103, 101, 116, 104, 101, 114]⟩, .slice none 0 0] w fun e w' => ∃ a, e = .returned (.iface 69 (.pointer (some a))) ∧ Below w.heap.size w w' := by
  have hF' := answers_open hF
  unfold readingB at hsz
  go_enter Tryf.func14, Tryf.ntmps14
  go_wp2
  apply rows_value nextTurns
  case hr =>
    go_simp
    exact ⟨rfl, rfl⟩
  case h =>
    go_wp2
    go_ret
    exact ⟨_, rfl, ((Below.refl _ _).alloc (Nat.le_refl _) _).drew⟩

set_option maxHeartbeats 800000 in
theorem damC (F : Interp) (g : Nat) (n : Int) (w : World) (hF : F.answers w.tape) (h0 : w.cell? ⟨g, 0, none⟩ = some (.iface 3 (.int .i64 n))) (hsz : (FmtStop.textOf (F "fmt.Sprintf" (readingC n) 0)).size ≤ 1000) :
    Calls Tryf.prog 14 #[.string ⟨#[112, 114, 111, 103, 114, 101, 115, 115, 105, 118, 101, 32, 115, 99, 97, 110, 32, 111, 102, 32, 65, 67, 32, 99, 111, 101, 102, 102, 105, 99, 105, 101, 110, 116, 115, 32, 111, 102, 32, 37, 100, 32, 99, 111, 109, 112, 111, 110, 101, 110, 116, 115]⟩, .slice (some ⟨g, 0, none⟩) 1 1] w fun e w' => ∃ a, e = .returned (.iface 69 (.pointer (some a))) ∧ Below w.heap.size w w' := by
  have hF' := answers_open hF
  unfold readingC at hsz
  go_enter Tryf.func14, Tryf.ntmps14
  go_wp2
  apply rows_value nextTurns
  case hr =>
    go_simp
    exact ⟨rfl, rfl⟩
  case h =>
    go_wp2
    go_ret
    exact ⟨_, rfl, ((Below.refl _ _).alloc (Nat.le_refl _) _).drew⟩

end Go.Proofs.Qxb6605972aFmt
