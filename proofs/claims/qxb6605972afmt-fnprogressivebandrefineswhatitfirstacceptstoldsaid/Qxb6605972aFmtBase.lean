import Derived.Test.Qxb6605972aFmtRows
import Derived.WalkKit
import Derived.ProofKit
import Derived.OpenShut
import Derived.WalkSpells
import Derived.OwnWalk
import Derived.Laws.OwnMore
import Derived.Lib.SliceRun
import Derived.Laws.Tables
import Derived.Laws.Rows
import Derived.Laws.CopyOwn
namespace Go.Proofs.Qxb6605972aFmt
open Go.ChangeShapes Go.WideShapes Go.ChangeAt Go.RowKit

theorem ret_int {k : IntKind} {a b : Int} (h : a = b) : Ending.returned (.int k a) = .returned (.int k b) := by rw [h]
theorem ret_bool {a b : Bool} (h : a = b) : Ending.returned (.bool a) = .returned (.bool b) := by rw [h]

set_option maxHeartbeats 400000 in
theorem bytes5_any (a : Option Addr) (len cap : Nat) (s e h l : Int) (w : World) (hm : len ≤ 1048576) :
    Calls Tryf.prog 5 #[.slice a len cap, .int .i64 s, .int .i64 e, .int .u64 h, .int .u64 l] w fun e w' => e = .returned (.bool true) ∧ w' = w := by
  go_enter Tryf.func5, Tryf.ntmps5
  go_wp2
  go_ret
  exact ⟨rfl, rfl⟩
set_option maxHeartbeats 400000 in
theorem bytes5_no (a : Option Addr) (len cap : Nat) (s e h l : Int) (w : World) (hm : ¬ len ≤ 1048576) :
    Calls Tryf.prog 5 #[.slice a len cap, .int .i64 s, .int .i64 e, .int .u64 h, .int .u64 l] w fun e w' => e = .returned (.bool false) ∧ w' = w := by
  go_enter Tryf.func5, Tryf.ntmps5
  go_wp2
  go_ret
  exact ⟨rfl, rfl⟩
set_option maxHeartbeats 400000 in
theorem bytes10_any (a : Option Addr) (len cap : Nat) (s e h l : Int) (w : World) (hm : len ≤ 1048576) :
    Calls Tryf.prog 10 #[.slice a len cap, .int .i64 s, .int .i64 e, .int .u64 h, .int .u64 l] w fun e w' => e = .returned (.bool true) ∧ w' = w := by
  go_enter Tryf.func10, Tryf.ntmps10
  go_wp2
  go_ret
  exact ⟨rfl, rfl⟩
set_option maxHeartbeats 400000 in
theorem bytes10_no (a : Option Addr) (len cap : Nat) (s e h l : Int) (w : World) (hm : ¬ len ≤ 1048576) :
    Calls Tryf.prog 10 #[.slice a len cap, .int .i64 s, .int .i64 e, .int .u64 h, .int .u64 l] w fun e w' => e = .returned (.bool false) ∧ w' = w := by
  go_enter Tryf.func10, Tryf.ntmps10
  go_wp2
  go_ret
  exact ⟨rfl, rfl⟩

set_option maxHeartbeats 800000 in
theorem plane_any (w : World) :
    Calls Tryf.prog 12 #[.slice none 0 0, .int .i64 0, .int .i64 0, .int .i64 0, .int .i64 1, .int .i64 1] w fun e w' => e = .returned (.agg #[.slice none 0 0, .int .i64 0, .int .i64 0, .int .i64 0, .int .i64 1, .int .i64 1]) ∧ Below w.heap.size w w' := by
  go_enter Tryf.func12, Tryf.ntmps12
  go_wp2
  exact bodyPost_ret (v := .agg #[.slice none 0 0, .int .i64 0, .int .i64 0, .int .i64 0, .int .i64 1, .int .i64 1]) (by simp [results, Tryf.results12, go_sem]) rfl ⟨rfl, (Below.refl _ _).alloc (Nat.le_refl _) _⟩

set_option maxHeartbeats 800000 in
theorem decoder_any (w : World) :
    Calls Tryf.prog 7 #[.bool true, .bool true, .int .i64 0, .int .i64 0, .int .i64 1, .bool false, .int .u8 0, .slice none 0 0] w fun e w' => e = .returned (.pointer (some ⟨w.heap.size, 0, none⟩)) ∧ Below w.heap.size w w' := by
  go_enter Tryf.func7, Tryf.ntmps7
  go_wp2_with (refine wpList_build rfl 49 _ rfl (by kernel_rfl) ?_)
  go_ret
  exact ⟨rfl, (Below.refl _ _).alloc (Nat.le_refl _) _⟩

/-- a new variable of type t: one new block of its zero value's cells -/
theorem wpList_alloc_any {P : Program} {ops : Array Oper} {rest : List Oper} {o : Oper} {a : Act} {w : World} {Q : Exit → Act → World → Prop} (hg : o.guard = none) (t : TypeId) (ho : o.op = .alloc t)
    (zs : Array Value) (hz : (P.info? t).bind (·.zero) = some (.agg zs))
    (h : wpList P ops Q rest (a.put o.dst (.pointer (some ⟨w.heap.size, 0, none⟩))) (w.alloc (.cells zs t))) : wpList P ops Q (o :: rest) a w := by
  refine wpList_plain hg fun K hK => ?_
  unfold Oper.wp
  cases hi : P.info? t with
  | none => simp [hi] at hz
  | some i =>
    simp [hi] at hz
    simp [execOp, ho, Instr.alloc, zeroValue, typeInfo, hi, hz, newVar, newRow, Value.cells]
    exact hK _ _ h

/-- a struct literal whose cells are known by name -/
theorem wpList_build_as {P : Program} {ops : Array Oper} {rest : List Oper} {o : Oper} {a : Act} {w : World} {Q : Exit → Act → World → Prop} (hg : o.guard = none) (t : TypeId) (parts : Array (Nat × Operand)) (ho : o.op = .build t parts)
    (cs : Array Value) (hf : P.built t (parts.map fun (i, x) => (i, a.eval x)).toList = some cs)
    (h : wpList P ops Q rest (a.put o.dst (.agg cs)) w) : wpList P ops Q (o :: rest) a w := by
  refine wpList_build hg t parts ho (by rw [hf]; rfl) ?_
  rw [hf]; exact h

theorem comp_zero : ∃ zs, (Tryf.prog.info? 57).bind (·.zero) = some (.agg zs) ∧ zs.size = 84 := ⟨(((Tryf.prog.info? 57).bind (·.zero)).getD undef).cells, by kernel_rfl, by kernel_rfl⟩
theorem comp_built (id : Int) : ∃ cs, Tryf.prog.built 57 [(0, .int .u8 id), (13, .agg #[.slice none 0 0, .int .i64 0, .int .i64 0, .int .i64 0, .int .i64 1, .int .i64 1])] = some cs ∧ cs.size = 84 ∧ cs.all (·.oneCell') = true :=
  ⟨(Tryf.prog.built 57 [(0, .int .u8 id), (13, .agg #[.slice none 0 0, .int .i64 0, .int .i64 0, .int .i64 0, .int .i64 1, .int .i64 1])]).getD #[], by kernel_rfl, by kernel_rfl, by kernel_rfl⟩
theorem comp_size : (Tryf.prog.info? 57).map (·.size) = some 84 := by kernel_rfl
theorem plane_size : (Tryf.prog.info? 53).map (·.size) = some 6 := by kernel_rfl

set_option maxHeartbeats 800000 in
theorem comp_any (id : Int) (w : World) :
    Calls Tryf.prog 11 #[.int .u8 id, .agg #[.slice none 0 0, .int .i64 0, .int .i64 0, .int .i64 0, .int .i64 1, .int .i64 1]] w fun e w' => ∃ cs : Array Value, e = .returned (.agg cs) ∧ cs.size = 84 ∧ cs.all (·.oneCell') = true ∧ Below w.heap.size w w' := by
  obtain ⟨zs, hz, hzs⟩ := comp_zero
  obtain ⟨cs, hcs, hcz, hca⟩ := comp_built id
  have HZ : Hid ((Tryf.prog.info? 57).bind (·.zero) = some (.agg zs) ∧ zs.size = 84) := ⟨hz, hzs⟩
  have HC : Hid (Tryf.prog.built 57 [(0, .int .u8 id), (13, .agg #[.slice none 0 0, .int .i64 0, .int .i64 0, .int .i64 0, .int .i64 1, .int .i64 1])] = some cs ∧ cs.size = 84 ∧ cs.all (·.oneCell') = true) := ⟨hcs, hcz, hca⟩
  clear hz hzs hcs hcz hca
  go_enter Tryf.func11, Tryf.ntmps11
  go_wp2_with (first | (refine wpList_alloc_any rfl 57 rfl zs HZ.out.1 ?_) | (refine wpList_build_as rfl 57 _ rfl cs ?_ ?_; (simp [Act.eval]; exact HC.out.1)) | (refine wpList_store_row rfl 57 _ _ rfl (w.heap.size + 1) cs rfl rfl 57 zs (heap_alloc2_new _ _ _) (by rw [HC.out.2.1]; exact comp_size) (by rw [HZ.out.2, HC.out.2.1]) HC.out.2.2 ?_))
  refine bodyPost_ret (v := .agg cs) (results_cell_row Tryf.results11 _ _ (w.heap.size + 1) 57 cs (0, 0) _ rfl (setRow_heap _ _ zs cs 57 (0, 0) (heap_alloc2_new _ _ _)) Tryf.underlying57 rfl (by rw [HC.out.2.1]; exact comp_size)) rfl ⟨cs, rfl, HC.out.2.1, HC.out.2.2, ?_⟩
  exact below_setRow (((Below.refl _ _).alloc (Nat.le_refl _) _).alloc (by simp) _) (by omega) _
end Go.Proofs.Qxb6605972aFmt
