/- The lengths that a proof system tells: its accessors, of kinds 3, 4 and 5. Methods by which a machine's circuit tells its lengths: which function, of which receiver. The parameters that a machine tells. A region whose order is drawn, where every order gives the same values: each operation answers alike in every world that keeps one condition. The circuits of kinds 1 and 4, as they are made. Bytes are appended where there is room. -/
import Derived.Test.YtlmmdldjfpdcfaaGreatDoorE02
import Derived.StillTail
import Derived.Laws.EntriesVeiled
import Derived.OwnWalk
namespace Go.Proofs.YtlmmdldjfpdcfaaGreatDoor
open Go.RowKit

theorem arityMul (w : World) : Calls Tryz.prog 253 #[.agg #[]] w fun e w' => e = .returned (.int .u64 2) ∧ Below w.heap.size w w' := by
  go_enter Tryz.func253, Tryz.ntmps253
  go_wp2
  go_ret
  exact ⟨rfl, (Below.refl _ _).alloc (Nat.le_refl _) _⟩
theorem degreeMul (w : World) : Calls Tryz.prog 254 #[.agg #[]] w fun e w' => e = .returned (.int .u64 2) ∧ Below w.heap.size w w' := by
  go_enter Tryz.func254, Tryz.ntmps254
  go_wp2
  go_ret
  exact ⟨rfl, (Below.refl _ _).alloc (Nat.le_refl _) _⟩

theorem byte209 : byteOfCell Tryz.prog Tryz.prog.depth 209 (0 % Tryz.prog.cellsOf 209) = some 0 := by kernel_rfl
theorem cells209 : Tryz.prog.cellsOf 209 ≠ 0 := by rw [show Tryz.prog.cellsOf 209 = 1 from by kernel_rfl]; decide

set_option maxRecDepth 100000 in
set_option maxHeartbeats 400000 in
theorem aritySum (c : Nat) (hc : c < 65536) (w : World) : Calls Tryz.prog 268 #[.agg #[.int .u64 c]] w fun e w' => e = .returned (.int .u64 (2 * c : Nat)) ∧ Below w.heap.size w w' := by
  have hpa : ∀ wx : World, wx.heap[w.heap.size]? = some (.cells #[.int .u64 c] 209 (0, 0)) → (partAt ⟨w.heap.size, 0, none⟩ 0 0).run Tryz.prog wx = .ok ⟨w.heap.size, 0, none⟩ wx := fun wx h => partAt_here h cells209 byte209
  have hce : ∀ wx : World, wx.heap[w.heap.size]? = some (.cells #[.int .u64 c] 209 (0, 0)) → wx.cell? ⟨w.heap.size, 0, none⟩ = some (.int .u64 c) := fun wx h => cell_of_one h
  go_enter Tryz.func268, Tryz.ntmps268
  go_wp2
  go_region_held3 (fun wx => wx.heap[w.heap.size]? = some (.cells #[.int .u64 c] 209 (0, 0))) ((first | exact heap_alloc_new _ _ | exact (hb.block _ (lt_of_block (by assumption))).trans (by assumption) | assumption)) (first | (go_at_call 253; refine (arityMul _).mono ?_; rintro e w' ⟨rfl, hb⟩))
  go_wp2
  go_ret
  refine ⟨?_, ((Below.refl _ _).alloc (Nat.le_refl _) _).drew.trans (hb.mono (by simp))⟩
  show Ending.returned (.int .u64 (IntKind.u64.wrap (2 * (c : Int)))) = _
  rw [IntKind.wrap_u64]
  congr 2
  omega

set_option maxRecDepth 100000 in
set_option maxHeartbeats 400000 in
theorem degreeSum (c : Nat) (w : World) : Calls Tryz.prog 269 #[.agg #[.int .u64 c]] w fun e w' => e = .returned (.int .u64 2) ∧ Below w.heap.size w w' := by
  have hpa : (partAt ⟨w.heap.size, 0, none⟩ 0 0).run Tryz.prog (w.alloc (.cells #[.int .u64 c] 209)) = .ok ⟨w.heap.size, 0, none⟩ (w.alloc (.cells #[.int .u64 c] 209)) := partAt_here (heap_alloc_new _ _) cells209 byte209
  go_enter Tryz.func269, Tryz.ntmps269
  go_wp2_with (go_at_call 254; refine (degreeMul _).mono ?_; rintro e w' ⟨rfl, hb⟩)
  go_ret
  exact ⟨rfl, ((Below.refl _ _).alloc (Nat.le_refl _) _).trans (hb.mono (by simp))⟩

set_option maxRecDepth 100000 in
set_option maxHeartbeats 400000 in
/-- The gadget's polynomial of kinds 3, 4 and 5: how long it is. -/
theorem polyLen3 (b c calls : Nat) (hcl : calls < 1099) (w : World) (h1 : w.cell? ⟨b, 1, none⟩ = some (.int .u64 c)) (h2 : w.cell? ⟨b, 2, none⟩ = some (.int .u64 calls)) (hT : TabOk w) :
    Calls Tryz.prog 247 #[.pointer (some ⟨b, 1, none⟩)] w fun e w' => e = .returned (.int .u64 (1 + 2 * (pw (1 + calls) - 1) : Nat)) ∧ Below w.heap.size w w' := by
  have HT := Lib.hid hT
  obtain ⟨hp1, hp2⟩ := pw_bounds (1 + calls) (by omega)
  clear hT
  go_enter Tryz.func247, Tryz.ntmps247
  go_wp2_with (first | (go_at_call 227; refine (next_any (1 + calls) (by omega) (by omega) _ HT.out).mono ?_; rintro e w' ⟨k, rfl, rfl⟩) | (go_at_call 269; refine (degreeSum c _).mono ?_; rintro e w' ⟨rfl, hb⟩))
  go_ret
  refine ⟨?_, hb⟩
  show Ending.returned (.int .u64 (1 + 2 * ((pw (1 + calls) : Nat) - 1))) = _
  congr 2
  omega

set_option maxRecDepth 100000 in
set_option maxHeartbeats 400000 in
theorem proveRand3 (b c : Nat) (hc : c < 65536) (w : World) (h1 : w.cell? ⟨b, 1, none⟩ = some (.int .u64 c)) :
    Calls Tryz.prog 245 #[.pointer (some ⟨b, 1, none⟩)] w fun e w' => e = .returned (.int .u64 (2 * c : Nat)) ∧ Below w.heap.size w w' := by
  go_enter Tryz.func245, Tryz.ntmps245
  go_wp2_with (first | (go_at_call 268; refine (aritySum c hc _).mono ?_; rintro e w' ⟨rfl, hb⟩))
  go_ret
  exact ⟨rfl, hb⟩

set_option maxRecDepth 100000 in
set_option maxHeartbeats 400000 in
theorem verifierLen3 (b c : Nat) (hc : c < 65536) (w : World) (h1 : w.cell? ⟨b, 1, none⟩ = some (.int .u64 c)) :
    Calls Tryz.prog 246 #[.pointer (some ⟨b, 1, none⟩)] w fun e w' => e = .returned (.int .u64 (2 + 2 * c : Nat)) ∧ Below w.heap.size w w' := by
  go_enter Tryz.func246, Tryz.ntmps246
  go_wp2_with (first | (go_at_call 268; refine (aritySum c hc _).mono ?_; rintro e w' ⟨rfl, hb⟩))
  go_ret
  refine ⟨?_, hb⟩
  show Ending.returned (.int .u64 (2 + 2 * (c : Int))) = _
  congr 2

set_option maxRecDepth 100000 in
set_option maxHeartbeats 400000 in
theorem proofLen3 (b c calls : Nat) (hc : c < 65536) (hcl : calls < 1099) (w : World) (h1 : w.cell? ⟨b, 1, none⟩ = some (.int .u64 c)) (h2 : w.cell? ⟨b, 2, none⟩ = some (.int .u64 calls)) (hT : TabOk w) (h22 : 22 < w.heap.size) :
    Calls Tryz.prog 244 #[.pointer (some ⟨b, 1, none⟩)] w fun e w' => e = .returned (.int .u64 (2 * c + (1 + 2 * (pw (1 + calls) - 1)) : Nat)) ∧ Below w.heap.size w w' := by
  have HT := Lib.hid hT
  obtain ⟨hp1, hp2⟩ := pw_bounds (1 + calls) (by omega)
  have hbs : b < w.heap.size := block_lt_of_cell h1
  clear hT
  go_enter Tryz.func244, Tryz.ntmps244
  go_wp2_with (first | (go_at_call 268; refine (aritySum c hc _).mono ?_; rintro e w' ⟨rfl, hb⟩; obtain ⟨hcb, -⟩ := bcells hb) | (go_at_call 247; refine (polyLen3 b c calls hcl _ (by go_simp) (by go_simp) (HT.out.below hb h22)).mono ?_; rintro e w'' ⟨rfl, hw⟩))
  go_ret
  refine ⟨?_, hb.trans (hw.mono hb.size)⟩
  show Ending.returned (.int .u64 (2 * (c : Int) + ((1 + 2 * (pw (1 + calls) - 1) : Nat) : Int))) = _
  congr 2
end Go.Proofs.YtlmmdldjfpdcfaaGreatDoor
namespace Go.Proofs.YtlmmdldjfpdcfaaGreatDoor
open Go.RowKit

theorem load185 (b o : Nat) (w : World) (v0 v1 v2 v3 : Value) (h0 : w.cell? ⟨b, o, none⟩ = some v0) (h1 : w.cell? ⟨b, o + 1, none⟩ = some v1) (h2 : w.cell? ⟨b, o + 2, none⟩ = some v2) (h3 : w.cell? ⟨b, o + 3, none⟩ = some v3) :
    (loadVar 185 ⟨b, o, none⟩).run Tryz.prog w = .ok (.agg #[v0, v1, v2, v3]) w := by
  refine run_loadVar_mid w b o 185 [v0, v1, v2, v3] _ ?_ Tryz.underlying185 rfl (by kernel_rfl)
  intro j v hj
  match j, hj with
  | 0, hj => simp at hj; subst hj; exact h0
  | 1, hj => simp at hj; subst hj; exact h1
  | 2, hj => simp at hj; subst hj; exact h2
  | 3, hj => simp at hj; subst hj; exact h3
  | j + 4, hj => simp at hj

theorem meth1_joint0 (b : Nat) (w : World) : (method 488 107 (.pointer (some ⟨b, 0, none⟩)) "JointRandLength").run Tryz.prog w = (loadVar 185 ⟨b, 2, none⟩ >>= fun v => pure (217, v) : Sem (FuncId × Value)).run Tryz.prog w := by kernel_rfl
theorem meth1_joint (b : Nat) (w : World) (v0 v1 v2 v3 : Value) (h0 : w.cell? ⟨b, 2, none⟩ = some v0) (h1 : w.cell? ⟨b, 3, none⟩ = some v1) (h2 : w.cell? ⟨b, 4, none⟩ = some v2) (h3 : w.cell? ⟨b, 5, none⟩ = some v3) :
    (method 488 107 (.pointer (some ⟨b, 0, none⟩)) "JointRandLength").run Tryz.prog w = .ok (217, .agg #[v0, v1, v2, v3]) w := by
  rw [meth1_joint0, Sem.run_bind, load185 b 2 w v0 v1 v2 v3 h0 h1 h2 h3]
  rfl
theorem meth1_meas0 (b : Nat) (w : World) : (method 488 107 (.pointer (some ⟨b, 0, none⟩)) "MeasurementLength").run Tryz.prog w = (loadVar 185 ⟨b, 2, none⟩ >>= fun v => pure (218, v) : Sem (FuncId × Value)).run Tryz.prog w := by kernel_rfl
theorem meth1_meas (b : Nat) (w : World) (v0 v1 v2 v3 : Value) (h0 : w.cell? ⟨b, 2, none⟩ = some v0) (h1 : w.cell? ⟨b, 3, none⟩ = some v1) (h2 : w.cell? ⟨b, 4, none⟩ = some v2) (h3 : w.cell? ⟨b, 5, none⟩ = some v3) :
    (method 488 107 (.pointer (some ⟨b, 0, none⟩)) "MeasurementLength").run Tryz.prog w = .ok (218, .agg #[v0, v1, v2, v3]) w := by
  rw [meth1_meas0, Sem.run_bind, load185 b 2 w v0 v1 v2 v3 h0 h1 h2 h3]
  rfl
theorem meth1_out0 (b : Nat) (w : World) : (method 488 107 (.pointer (some ⟨b, 0, none⟩)) "OutputLength").run Tryz.prog w = (loadVar 185 ⟨b, 2, none⟩ >>= fun v => pure (219, v) : Sem (FuncId × Value)).run Tryz.prog w := by kernel_rfl
theorem meth1_out (b : Nat) (w : World) (v0 v1 v2 v3 : Value) (h0 : w.cell? ⟨b, 2, none⟩ = some v0) (h1 : w.cell? ⟨b, 3, none⟩ = some v1) (h2 : w.cell? ⟨b, 4, none⟩ = some v2) (h3 : w.cell? ⟨b, 5, none⟩ = some v3) :
    (method 488 107 (.pointer (some ⟨b, 0, none⟩)) "OutputLength").run Tryz.prog w = .ok (219, .agg #[v0, v1, v2, v3]) w := by
  rw [meth1_out0, Sem.run_bind, load185 b 2 w v0 v1 v2 v3 h0 h1 h2 h3]
  rfl
theorem meth1_eval0 (b : Nat) (w : World) : (method 488 107 (.pointer (some ⟨b, 0, none⟩)) "EvalOutputLength").run Tryz.prog w = (loadVar 185 ⟨b, 2, none⟩ >>= fun v => pure (216, v) : Sem (FuncId × Value)).run Tryz.prog w := by kernel_rfl
theorem meth1_eval (b : Nat) (w : World) (v0 v1 v2 v3 : Value) (h0 : w.cell? ⟨b, 2, none⟩ = some v0) (h1 : w.cell? ⟨b, 3, none⟩ = some v1) (h2 : w.cell? ⟨b, 4, none⟩ = some v2) (h3 : w.cell? ⟨b, 5, none⟩ = some v3) :
    (method 488 107 (.pointer (some ⟨b, 0, none⟩)) "EvalOutputLength").run Tryz.prog w = .ok (216, .agg #[v0, v1, v2, v3]) w := by
  rw [meth1_eval0, Sem.run_bind, load185 b 2 w v0 v1 v2 v3 h0 h1 h2 h3]
  rfl
theorem meth1_query0 (b : Nat) (w : World) : (method 488 107 (.pointer (some ⟨b, 0, none⟩)) "QueryRandLength").run Tryz.prog w = (loadVar 185 ⟨b, 2, none⟩ >>= fun v => pure (222, v) : Sem (FuncId × Value)).run Tryz.prog w := by kernel_rfl
theorem meth1_query (b : Nat) (w : World) (v0 v1 v2 v3 : Value) (h0 : w.cell? ⟨b, 2, none⟩ = some v0) (h1 : w.cell? ⟨b, 3, none⟩ = some v1) (h2 : w.cell? ⟨b, 4, none⟩ = some v2) (h3 : w.cell? ⟨b, 5, none⟩ = some v3) :
    (method 488 107 (.pointer (some ⟨b, 0, none⟩)) "QueryRandLength").run Tryz.prog w = .ok (222, .agg #[v0, v1, v2, v3]) w := by
  rw [meth1_query0, Sem.run_bind, load185 b 2 w v0 v1 v2 v3 h0 h1 h2 h3]
  rfl
theorem meth1_prove (b : Nat) (w : World) : (method 488 107 (.pointer (some ⟨b, 0, none⟩)) "ProveRandLength").run Tryz.prog w = .ok (221, .pointer (some ⟨b, 1, none⟩)) w := by kernel_rfl
theorem meth1_proof (b : Nat) (w : World) : (method 488 107 (.pointer (some ⟨b, 0, none⟩)) "ProofLength").run Tryz.prog w = .ok (220, .pointer (some ⟨b, 1, none⟩)) w := by kernel_rfl
theorem meth1_verif (b : Nat) (w : World) : (method 488 107 (.pointer (some ⟨b, 0, none⟩)) "VerifierLength").run Tryz.prog w = .ok (223, .pointer (some ⟨b, 1, none⟩)) w := by kernel_rfl
theorem meth2_joint0 (b : Nat) (w : World) : (method 488 131 (.pointer (some ⟨b, 0, none⟩)) "JointRandLength").run Tryz.prog w = (loadVar 185 ⟨b, 2, none⟩ >>= fun v => pure (217, v) : Sem (FuncId × Value)).run Tryz.prog w := by kernel_rfl
theorem meth2_joint (b : Nat) (w : World) (v0 v1 v2 v3 : Value) (h0 : w.cell? ⟨b, 2, none⟩ = some v0) (h1 : w.cell? ⟨b, 3, none⟩ = some v1) (h2 : w.cell? ⟨b, 4, none⟩ = some v2) (h3 : w.cell? ⟨b, 5, none⟩ = some v3) :
    (method 488 131 (.pointer (some ⟨b, 0, none⟩)) "JointRandLength").run Tryz.prog w = .ok (217, .agg #[v0, v1, v2, v3]) w := by
  rw [meth2_joint0, Sem.run_bind, load185 b 2 w v0 v1 v2 v3 h0 h1 h2 h3]
  rfl
theorem meth2_meas0 (b : Nat) (w : World) : (method 488 131 (.pointer (some ⟨b, 0, none⟩)) "MeasurementLength").run Tryz.prog w = (loadVar 185 ⟨b, 2, none⟩ >>= fun v => pure (218, v) : Sem (FuncId × Value)).run Tryz.prog w := by kernel_rfl
theorem meth2_meas (b : Nat) (w : World) (v0 v1 v2 v3 : Value) (h0 : w.cell? ⟨b, 2, none⟩ = some v0) (h1 : w.cell? ⟨b, 3, none⟩ = some v1) (h2 : w.cell? ⟨b, 4, none⟩ = some v2) (h3 : w.cell? ⟨b, 5, none⟩ = some v3) :
    (method 488 131 (.pointer (some ⟨b, 0, none⟩)) "MeasurementLength").run Tryz.prog w = .ok (218, .agg #[v0, v1, v2, v3]) w := by
  rw [meth2_meas0, Sem.run_bind, load185 b 2 w v0 v1 v2 v3 h0 h1 h2 h3]
  rfl
theorem meth2_out0 (b : Nat) (w : World) : (method 488 131 (.pointer (some ⟨b, 0, none⟩)) "OutputLength").run Tryz.prog w = (loadVar 185 ⟨b, 2, none⟩ >>= fun v => pure (219, v) : Sem (FuncId × Value)).run Tryz.prog w := by kernel_rfl
theorem meth2_out (b : Nat) (w : World) (v0 v1 v2 v3 : Value) (h0 : w.cell? ⟨b, 2, none⟩ = some v0) (h1 : w.cell? ⟨b, 3, none⟩ = some v1) (h2 : w.cell? ⟨b, 4, none⟩ = some v2) (h3 : w.cell? ⟨b, 5, none⟩ = some v3) :
    (method 488 131 (.pointer (some ⟨b, 0, none⟩)) "OutputLength").run Tryz.prog w = .ok (219, .agg #[v0, v1, v2, v3]) w := by
  rw [meth2_out0, Sem.run_bind, load185 b 2 w v0 v1 v2 v3 h0 h1 h2 h3]
  rfl
theorem meth2_eval0 (b : Nat) (w : World) : (method 488 131 (.pointer (some ⟨b, 0, none⟩)) "EvalOutputLength").run Tryz.prog w = (loadVar 185 ⟨b, 2, none⟩ >>= fun v => pure (216, v) : Sem (FuncId × Value)).run Tryz.prog w := by kernel_rfl
theorem meth2_eval (b : Nat) (w : World) (v0 v1 v2 v3 : Value) (h0 : w.cell? ⟨b, 2, none⟩ = some v0) (h1 : w.cell? ⟨b, 3, none⟩ = some v1) (h2 : w.cell? ⟨b, 4, none⟩ = some v2) (h3 : w.cell? ⟨b, 5, none⟩ = some v3) :
    (method 488 131 (.pointer (some ⟨b, 0, none⟩)) "EvalOutputLength").run Tryz.prog w = .ok (216, .agg #[v0, v1, v2, v3]) w := by
  rw [meth2_eval0, Sem.run_bind, load185 b 2 w v0 v1 v2 v3 h0 h1 h2 h3]
  rfl
theorem meth2_query0 (b : Nat) (w : World) : (method 488 131 (.pointer (some ⟨b, 0, none⟩)) "QueryRandLength").run Tryz.prog w = (loadVar 185 ⟨b, 2, none⟩ >>= fun v => pure (222, v) : Sem (FuncId × Value)).run Tryz.prog w := by kernel_rfl
theorem meth2_query (b : Nat) (w : World) (v0 v1 v2 v3 : Value) (h0 : w.cell? ⟨b, 2, none⟩ = some v0) (h1 : w.cell? ⟨b, 3, none⟩ = some v1) (h2 : w.cell? ⟨b, 4, none⟩ = some v2) (h3 : w.cell? ⟨b, 5, none⟩ = some v3) :
    (method 488 131 (.pointer (some ⟨b, 0, none⟩)) "QueryRandLength").run Tryz.prog w = .ok (222, .agg #[v0, v1, v2, v3]) w := by
  rw [meth2_query0, Sem.run_bind, load185 b 2 w v0 v1 v2 v3 h0 h1 h2 h3]
  rfl
theorem meth2_prove (b : Nat) (w : World) : (method 488 131 (.pointer (some ⟨b, 0, none⟩)) "ProveRandLength").run Tryz.prog w = .ok (240, .pointer (some ⟨b, 1, none⟩)) w := by kernel_rfl
theorem meth2_proof (b : Nat) (w : World) : (method 488 131 (.pointer (some ⟨b, 0, none⟩)) "ProofLength").run Tryz.prog w = .ok (239, .pointer (some ⟨b, 1, none⟩)) w := by kernel_rfl
theorem meth2_verif (b : Nat) (w : World) : (method 488 131 (.pointer (some ⟨b, 0, none⟩)) "VerifierLength").run Tryz.prog w = .ok (241, .pointer (some ⟨b, 1, none⟩)) w := by kernel_rfl
theorem meth3_joint0 (b : Nat) (w : World) : (method 488 140 (.pointer (some ⟨b, 0, none⟩)) "JointRandLength").run Tryz.prog w = (loadVar 185 ⟨b, 3, none⟩ >>= fun v => pure (217, v) : Sem (FuncId × Value)).run Tryz.prog w := by kernel_rfl
theorem meth3_joint (b : Nat) (w : World) (v0 v1 v2 v3 : Value) (h0 : w.cell? ⟨b, 3, none⟩ = some v0) (h1 : w.cell? ⟨b, 4, none⟩ = some v1) (h2 : w.cell? ⟨b, 5, none⟩ = some v2) (h3 : w.cell? ⟨b, 6, none⟩ = some v3) :
    (method 488 140 (.pointer (some ⟨b, 0, none⟩)) "JointRandLength").run Tryz.prog w = .ok (217, .agg #[v0, v1, v2, v3]) w := by
  rw [meth3_joint0, Sem.run_bind, load185 b 3 w v0 v1 v2 v3 h0 h1 h2 h3]
  rfl
theorem meth3_meas0 (b : Nat) (w : World) : (method 488 140 (.pointer (some ⟨b, 0, none⟩)) "MeasurementLength").run Tryz.prog w = (loadVar 185 ⟨b, 3, none⟩ >>= fun v => pure (218, v) : Sem (FuncId × Value)).run Tryz.prog w := by kernel_rfl
theorem meth3_meas (b : Nat) (w : World) (v0 v1 v2 v3 : Value) (h0 : w.cell? ⟨b, 3, none⟩ = some v0) (h1 : w.cell? ⟨b, 4, none⟩ = some v1) (h2 : w.cell? ⟨b, 5, none⟩ = some v2) (h3 : w.cell? ⟨b, 6, none⟩ = some v3) :
    (method 488 140 (.pointer (some ⟨b, 0, none⟩)) "MeasurementLength").run Tryz.prog w = .ok (218, .agg #[v0, v1, v2, v3]) w := by
  rw [meth3_meas0, Sem.run_bind, load185 b 3 w v0 v1 v2 v3 h0 h1 h2 h3]
  rfl
theorem meth3_out0 (b : Nat) (w : World) : (method 488 140 (.pointer (some ⟨b, 0, none⟩)) "OutputLength").run Tryz.prog w = (loadVar 185 ⟨b, 3, none⟩ >>= fun v => pure (219, v) : Sem (FuncId × Value)).run Tryz.prog w := by kernel_rfl
theorem meth3_out (b : Nat) (w : World) (v0 v1 v2 v3 : Value) (h0 : w.cell? ⟨b, 3, none⟩ = some v0) (h1 : w.cell? ⟨b, 4, none⟩ = some v1) (h2 : w.cell? ⟨b, 5, none⟩ = some v2) (h3 : w.cell? ⟨b, 6, none⟩ = some v3) :
    (method 488 140 (.pointer (some ⟨b, 0, none⟩)) "OutputLength").run Tryz.prog w = .ok (219, .agg #[v0, v1, v2, v3]) w := by
  rw [meth3_out0, Sem.run_bind, load185 b 3 w v0 v1 v2 v3 h0 h1 h2 h3]
  rfl
theorem meth3_eval0 (b : Nat) (w : World) : (method 488 140 (.pointer (some ⟨b, 0, none⟩)) "EvalOutputLength").run Tryz.prog w = (loadVar 185 ⟨b, 3, none⟩ >>= fun v => pure (216, v) : Sem (FuncId × Value)).run Tryz.prog w := by kernel_rfl
theorem meth3_eval (b : Nat) (w : World) (v0 v1 v2 v3 : Value) (h0 : w.cell? ⟨b, 3, none⟩ = some v0) (h1 : w.cell? ⟨b, 4, none⟩ = some v1) (h2 : w.cell? ⟨b, 5, none⟩ = some v2) (h3 : w.cell? ⟨b, 6, none⟩ = some v3) :
    (method 488 140 (.pointer (some ⟨b, 0, none⟩)) "EvalOutputLength").run Tryz.prog w = .ok (216, .agg #[v0, v1, v2, v3]) w := by
  rw [meth3_eval0, Sem.run_bind, load185 b 3 w v0 v1 v2 v3 h0 h1 h2 h3]
  rfl
theorem meth3_query0 (b : Nat) (w : World) : (method 488 140 (.pointer (some ⟨b, 0, none⟩)) "QueryRandLength").run Tryz.prog w = (loadVar 185 ⟨b, 3, none⟩ >>= fun v => pure (222, v) : Sem (FuncId × Value)).run Tryz.prog w := by kernel_rfl
theorem meth3_query (b : Nat) (w : World) (v0 v1 v2 v3 : Value) (h0 : w.cell? ⟨b, 3, none⟩ = some v0) (h1 : w.cell? ⟨b, 4, none⟩ = some v1) (h2 : w.cell? ⟨b, 5, none⟩ = some v2) (h3 : w.cell? ⟨b, 6, none⟩ = some v3) :
    (method 488 140 (.pointer (some ⟨b, 0, none⟩)) "QueryRandLength").run Tryz.prog w = .ok (222, .agg #[v0, v1, v2, v3]) w := by
  rw [meth3_query0, Sem.run_bind, load185 b 3 w v0 v1 v2 v3 h0 h1 h2 h3]
  rfl
theorem meth3_prove (b : Nat) (w : World) : (method 488 140 (.pointer (some ⟨b, 0, none⟩)) "ProveRandLength").run Tryz.prog w = .ok (245, .pointer (some ⟨b, 1, none⟩)) w := by kernel_rfl
theorem meth3_proof (b : Nat) (w : World) : (method 488 140 (.pointer (some ⟨b, 0, none⟩)) "ProofLength").run Tryz.prog w = .ok (244, .pointer (some ⟨b, 1, none⟩)) w := by kernel_rfl
theorem meth3_verif (b : Nat) (w : World) : (method 488 140 (.pointer (some ⟨b, 0, none⟩)) "VerifierLength").run Tryz.prog w = .ok (246, .pointer (some ⟨b, 1, none⟩)) w := by kernel_rfl
theorem meth4_joint0 (b : Nat) (w : World) : (method 488 155 (.pointer (some ⟨b, 0, none⟩)) "JointRandLength").run Tryz.prog w = (loadVar 185 ⟨b, 3, none⟩ >>= fun v => pure (217, v) : Sem (FuncId × Value)).run Tryz.prog w := by kernel_rfl
theorem meth4_joint (b : Nat) (w : World) (v0 v1 v2 v3 : Value) (h0 : w.cell? ⟨b, 3, none⟩ = some v0) (h1 : w.cell? ⟨b, 4, none⟩ = some v1) (h2 : w.cell? ⟨b, 5, none⟩ = some v2) (h3 : w.cell? ⟨b, 6, none⟩ = some v3) :
    (method 488 155 (.pointer (some ⟨b, 0, none⟩)) "JointRandLength").run Tryz.prog w = .ok (217, .agg #[v0, v1, v2, v3]) w := by
  rw [meth4_joint0, Sem.run_bind, load185 b 3 w v0 v1 v2 v3 h0 h1 h2 h3]
  rfl
theorem meth4_meas0 (b : Nat) (w : World) : (method 488 155 (.pointer (some ⟨b, 0, none⟩)) "MeasurementLength").run Tryz.prog w = (loadVar 185 ⟨b, 3, none⟩ >>= fun v => pure (218, v) : Sem (FuncId × Value)).run Tryz.prog w := by kernel_rfl
theorem meth4_meas (b : Nat) (w : World) (v0 v1 v2 v3 : Value) (h0 : w.cell? ⟨b, 3, none⟩ = some v0) (h1 : w.cell? ⟨b, 4, none⟩ = some v1) (h2 : w.cell? ⟨b, 5, none⟩ = some v2) (h3 : w.cell? ⟨b, 6, none⟩ = some v3) :
    (method 488 155 (.pointer (some ⟨b, 0, none⟩)) "MeasurementLength").run Tryz.prog w = .ok (218, .agg #[v0, v1, v2, v3]) w := by
  rw [meth4_meas0, Sem.run_bind, load185 b 3 w v0 v1 v2 v3 h0 h1 h2 h3]
  rfl
theorem meth4_out0 (b : Nat) (w : World) : (method 488 155 (.pointer (some ⟨b, 0, none⟩)) "OutputLength").run Tryz.prog w = (loadVar 185 ⟨b, 3, none⟩ >>= fun v => pure (219, v) : Sem (FuncId × Value)).run Tryz.prog w := by kernel_rfl
theorem meth4_out (b : Nat) (w : World) (v0 v1 v2 v3 : Value) (h0 : w.cell? ⟨b, 3, none⟩ = some v0) (h1 : w.cell? ⟨b, 4, none⟩ = some v1) (h2 : w.cell? ⟨b, 5, none⟩ = some v2) (h3 : w.cell? ⟨b, 6, none⟩ = some v3) :
    (method 488 155 (.pointer (some ⟨b, 0, none⟩)) "OutputLength").run Tryz.prog w = .ok (219, .agg #[v0, v1, v2, v3]) w := by
  rw [meth4_out0, Sem.run_bind, load185 b 3 w v0 v1 v2 v3 h0 h1 h2 h3]
  rfl
theorem meth4_eval0 (b : Nat) (w : World) : (method 488 155 (.pointer (some ⟨b, 0, none⟩)) "EvalOutputLength").run Tryz.prog w = (loadVar 185 ⟨b, 3, none⟩ >>= fun v => pure (216, v) : Sem (FuncId × Value)).run Tryz.prog w := by kernel_rfl
theorem meth4_eval (b : Nat) (w : World) (v0 v1 v2 v3 : Value) (h0 : w.cell? ⟨b, 3, none⟩ = some v0) (h1 : w.cell? ⟨b, 4, none⟩ = some v1) (h2 : w.cell? ⟨b, 5, none⟩ = some v2) (h3 : w.cell? ⟨b, 6, none⟩ = some v3) :
    (method 488 155 (.pointer (some ⟨b, 0, none⟩)) "EvalOutputLength").run Tryz.prog w = .ok (216, .agg #[v0, v1, v2, v3]) w := by
  rw [meth4_eval0, Sem.run_bind, load185 b 3 w v0 v1 v2 v3 h0 h1 h2 h3]
  rfl
theorem meth4_query0 (b : Nat) (w : World) : (method 488 155 (.pointer (some ⟨b, 0, none⟩)) "QueryRandLength").run Tryz.prog w = (loadVar 185 ⟨b, 3, none⟩ >>= fun v => pure (222, v) : Sem (FuncId × Value)).run Tryz.prog w := by kernel_rfl
theorem meth4_query (b : Nat) (w : World) (v0 v1 v2 v3 : Value) (h0 : w.cell? ⟨b, 3, none⟩ = some v0) (h1 : w.cell? ⟨b, 4, none⟩ = some v1) (h2 : w.cell? ⟨b, 5, none⟩ = some v2) (h3 : w.cell? ⟨b, 6, none⟩ = some v3) :
    (method 488 155 (.pointer (some ⟨b, 0, none⟩)) "QueryRandLength").run Tryz.prog w = .ok (222, .agg #[v0, v1, v2, v3]) w := by
  rw [meth4_query0, Sem.run_bind, load185 b 3 w v0 v1 v2 v3 h0 h1 h2 h3]
  rfl
theorem meth4_prove (b : Nat) (w : World) : (method 488 155 (.pointer (some ⟨b, 0, none⟩)) "ProveRandLength").run Tryz.prog w = .ok (245, .pointer (some ⟨b, 1, none⟩)) w := by kernel_rfl
theorem meth4_proof (b : Nat) (w : World) : (method 488 155 (.pointer (some ⟨b, 0, none⟩)) "ProofLength").run Tryz.prog w = .ok (244, .pointer (some ⟨b, 1, none⟩)) w := by kernel_rfl
theorem meth4_verif (b : Nat) (w : World) : (method 488 155 (.pointer (some ⟨b, 0, none⟩)) "VerifierLength").run Tryz.prog w = .ok (246, .pointer (some ⟨b, 1, none⟩)) w := by kernel_rfl
theorem meth5_joint0 (b : Nat) (w : World) : (method 488 163 (.pointer (some ⟨b, 0, none⟩)) "JointRandLength").run Tryz.prog w = (loadVar 185 ⟨b, 3, none⟩ >>= fun v => pure (217, v) : Sem (FuncId × Value)).run Tryz.prog w := by kernel_rfl
theorem meth5_joint (b : Nat) (w : World) (v0 v1 v2 v3 : Value) (h0 : w.cell? ⟨b, 3, none⟩ = some v0) (h1 : w.cell? ⟨b, 4, none⟩ = some v1) (h2 : w.cell? ⟨b, 5, none⟩ = some v2) (h3 : w.cell? ⟨b, 6, none⟩ = some v3) :
    (method 488 163 (.pointer (some ⟨b, 0, none⟩)) "JointRandLength").run Tryz.prog w = .ok (217, .agg #[v0, v1, v2, v3]) w := by
  rw [meth5_joint0, Sem.run_bind, load185 b 3 w v0 v1 v2 v3 h0 h1 h2 h3]
  rfl
theorem meth5_meas0 (b : Nat) (w : World) : (method 488 163 (.pointer (some ⟨b, 0, none⟩)) "MeasurementLength").run Tryz.prog w = (loadVar 185 ⟨b, 3, none⟩ >>= fun v => pure (218, v) : Sem (FuncId × Value)).run Tryz.prog w := by kernel_rfl
theorem meth5_meas (b : Nat) (w : World) (v0 v1 v2 v3 : Value) (h0 : w.cell? ⟨b, 3, none⟩ = some v0) (h1 : w.cell? ⟨b, 4, none⟩ = some v1) (h2 : w.cell? ⟨b, 5, none⟩ = some v2) (h3 : w.cell? ⟨b, 6, none⟩ = some v3) :
    (method 488 163 (.pointer (some ⟨b, 0, none⟩)) "MeasurementLength").run Tryz.prog w = .ok (218, .agg #[v0, v1, v2, v3]) w := by
  rw [meth5_meas0, Sem.run_bind, load185 b 3 w v0 v1 v2 v3 h0 h1 h2 h3]
  rfl
theorem meth5_out0 (b : Nat) (w : World) : (method 488 163 (.pointer (some ⟨b, 0, none⟩)) "OutputLength").run Tryz.prog w = (loadVar 185 ⟨b, 3, none⟩ >>= fun v => pure (219, v) : Sem (FuncId × Value)).run Tryz.prog w := by kernel_rfl
theorem meth5_out (b : Nat) (w : World) (v0 v1 v2 v3 : Value) (h0 : w.cell? ⟨b, 3, none⟩ = some v0) (h1 : w.cell? ⟨b, 4, none⟩ = some v1) (h2 : w.cell? ⟨b, 5, none⟩ = some v2) (h3 : w.cell? ⟨b, 6, none⟩ = some v3) :
    (method 488 163 (.pointer (some ⟨b, 0, none⟩)) "OutputLength").run Tryz.prog w = .ok (219, .agg #[v0, v1, v2, v3]) w := by
  rw [meth5_out0, Sem.run_bind, load185 b 3 w v0 v1 v2 v3 h0 h1 h2 h3]
  rfl
theorem meth5_eval0 (b : Nat) (w : World) : (method 488 163 (.pointer (some ⟨b, 0, none⟩)) "EvalOutputLength").run Tryz.prog w = (loadVar 185 ⟨b, 3, none⟩ >>= fun v => pure (216, v) : Sem (FuncId × Value)).run Tryz.prog w := by kernel_rfl
theorem meth5_eval (b : Nat) (w : World) (v0 v1 v2 v3 : Value) (h0 : w.cell? ⟨b, 3, none⟩ = some v0) (h1 : w.cell? ⟨b, 4, none⟩ = some v1) (h2 : w.cell? ⟨b, 5, none⟩ = some v2) (h3 : w.cell? ⟨b, 6, none⟩ = some v3) :
    (method 488 163 (.pointer (some ⟨b, 0, none⟩)) "EvalOutputLength").run Tryz.prog w = .ok (216, .agg #[v0, v1, v2, v3]) w := by
  rw [meth5_eval0, Sem.run_bind, load185 b 3 w v0 v1 v2 v3 h0 h1 h2 h3]
  rfl
theorem meth5_query0 (b : Nat) (w : World) : (method 488 163 (.pointer (some ⟨b, 0, none⟩)) "QueryRandLength").run Tryz.prog w = (loadVar 185 ⟨b, 3, none⟩ >>= fun v => pure (222, v) : Sem (FuncId × Value)).run Tryz.prog w := by kernel_rfl
theorem meth5_query (b : Nat) (w : World) (v0 v1 v2 v3 : Value) (h0 : w.cell? ⟨b, 3, none⟩ = some v0) (h1 : w.cell? ⟨b, 4, none⟩ = some v1) (h2 : w.cell? ⟨b, 5, none⟩ = some v2) (h3 : w.cell? ⟨b, 6, none⟩ = some v3) :
    (method 488 163 (.pointer (some ⟨b, 0, none⟩)) "QueryRandLength").run Tryz.prog w = .ok (222, .agg #[v0, v1, v2, v3]) w := by
  rw [meth5_query0, Sem.run_bind, load185 b 3 w v0 v1 v2 v3 h0 h1 h2 h3]
  rfl
theorem meth5_prove (b : Nat) (w : World) : (method 488 163 (.pointer (some ⟨b, 0, none⟩)) "ProveRandLength").run Tryz.prog w = .ok (245, .pointer (some ⟨b, 1, none⟩)) w := by kernel_rfl
theorem meth5_proof (b : Nat) (w : World) : (method 488 163 (.pointer (some ⟨b, 0, none⟩)) "ProofLength").run Tryz.prog w = .ok (244, .pointer (some ⟨b, 1, none⟩)) w := by kernel_rfl
theorem meth5_verif (b : Nat) (w : World) : (method 488 163 (.pointer (some ⟨b, 0, none⟩)) "VerifierLength").run Tryz.prog w = .ok (246, .pointer (some ⟨b, 1, none⟩)) w := by kernel_rfl
end Go.Proofs.YtlmmdldjfpdcfaaGreatDoor
namespace Go.Proofs.YtlmmdldjfpdcfaaGreatDoor
open Go.RowKit

abbrev zero41 : Array Value := #[.int .u64 0, .int .u64 0, .int .u64 0, .int .u64 0, .int .u64 0, .int .u64 0, .int .u64 0, .int .u64 0, .int .u64 0, .int .u8 0]

/-- A machine's block, its circuit's, and the block of the result, as they lie. -/
structure Held (T S : TypeId) (b1 b2 N : Nat) (vs fs : Array Value) (w0 wx : World) : Prop where
  a : wx.heap[b1]? = some (.cells vs T (0, 0))
  b : wx.heap[b2]? = some (.cells fs S (0, 0))
  n : wx.heap[N]? = some (.cells zero41 41 (0, 0))
  t : TabOk wx
  z : 22 < wx.heap.size
  u : Below N w0 wx

theorem Held.below {T S : TypeId} {b1 b2 N : Nat} {vs fs : Array Value} {w0 wx w' : World} (h : Held T S b1 b2 N vs fs w0 wx) (hb : Below wx.heap.size wx w') : Held T S b1 b2 N vs fs w0 w' :=
  ⟨(hb.block _ (lt_of_block h.a)).trans h.a, (hb.block _ (lt_of_block h.b)).trans h.b, (hb.block _ (lt_of_block h.n)).trans h.n, h.t.below hb h.z, Nat.lt_of_lt_of_le h.z hb.size, h.u.trans (hb.mono (Nat.le_of_lt (lt_of_block h.n)))⟩

theorem Held.drew {T S : TypeId} {b1 b2 N : Nat} {vs fs : Array Value} {w0 wx : World} (h : Held T S b1 b2 N vs fs w0 wx) : Held T S b1 b2 N vs fs w0 wx.drew := ⟨h.a, h.b, h.n, h.t, h.z, h.u.drew⟩

end Go.Proofs.YtlmmdldjfpdcfaaGreatDoor
namespace Go.Proofs.YtlmmdldjfpdcfaaGreatDoor
open Go.RowKit

section
variable {P : Program} {ops : Array Oper} {S : World → Prop} {fin : Array Value} {o : Oper} {a a' : Act} {w : World}

/-- What one operation does in a world that keeps the condition. -/
def one (S : World → Prop) (a a' : Act) : Exit → Act → World → Prop := fun e b w' => e = .normal ∧ b = a' ∧ b.defers = a.defers ∧ S w'

/-- The operations of a list one behind the other, each of them in whatever world that keeps the condition. -/
def Steady (P : Program) (S : World → Prop) (L : Act → Prop) : List Oper → Act → Prop
  | [], a => L a
  | o :: l, a => ∃ a', (∀ w, S w → wpList P #[] (one S a a') [o] a w) ∧ Steady P S L l a'

/-- The temporaries that an operation reads. -/
def reads (o : Oper) : List Tmp := o.op.operands.toList.filterMap fun | .tmp t => some t | _ => none

theorem mem_reads {t : Tmp} (h : .tmp t ∈ o.op.operands) : t ∈ reads o := List.mem_filterMap.2 ⟨.tmp t, by simpa using h, rfl⟩

/-- What an operation of the head is known by. -/
def Good (P : Program) (S : World → Prop) (fin : Array Value) (o : Oper) : Prop :=
  ∀ (b : Act) (w : World) (K : Act → World → Prop) (Q : Exit → Act → World → Prop), S w → (∀ t ∈ reads o, b.tmps[t]? = fin[t]?) →
    (∀ w' u, S w' → (∀ d, o.dst = some d → fin[d]? = some u) → K (b.put o.dst u) w') → o.wp P b w K Q

theorem wanted_none (h : o.guard = none) (y) : Region.wanted o y = true := by simp [Region.wanted, h]

theorem wp_of_one (hg : o.guard = none) (h : wpList P #[] (one S a a') [o] a w) : o.wp P a w (fun b w' => b = a' ∧ b.defers = a.defers ∧ S w') (one S a a') := by
  unfold wpList at h
  rw [wanted_none hg, if_pos rfl] at h
  rcases h with h | ⟨_, h⟩
  · exact Oper.wp_mono (fun b w' hb => hb.2) h
  · obtain ⟨_, _, h, _⟩ := h; cases h

/-- The operation has laid some value. -/
theorem put_of_one (hg : o.guard = none) (h : wpList P #[] (one S a a') [o] a w) : ∃ u, a' = a.put o.dst u := by
  have h := wp_of_one hg h
  unfold Oper.wp at h
  generalize (execOp a.eval o).run P w = r at h
  cases r with
  | ok n w' =>
    cases n <;> simp only [Oper.upon] at h
    case value u => exact ⟨u, h.1.symm⟩
    case skip => exact ⟨undef, h.1.symm⟩
    case defer d => exact absurd h.2.1 (by cases o.dst <;> simp [Act.put])
    case enter f args =>
      obtain ⟨e, w', _, he, _⟩ := h []
      cases e with
      | returned u => exact ⟨u, he.1.symm⟩
      | panicked c => exact absurd he.1 (by simp)
      | outgrown => obtain ⟨_, _, he, _⟩ := he; cases he
    case row row args =>
      obtain ⟨v, w', he, _⟩ := h (Frame.ofRow P row args .normal) []
      exact ⟨v, he.1.symm⟩
  | halt x w' => cases x <;> simp only [Oper.upon] at h; case panic u => exact absurd h.1 (by simp)

theorem Act.eval_congr {b c : Act} (h : ∀ t ∈ reads o, b.tmps[t]? = c.tmps[t]?) : ∀ x ∈ o.op.operands, b.eval x = c.eval x := by
  intro x hx
  cases x with
  | tmp t => simp [Act.eval, h t (mem_reads hx)]
  | _ => rfl

theorem good_of_one (hg : o.guard = none) (hs : ∀ cs b, o.op ≠ .select cs b) (hl : ∀ w, S w → wpList P #[] (one S a a') [o] a w)
    (he : ∀ t ∈ reads o, a.tmps[t]? = fin[t]?) (hf : ∀ d, o.dst = some d → d < a.tmps.size ∧ fin[d]? = a'.tmps[d]?) : Good P S fin o := by
  intro b w K Q hS hb hK
  have h := wp_of_one hg (hl w hS)
  have hp : ∀ u, a.put o.dst u = a' → ∀ d, o.dst = some d → fin[d]? = some u := fun u hu d hd => by
    obtain ⟨h1, h2⟩ := hf d hd
    rw [h2, ← hu, hd]
    simp [Act.put, h1]
  unfold Oper.wp at *
  rw [execOp_congr o hs (Act.eval_congr (b := b) (c := a) fun t ht => (hb t ht).trans (he t ht).symm)]
  generalize (execOp a.eval o).run P w = r at *
  cases r with
  | ok n w' =>
    cases n <;> simp only [Oper.upon] at h ⊢
    case value u => exact hK w' u h.2.2 (hp u h.1)
    case skip => exact hK w' _ h.2.2 (hp _ h.1)
    case defer d => exact absurd h.2.1 (by cases o.dst <;> simp [Act.put])
    case enter f args =>
      refine Calls.mono h fun e w'' he => ?_
      cases e with
      | returned u => exact hK w'' u he.2.2 (hp u he.1)
      | panicked c => exact absurd he.1 (by simp)
      | outgrown => obtain ⟨_, _, he, _⟩ := he; cases he
    case row row args => exact Rows.mono h fun u w'' he => hK w'' u he.2.2 (hp u he.1)
  | halt x w' => cases x <;> simp only [Oper.upon] at h ⊢; case panic u => exact absurd h.1 (by simp)

/-- Nothing is laid anew behind its first reading or its first writing. -/
def fixedB : List Oper → Bool
  | [] => true
  | o :: l => o.guard.isNone && (match o.op with | .select .. => false | _ => true) &&
    ((o :: l).all fun p => match p.dst with | some d => !(reads o).contains d | none => true) &&
    (l.all fun p => match p.dst with | some d => o.dst != some d | none => true) && fixedB l

def writesB (l : List Oper) (t : Tmp) : Bool := l.any fun p => p.dst == some t

theorem writesB_false {l : List Oper} {t : Tmp} (h : ∀ p ∈ l, p.dst ≠ some t) : writesB l t = false := by
  unfold writesB
  rw [List.any_eq_false]
  intro p hp
  simpa using h p hp

theorem put_size (a : Act) (d : Option Tmp) (u : Value) : (a.put d u).tmps.size = a.tmps.size := by cases d <;> simp [Act.put]
theorem put_other (a : Act) {d : Option Tmp} {t : Tmp} (u : Value) (h : d ≠ some t) : (a.put d u).tmps[t]? = a.tmps[t]? := by
  cases d with
  | none => rfl
  | some d => simp [Act.put, Array.getElem?_setIfInBounds_ne (fun e : d = t => h (e ▸ rfl))]
theorem put_defers' (a : Act) (d : Option Tmp) (u : Value) : (a.put d u).defers = a.defers := by cases d <;> rfl

theorem steady_spec {L : Act → Prop} {N : Nat} (hS : ∃ w, S w) : ∀ (l : List Oper) (a : Act), fixedB l = true → a.tmps.size = N → (∀ p ∈ l, ∀ d, p.dst = some d → d < N) → Steady P S L l a →
    ∃ fin, fin.size = N ∧ L ⟨fin, a.defers⟩ ∧ (∀ p ∈ l, Good P S fin p) ∧ ∀ t, (∀ p ∈ l, p.dst ≠ some t) → fin[t]? = a.tmps[t]?
  | [], a, _, hN, _, h => ⟨a.tmps, hN, h, by simp, fun _ _ => rfl⟩
  | o :: l, a, hB, hN, hd, h => by
    obtain ⟨a', hone, hrest⟩ := h
    simp only [fixedB, Bool.and_eq_true, Option.isNone_iff_eq_none, List.all_eq_true] at hB
    obtain ⟨⟨⟨⟨hg, hsel⟩, hr⟩, hw⟩, hB⟩ := hB
    obtain ⟨w, hw0⟩ := hS
    obtain ⟨u, hu⟩ := put_of_one hg (hone w hw0)
    obtain ⟨fin, h1, h2, h3, h4⟩ := steady_spec ⟨w, hw0⟩ l a' hB (by rw [hu, put_size, hN]) (fun p hp => hd p (List.mem_cons_of_mem _ hp)) hrest
    have hdef : a'.defers = a.defers := by rw [hu, put_defers']
    have hkeep : ∀ t, (∀ p ∈ o :: l, p.dst ≠ some t) → fin[t]? = a.tmps[t]? := fun t ht => by
      rw [h4 t fun p hp => ht p (List.mem_cons_of_mem _ hp), hu, put_other a u (ht o (List.mem_cons_self ..))]
    refine ⟨fin, h1, by rw [← hdef]; exact h2, fun p hp => ?_, hkeep⟩
    rcases List.mem_cons.1 hp with rfl | hp
    · refine good_of_one hg (fun cs b hc => by simp [hc] at hsel) hone (fun t ht => (hkeep t fun q hq hqt => ?_).symm) fun d hdd => ⟨by rw [hN]; exact hd p (List.mem_cons_self ..) d hdd, h4 d fun q hq hqd => ?_⟩
      · have := hr q hq
        simp only [hqt] at this
        simp [ht] at this
      · have := hw q hq
        simp only [hqd] at this
        simp [hdd] at this
    · exact h3 p hp

def headB (ops : Array Oper) (n : Nat) : Bool :=
  (List.range n).all fun i => match ops[i]? with
    | none => false
    | some o => (o.after.all fun e => !Region.binds .any e || decide (e.on < i)) &&
      (reads o).all fun t => (o.after.any fun e => Region.binds .any e && ((ops[e.on]?).bind (·.dst) == some t)) || !writesB (ops.toList.take n) t

structure Inv (ops : Array Oper) (n : Nat) (fin : Array Value) (ds : List Deferred) (listed : Array Bool) (a : Act) : Prop where
  hd : HeadInv .any ops n listed
  put : ∀ j o d, j < n → ops[j]? = some o → o.dst = some d → listed.getD j false = true → a.tmps[d]? = fin[d]?
  old : ∀ d, (∀ p ∈ ops.toList.take n, p.dst ≠ some d) → a.tmps[d]? = fin[d]?
  size : a.tmps.size = fin.size
  defers : a.defers = ds

def cnt (listed : Array Bool) : Nat → Nat
  | 0 => 0
  | n + 1 => cnt listed n + (if listed.getD n true then 0 else 1)

theorem cnt_zero {listed : Array Bool} : ∀ {n : Nat}, cnt listed n = 0 → ∀ i, i < n → listed.getD i true = true
  | 0, _, i, h => by omega
  | n + 1, h, i, hi => by
    unfold cnt at h
    rcases Nat.lt_succ_iff_lt_or_eq.1 hi with h' | rfl
    · exact cnt_zero (by omega) i h'
    · cases hl : listed.getD i true
      · simp [hl] at h
      · rfl

theorem cnt_pos {listed : Array Bool} : ∀ {n : Nat}, cnt listed n ≠ 0 → ∃ i, i < n ∧ listed.getD i true = false
  | 0, h => absurd rfl h
  | n + 1, h => by
    unfold cnt at h
    cases hl : listed.getD n true
    · exact ⟨n, by omega, hl⟩
    · obtain ⟨i, hi, h'⟩ := cnt_pos (n := n) (by simpa [hl] using h)
      exact ⟨i, by omega, h'⟩

theorem cnt_set_ge {listed : Array Bool} {i : Nat} : ∀ {n : Nat}, n ≤ i → cnt (listed.setIfInBounds i true) n = cnt listed n
  | 0, _ => rfl
  | n + 1, h => by rw [cnt, cnt, cnt_set_ge (n := n) (by omega), getD_set_ne true (show i ≠ n by omega)]

theorem cnt_set {listed : Array Bool} {i : Nat} (hu : listed.getD i true = false) : ∀ {n : Nat}, i < n → cnt (listed.setIfInBounds i true) n + 1 = cnt listed n
  | 0, h => by omega
  | n + 1, h => by
    simp only [cnt]
    rcases Nat.lt_succ_iff_lt_or_eq.1 h with h' | rfl
    · have := cnt_set hu (n := n) h'
      rw [getD_set_ne true (show i ≠ n by omega)]
      omega
    · rw [cnt_set_ge (Nat.le_refl _), hu]
      have hlt : i < listed.size := by
        rcases Nat.lt_or_ge i listed.size with h' | h'
        · exact h'
        · simp [Array.getElem?_eq_none h'] at hu
      simp [hlt]

def tailArr (m n : Nat) : Array Bool := ((List.range m).map fun j => decide (j < n)).toArray

theorem ready_some {n : Nat} {listed : Array Bool} (hH : headB ops n = true) (hn : n ≤ ops.size) (hz : listed.size = ops.size) : ∀ (i : Nat), i < n → listed.getD i true = false → Region.ready .any ops listed ≠ [] := by
  intro i
  induction i using Nat.strongRecOn with
  | _ i ih =>
    intro hi hu h0
    have hio : ops[i]? = some ops[i] := by simp [show i < ops.size by omega]
    have h1 := List.all_eq_true.1 hH i (List.mem_range.2 hi)
    simp only [hio, Bool.and_eq_true] at h1
    have : i ∈ Region.ready .any ops listed := by
      rw [mem_ready]
      refine ⟨hu, ops[i], hio, fun e he hb => ?_⟩
      have h2 := Array.all_eq_true_iff_forall_mem.1 h1.1 e he
      simp only [hb, Bool.not_true, Bool.false_or, decide_eq_true_eq] at h2
      cases hl : listed.getD e.on false
      · exact absurd h0 (ih e.on h2 (by omega) (getD_in (by omega) hl))
      · rfl
    rw [h0] at this
    cases this

theorem Inv.set {n i : Nat} {ds : List Deferred} {listed : Array Bool} {u : Value} (inv : Inv ops n fin ds listed a) (hi : i ∈ Region.ready .any ops listed) (hin : i < n)
    (ho : ops[i]? = some o) (hN : ∀ d, o.dst = some d → d < fin.size) (hu : ∀ d, o.dst = some d → fin[d]? = some u) : Inv ops n fin ds (listed.setIfInBounds i true) (a.put o.dst u) := by
  have hput : ∀ d, a.tmps[d]? = fin[d]? → (a.put o.dst u).tmps[d]? = fin[d]? := fun d hd => by
    by_cases h : o.dst = some d
    · rw [h, hu d h]
      have := hN d h
      rw [← inv.size] at this
      exact Array.getElem?_setIfInBounds_self_of_lt this
    · rw [put_other a u h, hd]
  refine ⟨inv.hd.set hi hin, fun j p d hj hp hpd hl => ?_, fun d hd => hput d (inv.old d hd), by rw [put_size, inv.size], by rw [put_defers', inv.defers]⟩
  by_cases hij : i = j
  · subst hij
    have : o = p := Option.some.inj (ho.symm.trans hp)
    subst this
    have h1 := hN d hpd
    rw [hpd, hu d hpd]
    rw [← inv.size] at h1
    simp [Act.put, h1]
  · rw [getD_set_ne false hij] at hl
    exact hput d (inv.put j p d hj hp hpd hl)

theorem wpAny_steady {n : Nat} {ds : List Deferred} {Q : Exit → Act → World → Prop} (hn : n ≤ ops.size)
    (hH : headB ops n = true) (hT : n = ops.size ∨ (Region.sinkB .any ops n = true ∧ Region.chainB .any ops n = true)) (hq : Region.seqB .any ops (ops.size - n) n (tailArr ops.size n) = true)
    (hG : ∀ p ∈ ops.toList.take n, Good P S fin p ∧ p.guard = none ∧ ∀ d, p.dst = some d → d < fin.size) (hL : ∀ w, S w → wpList P ops Q (ops.toList.drop n) ⟨fin, ds⟩ w) :
    ∀ (f : Nat) (listed : Array Bool) (a : Act) (w : World), Inv ops n fin ds listed a → cnt listed n = f → S w → wpAny P .any ops Q (f + (ops.size - n)) listed a w
  | 0, listed, a, w, inv, hc, hS => by
    have hall := cnt_zero hc
    have hz := inv.hd.size
    have hl : listed = tailArr ops.size n := by
      refine Array.ext (by simp [tailArr, hz]) fun j h1 h2 => ?_
      have hj : j < ops.size := by omega
      have : listed.getD j true = decide (j < n) := by
        rcases Nat.lt_or_ge j n with h | h
        · simp [hall j h, h]
        · simp [inv.hd.tail j h hj, h]
      simpa [tailArr, h1] using this
    have ha : a = ⟨fin, ds⟩ := by
      have h1 : a.tmps = fin := by
        refine Array.ext_getElem? fun d => ?_
        by_cases h : ∀ p ∈ ops.toList.take n, p.dst ≠ some d
        · exact inv.old d h
        · obtain ⟨p, hp⟩ := Classical.not_forall.1 h
          obtain ⟨hp, hd⟩ := Classical.not_imp.1 hp
          obtain ⟨j, hj, hjp⟩ := List.getElem_of_mem hp
          have hjn : j < n := by simp at hj; omega
          have hjo : ops[j]? = some p := by rw [← hjp]; simp [show j < ops.size by omega]
          refine inv.put j p d hjn hjo (Classical.not_not.1 hd) ?_
          have := hall j hjn
          have hjz : j < listed.size := by omega
          simpa [hjz] using this
      have h2 := inv.defers
      cases a; simp_all
    subst hl ha
    have := wpAny_of_seq (md := .any) (Q' := Q) (ops.toList.drop n) n (tailArr ops.size n) _ w (fun j => by simp [List.getElem?_drop]) (by simpa using hq) (hL w hS)
    simpa using this
  | f + 1, listed, a, w, inv, hc, hS => by
    rw [show f + 1 + (ops.size - n) = (f + (ops.size - n)) + 1 by omega]
    obtain ⟨i0, hi0, hu0⟩ := cnt_pos (listed := listed) (n := n) (by omega)
    have hz := inv.hd.size
    refine ⟨fun h => absurd h (ready_some hH hn hz i0 hi0 hu0), fun i hi => ?_⟩
    have hin : i < n := by
      rcases hT with h | ⟨h1, h2⟩
      · obtain ⟨_, o, ho, _⟩ := mem_ready.1 hi
        have := (Array.getElem?_eq_some_iff.1 ho).1
        omega
      · rcases Nat.lt_or_ge i n with h | h
        · exact h
        · have : i < ops.size := by
            obtain ⟨_, o, ho, _⟩ := mem_ready.1 hi
            exact (Array.getElem?_eq_some_iff.1 ho).1
          exact absurd hi (tail_waits h1 h2 (by omega) inv.hd _ i0 rfl hi0 hu0 i h)
    obtain ⟨hun, o, ho, haf⟩ := mem_ready.1 hi
    have hmem : o ∈ ops.toList.take n := by
      have h1 := (Array.getElem?_eq_some_iff.1 ho)
      obtain ⟨h1, h2⟩ := h1
      rw [List.mem_iff_getElem]
      exact ⟨i, by simp; omega, by simp [h2]⟩
    obtain ⟨hgood, hg, hN⟩ := hG o hmem
    unfold wpOp
    simp only [ho, wanted_none hg, if_true]
    refine .inl (hgood a w _ Q hS (fun t ht => ?_) fun w' u hS' hu => wpAny_steady hn hH hT hq hG hL f _ _ w' (inv.set hi hin ho hN hu) ?_ hS')
    · have h1 := List.all_eq_true.1 hH i (List.mem_range.2 hin)
      simp only [ho, Bool.and_eq_true, List.all_eq_true] at h1
      have h2 := h1.2 t ht
      simp only [Bool.or_eq_true] at h2
      rcases h2 with h2 | h2
      · obtain ⟨e, he, hb⟩ := Array.any_eq_true'.1 h2
        simp only [Bool.and_eq_true, beq_iff_eq, Option.bind_eq_some_iff] at hb
        obtain ⟨hb, p, hp, hpd⟩ := hb
        have h3 := Array.all_eq_true_iff_forall_mem.1 h1.1 e he
        simp only [hb, Bool.not_true, Bool.false_or, decide_eq_true_eq] at h3
        exact inv.put e.on p t (by omega) hp hpd (haf e he hb)
      · refine inv.old t fun p hp hpd => ?_
        simp only [writesB, Bool.not_eq_true', List.any_eq_false] at h2
        exact h2 p hp (by simp [hpd])
    · have := cnt_set hun hin
      omega

def steadyB (ops : Array Oper) (n N : Nat) : Bool :=
  decide (n ≤ ops.size) && headB ops n && (decide (n = ops.size) || (Region.sinkB .any ops n && Region.chainB .any ops n)) &&
  Region.seqB .any ops (ops.size - n) n (tailArr ops.size n) && fixedB (ops.toList.take n) && (ops.toList.take n).all fun p => p.guard.isNone && match p.dst with | some d => decide (d < N) | none => true

theorem cnt_none (m : Nat) : ∀ n, n ≤ m → cnt (Array.replicate m false) n = n
  | 0, _ => rfl
  | n + 1, h => by
    rw [cnt, cnt_none m n (by omega)]
    simp [show n < m by omega]

/-- **A region whose order is drawn**: the first n operations each answer alike in every world that keeps the condition, the others come behind them in their own order. -/
theorem wp_region_steady {id : Nat} {Q : Exit → Act → World → Prop} {l : List Oper} (S : World → Prop) (n N : Nat) (hm : P.follows .mixedOrders = true) (hB : steadyB l.toArray n N = true) (hN : a.tmps.size = N)
    (hS : S w.drew) (h : Steady P S (fun b => ∀ w, S w → wpList P l.toArray Q (l.drop n) b w) (l.take n) a) : (Code.region id l.toArray true).wp P Q a w := by
  simp only [steadyB, Bool.and_eq_true, Bool.or_eq_true, decide_eq_true_eq, List.all_eq_true] at hB
  obtain ⟨⟨⟨⟨⟨h1, h2⟩, h3⟩, h4⟩, h5⟩, h6⟩ := hB
  have hd : ∀ p ∈ l.take n, ∀ d, p.dst = some d → d < N := fun p hp d hpd => by
    have := (h6 p hp).2
    simpa [hpd] using this
  obtain ⟨fin, g1, g2, g3, g4⟩ := steady_spec ⟨_, hS⟩ (l.take n) a h5 hN hd h
  refine wp_region_any hm ?_
  have inv : Inv l.toArray n fin a.defers (Array.replicate l.toArray.size false) a := by
    refine ⟨⟨by simp, fun j oj _ hl => (by rw [getD_replicate_false] at hl; cases hl), fun t _ ht => getD_in (by simpa using ht) (getD_replicate_false _ _)⟩, fun j o d _ _ _ hl => (by rw [getD_replicate_false] at hl; cases hl), fun d hd => (g4 d hd).symm, by rw [hN, g1], rfl⟩
  have := wpAny_steady (Q := Q) h1 h2 h3 h4 (fun p hp => ⟨g3 p hp, by simpa using (h6 p hp).1, by rw [g1]; exact hd p hp⟩) g2 n _ a _ inv (cnt_none _ n h1) hS
  rwa [show n + (l.toArray.size - n) = l.toArray.size by omega] at this

theorem Steady.cons {L : Act → Prop} {l : List Oper} (h1 : ∀ w, S w → wpList P #[] (one S a a') [o] a w) (h2 : Steady P S L l a') : Steady P S L (o :: l) a := ⟨a', h1, h2⟩

end
end Go.Proofs.YtlmmdldjfpdcfaaGreatDoor
namespace Go.Proofs.YtlmmdldjfpdcfaaGreatDoor
open Go.RowKit

abbrev fs1 (b : Nat) : Array Value := #[.func (.func 82) #[.pointer (some ⟨b, 0, none⟩)] #[], .int .u64 1, .int .u64 1, .int .u64 0, .int .u64 1, .int .u64 1]

set_option maxRecDepth 100000 in
theorem flp1 (w : World) :
    Calls Tryz.prog 54 #[] w fun e w' => e = .returned (.pointer (some ⟨w.heap.size, 0, none⟩)) ∧ w' = w.alloc (.cells (fs1 w.heap.size) 191) := by
  have hpa : ∀ x, (partAt ⟨w.heap.size, 1, none⟩ 0 0).run Tryz.prog (w.alloc (.cells x 191)) = .ok ⟨w.heap.size, 1, none⟩ (w.alloc (.cells x 191)) := fun x => partAt_here (heap_alloc_new _ _) cells191 byte191
  go_enter Tryz.func54, Tryz.ntmps54
  go_wp2
  go_ret
  exact ⟨rfl, rfl⟩

abbrev fs4 (b n q : Nat) : Array Value := #[.func (.func 93) #[.pointer (some ⟨b, 0, none⟩)] #[], .int .u64 q, .int .u64 ((n + q - 1) / q : Nat), .int .u64 n, .int .u64 ((n + q - 1) / q : Nat), .int .u64 2, .int .u64 n, .int .u64 n, .int .u64 q]

theorem ceil_cast (n q : Nat) (hq : 0 < q) : ((n : Int) + q - 1) / q = (((n + q - 1) / q : Nat) : Int) := by
  rw [Int.natCast_ediv]
  congr 1
  omega

set_option maxRecDepth 100000 in
set_option maxHeartbeats 1000000 in
theorem flp4 (w : World) (n q : Nat) (hn : n < 65536) (hq : 0 < q) (hq2 : q < 65536) :
    Calls Tryz.prog 70 #[.int .u64 n, .int .u64 q] w fun e w' => e = .returned (.pointer (some ⟨w.heap.size, 0, none⟩)) ∧ w' = w.alloc (.cells (fs4 w.heap.size n q) 223) := by
  go_enter Tryz.func70, Tryz.ntmps70
  go_wp2
  go_ret
  refine ⟨rfl, ?_⟩
  rw [ceil_cast n q hq]
end Go.Proofs.YtlmmdldjfpdcfaaGreatDoor
namespace Go.Proofs.YtlmmdldjfpdcfaaGreatDoor
open Go.RowKit

theorem info5 : (Tryz.prog.info? 5).map (fun i => (i.zero, i.size, i.bytes)) = some (some (.int .u8 0), 1, 1) := by kernel_rfl

/-- The bytes that a row owns, whatever they are. -/
def Own (w : World) (B g n cap : Nat) : Prop := ∃ xs, w.ownsRow B 5 1 (.slice (some ⟨g, 0, none⟩) n cap) n xs

theorem grownBy_trans {a b c : World} {row : Option Nat} (h : a.grownBy b row) (k : b.grownBy c row) : a.grownBy c row :=
  ⟨k.os.trans h.os, k.tape.trans h.tape, k.output.trans h.output, Nat.le_trans h.size k.size, fun i hi hne => (k.block i (Nat.lt_of_lt_of_le hi h.size) hne).trans (h.block i hi hne)⟩

/-- What is new is appended to what is owned, where there is room. -/
theorem append_new {ops : Array Oper} {rest : List Oper} {o : Oper} {a : Act} {Q : Exit → Act → World → Prop} (w : World) (cs : Array Value) (B g n cap m : Nat)
    (hg : o.guard = none) (s x : Operand) (hop : o.op = Op.call { callee := Callee.builtin Builtin.append, args := #[s, x], argTypes := #[23, 23] })
    (hs : a.eval s = .slice (some ⟨g, 0, none⟩) n cap) (hx : a.eval x = .slice (some ⟨w.heap.size, 0, none⟩) m m) (hm : cs.size = m) (h1 : cs.all (·.oneCell') = true) (hown : Own w B g n cap) (hroom : n + m ≤ cap)
    (hK : ∀ w', Own w' B g (n + m) cap → w.grownBy w' (some g) → wpList Tryz.prog ops Q rest (a.put o.dst (.slice (some ⟨g, 0, none⟩) (n + m) cap)) w') :
    wpList Tryz.prog ops Q (o :: rest) a (w.alloc (.cells cs 5)) := by
  obtain ⟨i, hi, hz, hsz, hb⟩ := info_parts info5
  obtain ⟨xs, hown⟩ := hown
  refine wpList_append_fits _ hg s x 23 hop B 5 i 1 Tryz.underlying23 hi hsz g n cap xs hs (hown.alloc _) ⟨w.heap.size, 0, none⟩ m m cs.toList hx (by simp [hm]) (fun j u hu => ?_) (fun u hu => ?_) hroom fun w' h2 h3 => hK w' ⟨_, h2⟩ (grownBy_trans (World.grownBy_alloc w _ _) h3)
  · have hadd : (⟨w.heap.size, 0, none⟩ : Addr).add j = ⟨w.heap.size, j, none⟩ := by unfold Addr.add; split <;> simp_all
    rw [hadd, cell_of_row _ w.heap.size j cs 5 (0, 0) (heap_alloc_new _ _)]
    simpa using hu
  · exact Array.all_eq_true_iff_forall_mem.1 h1 u (by simpa using hu)

/-- The same, the new block's number being told as the walk tells it. -/
theorem append_new' {ops : Array Oper} {rest : List Oper} {o : Oper} {a : Act} {Q : Exit → Act → World → Prop} (w : World) (M : Nat) (hM : w.heap.size = M) (cs : Array Value) (B g n cap m : Nat)
    (hg : o.guard = none) (s x : Operand) (hop : o.op = Op.call { callee := Callee.builtin Builtin.append, args := #[s, x], argTypes := #[23, 23] })
    (hs : a.eval s = .slice (some ⟨g, 0, none⟩) n cap) (hx : a.eval x = .slice (some ⟨M, 0, none⟩) m m) (hm : cs.size = m) (h1 : cs.all (·.oneCell') = true) (hown : Own w B g n cap) (hroom : n + m ≤ cap)
    (hK : ∀ w', Own w' B g (n + m) cap → w.grownBy w' (some g) → wpList Tryz.prog ops Q rest (a.put o.dst (.slice (some ⟨g, 0, none⟩) (n + m) cap)) w') :
    wpList Tryz.prog ops Q (o :: rest) a (w.alloc (.cells cs 5)) := by
  subst hM
  exact append_new w cs B g n cap m hg s x hop hs hx hm h1 hown hroom hK

set_option maxRecDepth 100000 in
theorem app16le (B g n cap : Nat) (v : Int) (w : World) (hown : Own w B g n cap) (hroom : n + 2 ≤ cap) :
    Calls Tryz.prog 102 #[.slice (some ⟨g, 0, none⟩) n cap, .int .u16 v] w fun e w' => e = .returned (.slice (some ⟨g, 0, none⟩) (n + 2) cap) ∧ Own w' B g (n + 2) cap ∧ w.grownBy w' (some g) := by
  have HO := Lib.hid hown
  clear hown
  go_enter Tryz.func102, Tryz.ntmps102
  go_wp2_with (at_builtin; go_loud (refine append_new _ _ B g n cap 2 rfl _ _ rfl rfl rfl rfl (by simp [Value.oneCell']) HO.out hroom ?_; intro w1 h1 h2))
  go_ret
  exact ⟨rfl, h1, h2⟩
set_option maxRecDepth 100000 in
theorem app16be (B g n cap : Nat) (v : Int) (w : World) (hown : Own w B g n cap) (hroom : n + 2 ≤ cap) :
    Calls Tryz.prog 104 #[.slice (some ⟨g, 0, none⟩) n cap, .int .u16 v] w fun e w' => e = .returned (.slice (some ⟨g, 0, none⟩) (n + 2) cap) ∧ Own w' B g (n + 2) cap ∧ w.grownBy w' (some g) := by
  have HO := Lib.hid hown
  clear hown
  go_enter Tryz.func104, Tryz.ntmps104
  go_wp2_with (at_builtin; go_loud (refine append_new _ _ B g n cap 2 rfl _ _ rfl rfl rfl rfl (by simp [Value.oneCell']) HO.out hroom ?_; intro w1 h1 h2))
  go_ret
  exact ⟨rfl, h1, h2⟩
set_option maxRecDepth 100000 in
theorem app32be (B g n cap : Nat) (v : Int) (w : World) (hown : Own w B g n cap) (hroom : n + 4 ≤ cap) :
    Calls Tryz.prog 103 #[.slice (some ⟨g, 0, none⟩) n cap, .int .u32 v] w fun e w' => e = .returned (.slice (some ⟨g, 0, none⟩) (n + 4) cap) ∧ Own w' B g (n + 4) cap ∧ w.grownBy w' (some g) := by
  have HO := Lib.hid hown
  clear hown
  go_enter Tryz.func103, Tryz.ntmps103
  go_wp2_with (at_builtin; go_loud (refine append_new _ _ B g n cap 4 rfl _ _ rfl rfl rfl rfl (by simp [Value.oneCell']) HO.out hroom ?_; intro w1 h1 h2))
  go_ret
  exact ⟨rfl, h1, h2⟩
end Go.Proofs.YtlmmdldjfpdcfaaGreatDoor
