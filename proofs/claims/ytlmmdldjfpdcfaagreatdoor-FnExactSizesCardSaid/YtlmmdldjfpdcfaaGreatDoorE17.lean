/- The parameters that a machine of kind 3 tells, by its package's own method. -/
import Derived.Test.YtlmmdldjfpdcfaaGreatDoorE16
namespace Go.Proofs.YtlmmdldjfpdcfaaGreatDoor
open Go.RowKit

set_option maxRecDepth 100000 in
set_option maxHeartbeats 1000000 in
theorem mach3 (b1 b2 : Nat) (vs fs : Array Value) (q calls m j c o r s : Nat) (hcl : calls < 1099) (hcc : c < 65536) (hq : q < 65536)
    (h0 : vs[0]? = some (.pointer (some ⟨b2, 0, none⟩))) (h203 : vs[203]? = some (.int .u64 r)) (h204 : vs[204]? = some (.int .u8 s))
    (f1 : fs[1]? = some (.int .u64 q)) (fn : fs[2]? = some (.int .u64 calls)) (fm : fs[3]? = some (.int .u64 m)) (fj : fs[4]? = some (.int .u64 j)) (fc : fs[5]? = some (.int .u64 c)) (fo : fs[6]? = some (.int .u64 o))
    (w : World) (hv : w.heap[b1]? = some (.cells vs 147 (0, 0))) (hf : w.heap[b2]? = some (.cells fs 215 (0, 0))) (hT : TabOk w) (h22 : 22 < w.heap.size) :
    Calls Tryz.prog 39 #[.pointer (some ⟨b1, 0, none⟩)] w fun e w' =>
      e = .returned (.agg #[.int .u64 j, .int .u64 m, .int .u64 o, .int .u64 c, .int .u64 (1 + c : Nat), .int .u64 (2 * q : Nat), .int .u64 (2 * q + (1 + 2 * (pw (1 + calls) - 1)) : Nat), .int .u64 (2 + 2 * q : Nat), .int .u64 r, .int .u8 s]) ∧ Below w.heap.size w w' := by
  have hbs1 := lt_of_block hv
  have hbs2 := lt_of_block hf
  have hpar := params3 b1 b2 vs fs q calls m j c o r s hcl hcc hq h0 h203 h204 f1 fn fm fj fc fo (w.alloc (.cells zero41 41)) ((Below.heap_alloc _ _ _ hbs1).trans hv) ((Below.heap_alloc _ _ _ hbs2).trans hf) (hT.below ((Below.refl _ _).alloc (Nat.le_refl _) _) h22) (by simp; omega)
  clear hv hf hT h22 hbs1 hbs2 h0 h203 h204 f1 fn fm fj fc fo
  have HP := Lib.hid hpar
  clear hpar
  go_enter Tryz.func39, Tryz.ntmps39
  go_wp2_with (go_at_call 0)
  refine HP.out.mono ?_
  rintro e w' ⟨rfl, hb⟩
  have hn := (hb.block w.heap.size (by simp)).trans (heap_alloc_new w (.cells zero41 41))
  have hB := ((Below.refl w.heap.size w).alloc (Nat.le_refl _) (.cells zero41 41)).trans (hb.mono (by simp))
  have n0 : w'.cell? ⟨w.heap.size, 0, none⟩ = some (.int .u64 0) := cell_of_row w' w.heap.size 0 _ 41 (0, 0) hn
  have n1 : w'.cell? ⟨w.heap.size, 1, none⟩ = some (.int .u64 0) := cell_of_row w' w.heap.size 1 _ 41 (0, 0) hn
  have n2 : w'.cell? ⟨w.heap.size, 2, none⟩ = some (.int .u64 0) := cell_of_row w' w.heap.size 2 _ 41 (0, 0) hn
  have n3 : w'.cell? ⟨w.heap.size, 3, none⟩ = some (.int .u64 0) := cell_of_row w' w.heap.size 3 _ 41 (0, 0) hn
  have n4 : w'.cell? ⟨w.heap.size, 4, none⟩ = some (.int .u64 0) := cell_of_row w' w.heap.size 4 _ 41 (0, 0) hn
  have n5 : w'.cell? ⟨w.heap.size, 5, none⟩ = some (.int .u64 0) := cell_of_row w' w.heap.size 5 _ 41 (0, 0) hn
  have n6 : w'.cell? ⟨w.heap.size, 6, none⟩ = some (.int .u64 0) := cell_of_row w' w.heap.size 6 _ 41 (0, 0) hn
  have n7 : w'.cell? ⟨w.heap.size, 7, none⟩ = some (.int .u64 0) := cell_of_row w' w.heap.size 7 _ 41 (0, 0) hn
  have n8 : w'.cell? ⟨w.heap.size, 8, none⟩ = some (.int .u64 0) := cell_of_row w' w.heap.size 8 _ 41 (0, 0) hn
  have n9 : w'.cell? ⟨w.heap.size, 9, none⟩ = some (.int .u8 0) := cell_of_row w' w.heap.size 9 _ 41 (0, 0) hn
  have nf : ∀ i, w'.frozen? ⟨w.heap.size, i, none⟩ = false := fun i => frozen_of_row w' w.heap.size i _ 41 hn
  have HN := Lib.hid hn
  clear hn hb
  have HB := Lib.hid hB
  clear hB
  generalize hN : w.heap.size = N at *
  go_wp2
  refine bodyPost_ret (results_cell_row rfl _ _ N 41 _ (0, 0) _ rfl (heap_setCell_same _ N 9 _ 41 _ (heap_setCell_same _ N 8 _ 41 _ (heap_setCell_same _ N 7 _ 41 _ (heap_setCell_same _ N 6 _ 41 _ (heap_setCell_same _ N 5 _ 41 _ (heap_setCell_same _ N 4 _ 41 _ (heap_setCell_same _ N 3 _ 41 _ (heap_setCell_same _ N 2 _ 41 _ (heap_setCell_same _ N 1 _ 41 _ (heap_setCell_same _ N 0 _ 41 _ HN.out)))))))))) Tryz.underlying41 rfl (by kernel_rfl)) rfl ⟨by simp, ?_⟩
  rw [hN]
  iterate 10 (refine Below.setCell ?_ (show N ≤ N from Nat.le_refl N) _)
  exact HB.out
end Go.Proofs.YtlmmdldjfpdcfaaGreatDoor
