/- The parameters that a machine of kind 1 tells. The parameters that a machine of kind 1 tells, by its package's own method. -/
import Derived.Test.YtlmmdldjfpdcfaaGreatDoorE03
namespace Go.Proofs.YtlmmdldjfpdcfaaGreatDoor
open Go.RowKit

set_option maxRecDepth 100000 in
set_option maxHeartbeats 4000000 in
theorem params1 (b1 b2 : Nat) (vs fs : Array Value) (calls m j c o r s : Nat) (hcl : calls < 1099) (hcc : c < 65536)
    (h0 : vs[0]? = some (.pointer (some ⟨b2, 0, none⟩))) (h203 : vs[203]? = some (.int .u64 r)) (h204 : vs[204]? = some (.int .u8 s))
    (fn : fs[1]? = some (.int .u64 calls)) (fm : fs[2]? = some (.int .u64 m)) (fj : fs[3]? = some (.int .u64 j)) (fc : fs[4]? = some (.int .u64 c)) (fo : fs[5]? = some (.int .u64 o))
    (w : World) (hv : w.heap[b1]? = some (.cells vs 120 (0, 0))) (hf : w.heap[b2]? = some (.cells fs 191 (0, 0))) (hT : TabOk w) (h22 : 22 < w.heap.size) :
    Calls Tryz.prog 57 #[.pointer (some ⟨b1, 0, none⟩)] w fun e w' =>
      e = .returned (.agg #[.int .u64 j, .int .u64 m, .int .u64 o, .int .u64 c, .int .u64 (1 + c : Nat), .int .u64 2, .int .u64 (2 + (1 + 2 * (pw (1 + calls) - 1)) : Nat), .int .u64 4, .int .u64 r, .int .u8 s]) ∧ Below w.heap.size w w' := by
  have hbs1 := lt_of_block hv
  have hbs2 := lt_of_block hf
  have hH : Held 120 191 b1 b2 w.heap.size vs fs w (w.alloc (.cells zero41 41)) :=
    ⟨(Below.heap_alloc _ _ _ hbs1).trans hv, (Below.heap_alloc _ _ _ hbs2).trans hf, heap_alloc_new _ _, hT.below ((Below.refl _ _).alloc (Nat.le_refl _) _) h22, by simp; omega, (Below.refl _ _).alloc (Nat.le_refl _) _⟩
  clear hv hf hT h22 hbs1 hbs2
  go_enter Tryz.func57, Tryz.ntmps57
  go_wp2
  revert hH
  generalize hN : w.heap.size = N
  generalize w.alloc _ = w2
  intro hH
  have HN := Lib.hid hN
  clear hN
  have k0 : ∀ wx, Held 120 191 b1 b2 N vs fs w wx → wx.cell? ⟨b1, 0, none⟩ = some (.pointer (some ⟨b2, 0, none⟩)) := fun wx h => by rw [cell_of_row wx b1 0 vs 120 (0, 0) h.a]; exact h0
  have k203 : ∀ wx, Held 120 191 b1 b2 N vs fs w wx → wx.cell? ⟨b1, 203, none⟩ = some (.int .u64 r) := fun wx h => by rw [cell_of_row wx b1 203 vs 120 (0, 0) h.a]; exact h203
  have k204 : ∀ wx, Held 120 191 b1 b2 N vs fs w wx → wx.cell? ⟨b1, 204, none⟩ = some (.int .u8 s) := fun wx h => by rw [cell_of_row wx b1 204 vs 120 (0, 0) h.a]; exact h204
  have m1 : ∀ wx, Held 120 191 b1 b2 N vs fs w wx → (method 488 107 (.pointer (some ⟨b2, 0, none⟩)) "JointRandLength").run Tryz.prog wx = .ok (217, .agg (par4 m j c o)) wx := fun wx h => meth1_joint b2 wx _ _ _ _ ((cell_of_row wx b2 2 fs 191 (0, 0) h.b).trans fm) ((cell_of_row wx b2 3 fs 191 (0, 0) h.b).trans fj) ((cell_of_row wx b2 4 fs 191 (0, 0) h.b).trans fc) ((cell_of_row wx b2 5 fs 191 (0, 0) h.b).trans fo)
  have m2 : ∀ wx, Held 120 191 b1 b2 N vs fs w wx → (method 488 107 (.pointer (some ⟨b2, 0, none⟩)) "MeasurementLength").run Tryz.prog wx = .ok (218, .agg (par4 m j c o)) wx := fun wx h => meth1_meas b2 wx _ _ _ _ ((cell_of_row wx b2 2 fs 191 (0, 0) h.b).trans fm) ((cell_of_row wx b2 3 fs 191 (0, 0) h.b).trans fj) ((cell_of_row wx b2 4 fs 191 (0, 0) h.b).trans fc) ((cell_of_row wx b2 5 fs 191 (0, 0) h.b).trans fo)
  have m3 : ∀ wx, Held 120 191 b1 b2 N vs fs w wx → (method 488 107 (.pointer (some ⟨b2, 0, none⟩)) "OutputLength").run Tryz.prog wx = .ok (219, .agg (par4 m j c o)) wx := fun wx h => meth1_out b2 wx _ _ _ _ ((cell_of_row wx b2 2 fs 191 (0, 0) h.b).trans fm) ((cell_of_row wx b2 3 fs 191 (0, 0) h.b).trans fj) ((cell_of_row wx b2 4 fs 191 (0, 0) h.b).trans fc) ((cell_of_row wx b2 5 fs 191 (0, 0) h.b).trans fo)
  have m4 : ∀ wx, Held 120 191 b1 b2 N vs fs w wx → (method 488 107 (.pointer (some ⟨b2, 0, none⟩)) "EvalOutputLength").run Tryz.prog wx = .ok (216, .agg (par4 m j c o)) wx := fun wx h => meth1_eval b2 wx _ _ _ _ ((cell_of_row wx b2 2 fs 191 (0, 0) h.b).trans fm) ((cell_of_row wx b2 3 fs 191 (0, 0) h.b).trans fj) ((cell_of_row wx b2 4 fs 191 (0, 0) h.b).trans fc) ((cell_of_row wx b2 5 fs 191 (0, 0) h.b).trans fo)
  have m5 : ∀ wx, Held 120 191 b1 b2 N vs fs w wx → (method 488 107 (.pointer (some ⟨b2, 0, none⟩)) "QueryRandLength").run Tryz.prog wx = .ok (222, .agg (par4 m j c o)) wx := fun wx h => meth1_query b2 wx _ _ _ _ ((cell_of_row wx b2 2 fs 191 (0, 0) h.b).trans fm) ((cell_of_row wx b2 3 fs 191 (0, 0) h.b).trans fj) ((cell_of_row wx b2 4 fs 191 (0, 0) h.b).trans fc) ((cell_of_row wx b2 5 fs 191 (0, 0) h.b).trans fo)
  have m6 := meth1_prove b2
  have m7 := meth1_proof b2
  have m8 := meth1_verif b2
  have c6 : ∀ wx, Held 120 191 b1 b2 N vs fs w wx → Calls Tryz.prog 221 #[.pointer (some ⟨b2, 1, none⟩)] wx fun e w' => e = .returned (.int .u64 2) ∧ Below wx.heap.size wx w' := fun wx h => proveRand1 b2 wx _ h.b
  have c7 : ∀ wx, Held 120 191 b1 b2 N vs fs w wx → Calls Tryz.prog 220 #[.pointer (some ⟨b2, 1, none⟩)] wx fun e w' => e = .returned (.int .u64 (2 + (1 + 2 * (pw (1 + calls) - 1)) : Nat)) ∧ Below wx.heap.size wx w' := fun wx h => proofLen1 b2 calls hcl wx _ h.b ((cell_of_row wx b2 1 fs 191 (0, 0) h.b).trans fn) h.t h.z
  have c8 : ∀ wx, Held 120 191 b1 b2 N vs fs w wx → Calls Tryz.prog 223 #[.pointer (some ⟨b2, 1, none⟩)] wx fun e w' => e = .returned (.int .u64 4) ∧ Below wx.heap.size wx w' := fun wx h => verifierLen1 b2 wx _ h.b
  have n0 : ∀ wx, Held 120 191 b1 b2 N vs fs w wx → wx.cell? ⟨N, 0, none⟩ = some (.int .u64 0) := fun wx h => cell_of_row wx N 0 _ 41 (0, 0) h.n
  have n1 : ∀ wx, Held 120 191 b1 b2 N vs fs w wx → wx.cell? ⟨N, 1, none⟩ = some (.int .u64 0) := fun wx h => cell_of_row wx N 1 _ 41 (0, 0) h.n
  have n2 : ∀ wx, Held 120 191 b1 b2 N vs fs w wx → wx.cell? ⟨N, 2, none⟩ = some (.int .u64 0) := fun wx h => cell_of_row wx N 2 _ 41 (0, 0) h.n
  have n3 : ∀ wx, Held 120 191 b1 b2 N vs fs w wx → wx.cell? ⟨N, 3, none⟩ = some (.int .u64 0) := fun wx h => cell_of_row wx N 3 _ 41 (0, 0) h.n
  have n4 : ∀ wx, Held 120 191 b1 b2 N vs fs w wx → wx.cell? ⟨N, 4, none⟩ = some (.int .u64 0) := fun wx h => cell_of_row wx N 4 _ 41 (0, 0) h.n
  have n5 : ∀ wx, Held 120 191 b1 b2 N vs fs w wx → wx.cell? ⟨N, 5, none⟩ = some (.int .u64 0) := fun wx h => cell_of_row wx N 5 _ 41 (0, 0) h.n
  have n6 : ∀ wx, Held 120 191 b1 b2 N vs fs w wx → wx.cell? ⟨N, 6, none⟩ = some (.int .u64 0) := fun wx h => cell_of_row wx N 6 _ 41 (0, 0) h.n
  have n7 : ∀ wx, Held 120 191 b1 b2 N vs fs w wx → wx.cell? ⟨N, 7, none⟩ = some (.int .u64 0) := fun wx h => cell_of_row wx N 7 _ 41 (0, 0) h.n
  have n8 : ∀ wx, Held 120 191 b1 b2 N vs fs w wx → wx.cell? ⟨N, 8, none⟩ = some (.int .u64 0) := fun wx h => cell_of_row wx N 8 _ 41 (0, 0) h.n
  have n9 : ∀ wx, Held 120 191 b1 b2 N vs fs w wx → wx.cell? ⟨N, 9, none⟩ = some (.int .u8 0) := fun wx h => cell_of_row wx N 9 _ 41 (0, 0) h.n
  have nf : ∀ wx i, Held 120 191 b1 b2 N vs fs w wx → wx.frozen? ⟨N, i, none⟩ = false := fun wx i h => frozen_of_row wx N i _ 41 h.n
  clear h0 h203 h204 fn fm fj fc fo
  refine wp_region_steady (Held 120 191 b1 b2 N vs fs w) 57 60 rfl (by kernel_rfl) rfl hH.drew ?_
  simp only [List.take_succ_cons, List.take_zero, List.drop_succ_cons, List.drop_zero]
  iterate 5
      apply Steady.cons
      · intro wx hS
        have e0 := k0 wx hS; have e1 := k203 wx hS; have e2 := k204 wx hS
        go_wp2
        exact ⟨rfl, rfl, rfl, hS⟩
  apply Steady.cons
  · intro wx hS
    have hm := m1 wx hS
    go_wp2_with (go_at_call 217; refine (par_joint m j c o _).mono ?_; rintro e w' ⟨rfl, hb⟩)
    exact ⟨rfl, rfl, rfl, hS.below hb⟩
  iterate 5
      apply Steady.cons
      · intro wx hS
        have e0 := k0 wx hS; have e1 := k203 wx hS; have e2 := k204 wx hS
        go_wp2
        exact ⟨rfl, rfl, rfl, hS⟩
  apply Steady.cons
  · intro wx hS
    have hm := m2 wx hS
    go_wp2_with (go_at_call 218; refine (par_meas m j c o _).mono ?_; rintro e w' ⟨rfl, hb⟩)
    exact ⟨rfl, rfl, rfl, hS.below hb⟩
  iterate 5
      apply Steady.cons
      · intro wx hS
        have e0 := k0 wx hS; have e1 := k203 wx hS; have e2 := k204 wx hS
        go_wp2
        exact ⟨rfl, rfl, rfl, hS⟩
  apply Steady.cons
  · intro wx hS
    have hm := m3 wx hS
    go_wp2_with (go_at_call 219; refine (par_out m j c o _).mono ?_; rintro e w' ⟨rfl, hb⟩)
    exact ⟨rfl, rfl, rfl, hS.below hb⟩
  iterate 5
      apply Steady.cons
      · intro wx hS
        have e0 := k0 wx hS; have e1 := k203 wx hS; have e2 := k204 wx hS
        go_wp2
        exact ⟨rfl, rfl, rfl, hS⟩
  apply Steady.cons
  · intro wx hS
    have hm := m4 wx hS
    go_wp2_with (go_at_call 216; refine (par_eval m j c o _).mono ?_; rintro e w' ⟨rfl, hb⟩)
    exact ⟨rfl, rfl, rfl, hS.below hb⟩
  iterate 5
      apply Steady.cons
      · intro wx hS
        have e0 := k0 wx hS; have e1 := k203 wx hS; have e2 := k204 wx hS
        go_wp2
        exact ⟨rfl, rfl, rfl, hS⟩
  apply Steady.cons
  · intro wx hS
    have hm := m5 wx hS
    go_wp2_with (go_at_call 222; refine (par_query m j c o hcc _).mono ?_; rintro e w' ⟨rfl, hb⟩)
    exact ⟨rfl, rfl, rfl, hS.below hb⟩
  iterate 5
      apply Steady.cons
      · intro wx hS
        have e0 := k0 wx hS; have e1 := k203 wx hS; have e2 := k204 wx hS
        go_wp2
        exact ⟨rfl, rfl, rfl, hS⟩
  apply Steady.cons
  · intro wx hS
    skip
    go_wp2_with (go_at_call 221; refine (c6 _ hS).mono ?_; rintro e w' ⟨rfl, hb⟩)
    exact ⟨rfl, rfl, rfl, hS.below hb⟩
  iterate 5
      apply Steady.cons
      · intro wx hS
        have e0 := k0 wx hS; have e1 := k203 wx hS; have e2 := k204 wx hS
        go_wp2
        exact ⟨rfl, rfl, rfl, hS⟩
  apply Steady.cons
  · intro wx hS
    skip
    go_wp2_with (go_at_call 220; refine (c7 _ hS).mono ?_; rintro e w' ⟨rfl, hb⟩)
    exact ⟨rfl, rfl, rfl, hS.below hb⟩
  iterate 5
      apply Steady.cons
      · intro wx hS
        have e0 := k0 wx hS; have e1 := k203 wx hS; have e2 := k204 wx hS
        go_wp2
        exact ⟨rfl, rfl, rfl, hS⟩
  apply Steady.cons
  · intro wx hS
    skip
    go_wp2_with (go_at_call 223; refine (c8 _ hS).mono ?_; rintro e w' ⟨rfl, hb⟩)
    exact ⟨rfl, rfl, rfl, hS.below hb⟩
  iterate 9
      apply Steady.cons
      · intro wx hS
        have e0 := k0 wx hS; have e1 := k203 wx hS; have e2 := k204 wx hS
        go_wp2
        exact ⟨rfl, rfl, rfl, hS⟩
  intro wx hS
  have q0 := n0 wx hS; have q1 := n1 wx hS; have q2 := n2 wx hS; have q3 := n3 wx hS; have q4 := n4 wx hS; have q5 := n5 wx hS; have q6 := n6 wx hS; have q7 := n7 wx hS; have q8 := n8 wx hS; have q9 := n9 wx hS
  have qf := fun i => nf wx i hS
  clear n0 n1 n2 n3 n4 n5 n6 n7 n8 n9 nf k0 k203 k204 m1 m2 m3 m4 m5 m6 m7 m8 c6 c7 c8
  go_wp2
  refine bodyPost_ret (results_cell_row rfl _ _ N 41 _ (0, 0) _ rfl (heap_setCell_same _ N 9 _ 41 _ (heap_setCell_same _ N 8 _ 41 _ (heap_setCell_same _ N 7 _ 41 _ (heap_setCell_same _ N 6 _ 41 _ (heap_setCell_same _ N 5 _ 41 _ (heap_setCell_same _ N 4 _ 41 _ (heap_setCell_same _ N 3 _ 41 _ (heap_setCell_same _ N 2 _ 41 _ (heap_setCell_same _ N 1 _ 41 _ (heap_setCell_same _ N 0 _ 41 _ hS.n)))))))))) Tryz.underlying41 rfl (by kernel_rfl)) rfl ⟨by simp, ?_⟩
  rw [HN.out]
  iterate 10 (refine Below.setCell ?_ (show N ≤ N from Nat.le_refl N) _)
  exact hS.u
end Go.Proofs.YtlmmdldjfpdcfaaGreatDoor
namespace Go.Proofs.YtlmmdldjfpdcfaaGreatDoor
open Go.RowKit

set_option maxRecDepth 100000 in
set_option maxHeartbeats 1000000 in
theorem mach1 (b1 b2 : Nat) (vs fs : Array Value) (calls m j c o r s : Nat) (hcl : calls < 1099) (hcc : c < 65536)
    (h0 : vs[0]? = some (.pointer (some ⟨b2, 0, none⟩))) (h203 : vs[203]? = some (.int .u64 r)) (h204 : vs[204]? = some (.int .u8 s))
    (fn : fs[1]? = some (.int .u64 calls)) (fm : fs[2]? = some (.int .u64 m)) (fj : fs[3]? = some (.int .u64 j)) (fc : fs[4]? = some (.int .u64 c)) (fo : fs[5]? = some (.int .u64 o))
    (w : World) (hv : w.heap[b1]? = some (.cells vs 120 (0, 0))) (hf : w.heap[b2]? = some (.cells fs 191 (0, 0))) (hT : TabOk w) (h22 : 22 < w.heap.size) :
    Calls Tryz.prog 31 #[.pointer (some ⟨b1, 0, none⟩)] w fun e w' =>
      e = .returned (.agg #[.int .u64 j, .int .u64 m, .int .u64 o, .int .u64 c, .int .u64 (1 + c : Nat), .int .u64 2, .int .u64 (2 + (1 + 2 * (pw (1 + calls) - 1)) : Nat), .int .u64 4, .int .u64 r, .int .u8 s]) ∧ Below w.heap.size w w' := by
  have hbs1 := lt_of_block hv
  have hbs2 := lt_of_block hf
  have hpar := params1 b1 b2 vs fs calls m j c o r s hcl hcc h0 h203 h204 fn fm fj fc fo (w.alloc (.cells zero41 41)) ((Below.heap_alloc _ _ _ hbs1).trans hv) ((Below.heap_alloc _ _ _ hbs2).trans hf) (hT.below ((Below.refl _ _).alloc (Nat.le_refl _) _) h22) (by simp; omega)
  clear hv hf hT h22 hbs1 hbs2 h0 h203 h204 fn fm fj fc fo
  have HP := Lib.hid hpar
  clear hpar
  go_enter Tryz.func31, Tryz.ntmps31
  go_wp2_with (go_at_call 0)
  refine HP.out.mono ?_
  rintro e w' ⟨rfl, hb⟩
  have hn := (hb.block w.heap.size (by simp)).trans (heap_alloc_new w (.cells zero41 41))
  have hB := ((Below.refl w.heap.size w).alloc (Nat.le_refl _) (.cells zero41 41)).trans (hb.mono (by simp))
  have n0 : w'.cell? ⟨w.heap.size, 0, none⟩ = some (.int .u64 0) := cell_of_row w' w.heap.size 0 _ 41 (0, 0) hn
  have n1 : w'.cell? ⟨w.heap.size, 1, none⟩ = some (.int .u64 0) := cell_of_row w' w.heap.size 1 _ 41 (0, 0) hn
  have n2 : w'.cell? ⟨w.heap.size, 2, none⟩ = some (.int .u64 0) := cell_of_row w' w.heap.size 2 _ 41 (0, 0) hn
  have n3 : w'.cell? ⟨w.heap.size, 3, none⟩ = some (.int .u64 0) := cell_of_row w' w.heap.size 3 _ 41 (0, 0) hn
  have n4 : w'.cell? ⟨w.heap.size, 4, none⟩ = some (.int .u64 0) := cell_of_row w' w.heap.size 4 _ 41 (0, 0) hn
  have n5 : w'.cell? ⟨w.heap.size, 5, none⟩ = some (.int .u64 0) := cell_of_row w' w.heap.size 5 _ 41 (0, 0) hn
  have n6 : w'.cell? ⟨w.heap.size, 6, none⟩ = some (.int .u64 0) := cell_of_row w' w.heap.size 6 _ 41 (0, 0) hn
  have n7 : w'.cell? ⟨w.heap.size, 7, none⟩ = some (.int .u64 0) := cell_of_row w' w.heap.size 7 _ 41 (0, 0) hn
  have n8 : w'.cell? ⟨w.heap.size, 8, none⟩ = some (.int .u64 0) := cell_of_row w' w.heap.size 8 _ 41 (0, 0) hn
  have n9 : w'.cell? ⟨w.heap.size, 9, none⟩ = some (.int .u8 0) := cell_of_row w' w.heap.size 9 _ 41 (0, 0) hn
  have nf : ∀ i, w'.frozen? ⟨w.heap.size, i, none⟩ = false := fun i => frozen_of_row w' w.heap.size i _ 41 hn
  have HN := Lib.hid hn
  clear hn hb
  have HB := Lib.hid hB
  clear hB
  generalize hN : w.heap.size = N at *
  go_wp2
  refine bodyPost_ret (results_cell_row rfl _ _ N 41 _ (0, 0) _ rfl (heap_setCell_same _ N 9 _ 41 _ (heap_setCell_same _ N 8 _ 41 _ (heap_setCell_same _ N 7 _ 41 _ (heap_setCell_same _ N 6 _ 41 _ (heap_setCell_same _ N 5 _ 41 _ (heap_setCell_same _ N 4 _ 41 _ (heap_setCell_same _ N 3 _ 41 _ (heap_setCell_same _ N 2 _ 41 _ (heap_setCell_same _ N 1 _ 41 _ (heap_setCell_same _ N 0 _ 41 _ HN.out)))))))))) Tryz.underlying41 rfl (by kernel_rfl)) rfl ⟨by simp, ?_⟩
  rw [hN]
  iterate 10 (refine Below.setCell ?_ (show N ≤ N from Nat.le_refl N) _)
  exact HB.out
end Go.Proofs.YtlmmdldjfpdcfaaGreatDoor
