/- The lengths of a machine of kind 2. The lengths of a machine of kind 3. The lengths of a machine of kind 4. -/
import Derived.Test.YtlmmdldjfpdcfaaGreatDoorE24
namespace Go.Proofs.YtlmmdldjfpdcfaaGreatDoor
open Go.RowKit

theorem meth2_params (b : Nat) (w : World) : (method 43 75 (.pointer (some ⟨b, 0, none⟩)) "Params").run Tryz.prog w = .ok (35, .pointer (some ⟨b, 0, none⟩)) w := by kernel_rfl

set_option maxRecDepth 100000 in
set_option maxHeartbeats 4000000 in
theorem sizes2 (s len b q x n : Nat) (ctx : Value) (hn : n ≤ 4096) (hs : 2 ≤ s) (hs2 : s ≤ 255) (hx : x < 9223372036854775808) (W : World) (hctx : CtxAt W ctx n) (hT : TabOk W) (h22 : 22 < W.heap.size) :
    Calls Tryz.prog 7 #[kindV 2 s len b q x ctx] W fun e w' => ∃ bb, e = .returned (.tuple #[.slice (some ⟨bb, 0, none⟩) 10 10, .bool true]) ∧ Ints w' bb [((2 * (Lib.bitLen x)) : Nat), (0 : Nat), (1 : Nat), ((2 * (Lib.bitLen x) + 1) : Nat), (1 : Nat), (1 + (2 * (Lib.bitLen x) + 1) : Nat), ((1 + (1 + 2 * (pw (1 + (2 * (Lib.bitLen x))) - 1))) : Nat), (3 : Nat), ((32 * s) : Nat), (s : Nat)] ∧ Below W.heap.size W w' := by
  have hL : (Lib.bitLen x) < 64 := bits63 x hx
  have hcl : (2 * (Lib.bitLen x)) < 1099 := by omega
  obtain ⟨hp1, hp2⟩ := pw_bounds (1 + (2 * (Lib.bitLen x))) (by omega)
  have HC := Lib.hid hctx
  have HT := Lib.hid hT
  clear hctx hT
  have hlow : Below W.heap.size W ((W.alloc (.cells #[.int .i64 2, .int .i64 s, .int .i64 len, .int .i64 b, .int .i64 q, .int .u64 x, ctx] 25)).alloc (.cells zero41 41)) := ((Below.refl _ _).alloc (Nat.le_refl _) _).alloc (by simp) _
  have hnew : ∀ i, i = W.heap.size + 1 → ((W.alloc (.cells #[.int .i64 2, .int .i64 s, .int .i64 len, .int .i64 b, .int .i64 q, .int .u64 x, ctx] 25)).alloc (.cells zero41 41)).heap[i]? = some (.cells zero41 41 (0, 0)) := fun i hi => by
    have := heap_alloc_new (W.alloc (.cells #[.int .i64 2, .int .i64 s, .int .i64 len, .int .i64 b, .int .i64 q, .int .u64 x, ctx] 25)) (.cells zero41 41)
    rw [hi]; simpa using this
  have mp := fun b w => meth2_params b w
  go_enter Tryz.func7, Tryz.ntmps7
  go_wp2_with (go_at_call 0)
  refine (small2_ok s len b q x n ctx hn hs hs2 hx _ (HC.out.low hlow)).mono ?_
  rintro e w3 ⟨b1, rfl, ⟨vs, b2, fs, hv, hm, hf, ⟨y, z, hfs⟩⟩, hb3⟩
  have hnew3 : w3.heap[W.heap.size + 1]? = some (.cells zero41 41 (0, 0)) := (hb3.block _ (by simp)).trans (hnew _ rfl)
  have hlow3 : Below W.heap.size W w3 := hlow.trans (hb3.mono (by simp; omega))
  go_wp2_with (go_at_call 0)
  refine (gen10 0 (2 * (Lib.bitLen x)) 1 (2 * (Lib.bitLen x) + 1) (1 + (2 * (Lib.bitLen x) + 1)) 1 (1 + (1 + 2 * (pw (1 + (2 * (Lib.bitLen x))) - 1))) 3 (32 * s) s (mach2 b1 b2 vs fs (2 * (Lib.bitLen x)) (2 * (Lib.bitLen x)) 0 (2 * (Lib.bitLen x) + 1) 1 (32 * s) s hcl (by omega) hm.flp hm.rand hm.shares (by rw [hfs]; rfl) (by rw [hfs]; rfl) (by rw [hfs]; rfl) (by rw [hfs]; rfl) (by rw [hfs]; rfl) _ hv hf (HT.out.below hlow3 h22) (Nat.lt_of_lt_of_le h22 hlow3.size)) ?_).mono ?_
  · omega
  rintro e w4 ⟨a0, a1, a2, a3, a4, a5, a6, a7, a8, a9, rfl, ⟨⟨l0, l1, l2, l3, l4⟩, l5, l6, l7, l8, l9⟩, HA, hb4⟩
  have hnew := (hb4.block _ (lt_of_block hnew3)).trans hnew3
  have hlow := hlow3.trans (hb4.mono hlow3.size)
  clear hb3 hb4 hnew3 hlow3 hv hf hm hfs hp1 hp2 hcl mp
  have hMW : W.heap.size ≤ W.heap.size + 1 := by omega
  generalize hM : W.heap.size + 1 = M at *
  have n0 : w4.cell? ⟨M, 0, none⟩ = some (.int .u64 0) := cell_of_row w4 M 0 _ 41 (0, 0) hnew
  have n1 : w4.cell? ⟨M, 1, none⟩ = some (.int .u64 0) := cell_of_row w4 M 1 _ 41 (0, 0) hnew
  have n2 : w4.cell? ⟨M, 2, none⟩ = some (.int .u64 0) := cell_of_row w4 M 2 _ 41 (0, 0) hnew
  have n3 : w4.cell? ⟨M, 3, none⟩ = some (.int .u64 0) := cell_of_row w4 M 3 _ 41 (0, 0) hnew
  have n4 : w4.cell? ⟨M, 4, none⟩ = some (.int .u64 0) := cell_of_row w4 M 4 _ 41 (0, 0) hnew
  have n5 : w4.cell? ⟨M, 5, none⟩ = some (.int .u64 0) := cell_of_row w4 M 5 _ 41 (0, 0) hnew
  have n6 : w4.cell? ⟨M, 6, none⟩ = some (.int .u64 0) := cell_of_row w4 M 6 _ 41 (0, 0) hnew
  have n7 : w4.cell? ⟨M, 7, none⟩ = some (.int .u64 0) := cell_of_row w4 M 7 _ 41 (0, 0) hnew
  have n8 : w4.cell? ⟨M, 8, none⟩ = some (.int .u64 0) := cell_of_row w4 M 8 _ 41 (0, 0) hnew
  have n9 : w4.cell? ⟨M, 9, none⟩ = some (.int .u8 0) := cell_of_row w4 M 9 _ 41 (0, 0) hnew
  have nf : ∀ i, w4.frozen? ⟨M, i, none⟩ = false := fun i => frozen_of_row w4 M i _ 41 hnew
  have HN := Lib.hid hnew
  clear hnew
  go_wp2
  have hI : ∀ (B : World) (zs : Array Value), B.heap.size = w4.heap.size → (B.alloc (.cells zs 3)).heap[w4.heap.size]? = some (.cells zs 3 (0, 0)) := fun B zs h => by rw [← h]; exact heap_alloc_new _ _
  refine bodyPost_ret (results_tmp2 rfl _ _ _) rfl ⟨w4.heap.size, rfl, fun j hj => ?_, ?_⟩
  · rw [cell_of_row _ w4.heap.size j _ 3 (0, 0) (hI _ _ (by simp))]
    obtain ⟨⟨e0, e1, e2, e3, e4⟩, e5, e6, e7, e8, e9⟩ := HA.out
    clear HA
    rw [e0, e1, e2, e3, e4, e5, e6, e7, e8, e9]
    match j, hj with
    | 0, _ => rfl
    | 1, _ => rfl
    | 2, _ => rfl
    | 3, _ => rfl
    | 4, _ => rfl
    | 5, _ => rfl
    | 6, _ => rfl
    | 7, _ => rfl
    | 8, _ => rfl
    | 9, _ => rfl
    | j + 10, hj => simp at hj; omega
  · refine Below.alloc ?_ (by simpa using hlow.size) _
    iterate 10 (refine Below.setCell ?_ (show W.heap.size ≤ M from hMW) _)
    exact hlow
end Go.Proofs.YtlmmdldjfpdcfaaGreatDoor
namespace Go.Proofs.YtlmmdldjfpdcfaaGreatDoor
open Go.RowKit

theorem meth3_params (b : Nat) (w : World) : (method 43 78 (.pointer (some ⟨b, 0, none⟩)) "Params").run Tryz.prog w = .ok (39, .pointer (some ⟨b, 0, none⟩)) w := by kernel_rfl

set_option maxRecDepth 100000 in
set_option maxHeartbeats 4000000 in
theorem sizes3 (s len b q x n : Nat) (ctx : Value) (hn : n ≤ 4096) (hs : 2 ≤ s) (hs2 : s ≤ 255) (hl0 : 0 < len) (hl : len ≤ 16) (hb0 : 0 < b) (hb : b ≤ 64) (hq : 0 < q) (hq2 : q ≤ 16) (W : World) (hctx : CtxAt W ctx n) (hT : TabOk W) (h22 : 22 < W.heap.size) :
    Calls Tryz.prog 7 #[kindV 3 s len b q x ctx] W fun e w' => ∃ bb, e = .returned (.tuple #[.slice (some ⟨bb, 0, none⟩) 10 10, .bool true]) ∧ Ints w' bb [((len * b) : Nat), (((len * b + q - 1) / q) : Nat), (len : Nat), (1 : Nat), ((2 * q) : Nat), (1 + 1 : Nat), (((2 * q) + (1 + 2 * (pw (1 + ((len * b + q - 1) / q)) - 1))) : Nat), ((2 + 2 * q) : Nat), ((64 * s) : Nat), (s : Nat)] ∧ Below W.heap.size W w' := by
  have hmul : len * b ≤ 1024 := Nat.le_trans (Nat.mul_le_mul hl hb) (by omega)
  have hdiv : ((len * b + q - 1) / q) ≤ len * b + q - 1 := Nat.div_le_self _ _
  have hcl : ((len * b + q - 1) / q) < 1099 := by omega
  obtain ⟨hp1, hp2⟩ := pw_bounds (1 + ((len * b + q - 1) / q)) (by omega)
  have HC := Lib.hid hctx
  have HT := Lib.hid hT
  clear hctx hT
  have hlow : Below W.heap.size W ((W.alloc (.cells #[.int .i64 3, .int .i64 s, .int .i64 len, .int .i64 b, .int .i64 q, .int .u64 x, ctx] 25)).alloc (.cells zero41 41)) := ((Below.refl _ _).alloc (Nat.le_refl _) _).alloc (by simp) _
  have hnew : ∀ i, i = W.heap.size + 1 → ((W.alloc (.cells #[.int .i64 3, .int .i64 s, .int .i64 len, .int .i64 b, .int .i64 q, .int .u64 x, ctx] 25)).alloc (.cells zero41 41)).heap[i]? = some (.cells zero41 41 (0, 0)) := fun i hi => by
    have := heap_alloc_new (W.alloc (.cells #[.int .i64 3, .int .i64 s, .int .i64 len, .int .i64 b, .int .i64 q, .int .u64 x, ctx] 25)) (.cells zero41 41)
    rw [hi]; simpa using this
  have mp := fun b w => meth3_params b w
  go_enter Tryz.func7, Tryz.ntmps7
  go_wp2_with (go_at_call 0)
  refine (small_none 3 s len b q x ctx (by decide) (by decide) _).mono ?_
  rintro e w2 ⟨rfl, hb2⟩
  have hnew2 : w2.heap[W.heap.size + 1]? = some (.cells zero41 41 (0, 0)) := (hb2.block _ (by simp)).trans (hnew _ rfl)
  have hlow2 : Below W.heap.size W w2 := hlow.trans (hb2.mono (by simp; omega))
  have hbox : w2.heap[W.heap.size]? = some (.cells #[.int .i64 3, .int .i64 s, .int .i64 len, .int .i64 b, .int .i64 q, .int .u64 x, ctx] 25 (0, 0)) := (hb2.block _ (by simp; omega)).trans ((heap_alloc_old _ _ (by simp)).trans (heap_alloc_new _ _))
  have b0 : w2.cell? ⟨W.heap.size, 0, none⟩ = some (.int .i64 3) := by rw [cell_of_row w2 _ 0 _ 25 (0, 0) hbox]; rfl
  have b1 : w2.cell? ⟨W.heap.size, 1, none⟩ = some (.int .i64 s) := by rw [cell_of_row w2 _ 1 _ 25 (0, 0) hbox]; rfl
  have b2 : w2.cell? ⟨W.heap.size, 2, none⟩ = some (.int .i64 len) := by rw [cell_of_row w2 _ 2 _ 25 (0, 0) hbox]; rfl
  have b3 : w2.cell? ⟨W.heap.size, 3, none⟩ = some (.int .i64 b) := by rw [cell_of_row w2 _ 3 _ 25 (0, 0) hbox]; rfl
  have b4 : w2.cell? ⟨W.heap.size, 4, none⟩ = some (.int .i64 q) := by rw [cell_of_row w2 _ 4 _ 25 (0, 0) hbox]; rfl
  have b5 : w2.cell? ⟨W.heap.size, 5, none⟩ = some (.int .u64 x) := by rw [cell_of_row w2 _ 5 _ 25 (0, 0) hbox]; rfl
  have b6 : w2.cell? ⟨W.heap.size, 6, none⟩ = some ctx := by rw [cell_of_row w2 _ 6 _ 25 (0, 0) hbox]; rfl
  clear hnew hlow hbox
  go_wp2_with (go_at_call 0)
  refine (large3_ok s len b q x n ctx hn hs hs2 hl0 (by omega) hb0 hb hq (by omega) _ (HC.out.low hlow2)).mono ?_
  rintro e w3 ⟨k1, rfl, ⟨vs, k2, fs, hv, hm, hf, ⟨y, hfs⟩⟩, hb3⟩
  have hnew3 : w3.heap[W.heap.size + 1]? = some (.cells zero41 41 (0, 0)) := (hb3.block _ (lt_of_block hnew2)).trans hnew2
  have hlow3 : Below W.heap.size W w3 := hlow2.trans (hb3.mono hlow2.size)
  go_wp2_with (go_at_call 0)
  refine (gen10 ((len * b + q - 1) / q) (len * b) len 1 (1 + 1) (2 * q) ((2 * q) + (1 + 2 * (pw (1 + ((len * b + q - 1) / q)) - 1))) (2 + 2 * q) (64 * s) s (mach3 k1 k2 vs fs q ((len * b + q - 1) / q) (len * b) ((len * b + q - 1) / q) 1 len (64 * s) s hcl (by omega) (by omega) hm.flp hm.rand hm.shares (by rw [hfs]; rfl) (by rw [hfs]; rfl) (by rw [hfs]; rfl) (by rw [hfs]; rfl) (by rw [hfs]; rfl) (by rw [hfs]; rfl) _ hv hf (HT.out.below hlow3 h22) (Nat.lt_of_lt_of_le h22 hlow3.size)) ?_).mono ?_
  · omega
  rintro e w4 ⟨a0, a1, a2, a3, a4, a5, a6, a7, a8, a9, rfl, ⟨⟨l0, l1, l2, l3, l4⟩, l5, l6, l7, l8, l9⟩, HA, hb4⟩
  have hnew := (hb4.block _ (lt_of_block hnew3)).trans hnew3
  have hlow := hlow3.trans (hb4.mono hlow3.size)
  clear hb3 hb4 hnew3 hlow3 hv hf hm hfs hp1 hp2 hcl hb2 hnew2 hlow2 b0 b1 b2 b3 b4 b5 b6 mp
  have hMW : W.heap.size ≤ W.heap.size + 1 := by omega
  generalize hM : W.heap.size + 1 = M at *
  have n0 : w4.cell? ⟨M, 0, none⟩ = some (.int .u64 0) := cell_of_row w4 M 0 _ 41 (0, 0) hnew
  have n1 : w4.cell? ⟨M, 1, none⟩ = some (.int .u64 0) := cell_of_row w4 M 1 _ 41 (0, 0) hnew
  have n2 : w4.cell? ⟨M, 2, none⟩ = some (.int .u64 0) := cell_of_row w4 M 2 _ 41 (0, 0) hnew
  have n3 : w4.cell? ⟨M, 3, none⟩ = some (.int .u64 0) := cell_of_row w4 M 3 _ 41 (0, 0) hnew
  have n4 : w4.cell? ⟨M, 4, none⟩ = some (.int .u64 0) := cell_of_row w4 M 4 _ 41 (0, 0) hnew
  have n5 : w4.cell? ⟨M, 5, none⟩ = some (.int .u64 0) := cell_of_row w4 M 5 _ 41 (0, 0) hnew
  have n6 : w4.cell? ⟨M, 6, none⟩ = some (.int .u64 0) := cell_of_row w4 M 6 _ 41 (0, 0) hnew
  have n7 : w4.cell? ⟨M, 7, none⟩ = some (.int .u64 0) := cell_of_row w4 M 7 _ 41 (0, 0) hnew
  have n8 : w4.cell? ⟨M, 8, none⟩ = some (.int .u64 0) := cell_of_row w4 M 8 _ 41 (0, 0) hnew
  have n9 : w4.cell? ⟨M, 9, none⟩ = some (.int .u8 0) := cell_of_row w4 M 9 _ 41 (0, 0) hnew
  have nf : ∀ i, w4.frozen? ⟨M, i, none⟩ = false := fun i => frozen_of_row w4 M i _ 41 hnew
  have HN := Lib.hid hnew
  clear hnew
  go_wp2
  have hI : ∀ (B : World) (zs : Array Value), B.heap.size = w4.heap.size → (B.alloc (.cells zs 3)).heap[w4.heap.size]? = some (.cells zs 3 (0, 0)) := fun B zs h => by rw [← h]; exact heap_alloc_new _ _
  refine bodyPost_ret (results_tmp2 rfl _ _ _) rfl ⟨w4.heap.size, rfl, fun j hj => ?_, ?_⟩
  · rw [cell_of_row _ w4.heap.size j _ 3 (0, 0) (hI _ _ (by simp))]
    obtain ⟨⟨e0, e1, e2, e3, e4⟩, e5, e6, e7, e8, e9⟩ := HA.out
    clear HA
    rw [e0, e1, e2, e3, e4, e5, e6, e7, e8, e9]
    match j, hj with
    | 0, _ => rfl
    | 1, _ => rfl
    | 2, _ => rfl
    | 3, _ => rfl
    | 4, _ => rfl
    | 5, _ => rfl
    | 6, _ => rfl
    | 7, _ => rfl
    | 8, _ => rfl
    | 9, _ => rfl
    | j + 10, hj => simp at hj; omega
  · refine Below.alloc ?_ (by simpa using hlow.size) _
    iterate 10 (refine Below.setCell ?_ (show W.heap.size ≤ M from hMW) _)
    exact hlow
end Go.Proofs.YtlmmdldjfpdcfaaGreatDoor
namespace Go.Proofs.YtlmmdldjfpdcfaaGreatDoor
open Go.RowKit

theorem meth4_params (b : Nat) (w : World) : (method 43 91 (.pointer (some ⟨b, 0, none⟩)) "Params").run Tryz.prog w = .ok (43, .pointer (some ⟨b, 0, none⟩)) w := by kernel_rfl

set_option maxRecDepth 100000 in
set_option maxHeartbeats 4000000 in
theorem sizes4 (s len b q x n : Nat) (ctx : Value) (hn : n ≤ 4096) (hs : 2 ≤ s) (hs2 : s ≤ 255) (hl0 : 0 < len) (hl : len ≤ 16) (hq : 0 < q) (hq2 : q ≤ 16) (W : World) (hctx : CtxAt W ctx n) (hT : TabOk W) (h22 : 22 < W.heap.size) :
    Calls Tryz.prog 7 #[kindV 4 s len b q x ctx] W fun e w' => ∃ bb, e = .returned (.tuple #[.slice (some ⟨bb, 0, none⟩) 10 10, .bool true]) ∧ Ints w' bb [(len : Nat), (((len + q - 1) / q) : Nat), (len : Nat), (2 : Nat), ((2 * q) : Nat), (1 + 2 : Nat), (((2 * q) + (1 + 2 * (pw (1 + ((len + q - 1) / q)) - 1))) : Nat), ((2 + 2 * q) : Nat), ((64 * s) : Nat), (s : Nat)] ∧ Below W.heap.size W w' := by
  have hdiv : ((len + q - 1) / q) ≤ len + q - 1 := Nat.div_le_self _ _
  have hcl : ((len + q - 1) / q) < 1099 := by omega
  obtain ⟨hp1, hp2⟩ := pw_bounds (1 + ((len + q - 1) / q)) (by omega)
  have HC := Lib.hid hctx
  have HT := Lib.hid hT
  clear hctx hT
  have hlow : Below W.heap.size W ((W.alloc (.cells #[.int .i64 4, .int .i64 s, .int .i64 len, .int .i64 b, .int .i64 q, .int .u64 x, ctx] 25)).alloc (.cells zero41 41)) := ((Below.refl _ _).alloc (Nat.le_refl _) _).alloc (by simp) _
  have hnew : ∀ i, i = W.heap.size + 1 → ((W.alloc (.cells #[.int .i64 4, .int .i64 s, .int .i64 len, .int .i64 b, .int .i64 q, .int .u64 x, ctx] 25)).alloc (.cells zero41 41)).heap[i]? = some (.cells zero41 41 (0, 0)) := fun i hi => by
    have := heap_alloc_new (W.alloc (.cells #[.int .i64 4, .int .i64 s, .int .i64 len, .int .i64 b, .int .i64 q, .int .u64 x, ctx] 25)) (.cells zero41 41)
    rw [hi]; simpa using this
  have mp := fun b w => meth4_params b w
  go_enter Tryz.func7, Tryz.ntmps7
  go_wp2_with (go_at_call 0)
  refine (small_none 4 s len b q x ctx (by decide) (by decide) _).mono ?_
  rintro e w2 ⟨rfl, hb2⟩
  have hnew2 : w2.heap[W.heap.size + 1]? = some (.cells zero41 41 (0, 0)) := (hb2.block _ (by simp)).trans (hnew _ rfl)
  have hlow2 : Below W.heap.size W w2 := hlow.trans (hb2.mono (by simp; omega))
  have hbox : w2.heap[W.heap.size]? = some (.cells #[.int .i64 4, .int .i64 s, .int .i64 len, .int .i64 b, .int .i64 q, .int .u64 x, ctx] 25 (0, 0)) := (hb2.block _ (by simp; omega)).trans ((heap_alloc_old _ _ (by simp)).trans (heap_alloc_new _ _))
  have b0 : w2.cell? ⟨W.heap.size, 0, none⟩ = some (.int .i64 4) := by rw [cell_of_row w2 _ 0 _ 25 (0, 0) hbox]; rfl
  have b1 : w2.cell? ⟨W.heap.size, 1, none⟩ = some (.int .i64 s) := by rw [cell_of_row w2 _ 1 _ 25 (0, 0) hbox]; rfl
  have b2 : w2.cell? ⟨W.heap.size, 2, none⟩ = some (.int .i64 len) := by rw [cell_of_row w2 _ 2 _ 25 (0, 0) hbox]; rfl
  have b3 : w2.cell? ⟨W.heap.size, 3, none⟩ = some (.int .i64 b) := by rw [cell_of_row w2 _ 3 _ 25 (0, 0) hbox]; rfl
  have b4 : w2.cell? ⟨W.heap.size, 4, none⟩ = some (.int .i64 q) := by rw [cell_of_row w2 _ 4 _ 25 (0, 0) hbox]; rfl
  have b5 : w2.cell? ⟨W.heap.size, 5, none⟩ = some (.int .u64 x) := by rw [cell_of_row w2 _ 5 _ 25 (0, 0) hbox]; rfl
  have b6 : w2.cell? ⟨W.heap.size, 6, none⟩ = some ctx := by rw [cell_of_row w2 _ 6 _ 25 (0, 0) hbox]; rfl
  clear hnew hlow hbox
  go_wp2_with (go_at_call 0)
  refine (large4_ok s len b q x n ctx hn hs hs2 hl0 (by omega) hq (by omega) _ (HC.out.low hlow2)).mono ?_
  rintro e w3 ⟨k1, rfl, ⟨vs, k2, fs, hv, hm, hf, ⟨y, hfs⟩⟩, hb3⟩
  have hnew3 : w3.heap[W.heap.size + 1]? = some (.cells zero41 41 (0, 0)) := (hb3.block _ (lt_of_block hnew2)).trans hnew2
  have hlow3 : Below W.heap.size W w3 := hlow2.trans (hb3.mono hlow2.size)
  go_wp2_with (go_at_call 0)
  refine (gen10 ((len + q - 1) / q) len len 2 (1 + 2) (2 * q) ((2 * q) + (1 + 2 * (pw (1 + ((len + q - 1) / q)) - 1))) (2 + 2 * q) (64 * s) s (mach4 k1 k2 vs fs q ((len + q - 1) / q) len ((len + q - 1) / q) 2 len (64 * s) s hcl (by omega) (by omega) hm.flp hm.rand hm.shares (by rw [hfs]; rfl) (by rw [hfs]; rfl) (by rw [hfs]; rfl) (by rw [hfs]; rfl) (by rw [hfs]; rfl) (by rw [hfs]; rfl) _ hv hf (HT.out.below hlow3 h22) (Nat.lt_of_lt_of_le h22 hlow3.size)) ?_).mono ?_
  · omega
  rintro e w4 ⟨a0, a1, a2, a3, a4, a5, a6, a7, a8, a9, rfl, ⟨⟨l0, l1, l2, l3, l4⟩, l5, l6, l7, l8, l9⟩, HA, hb4⟩
  have hnew := (hb4.block _ (lt_of_block hnew3)).trans hnew3
  have hlow := hlow3.trans (hb4.mono hlow3.size)
  clear hb3 hb4 hnew3 hlow3 hv hf hm hfs hp1 hp2 hcl hb2 hnew2 hlow2 b0 b1 b2 b3 b4 b5 b6 mp
  have hMW : W.heap.size ≤ W.heap.size + 1 := by omega
  generalize hM : W.heap.size + 1 = M at *
  have n0 : w4.cell? ⟨M, 0, none⟩ = some (.int .u64 0) := cell_of_row w4 M 0 _ 41 (0, 0) hnew
  have n1 : w4.cell? ⟨M, 1, none⟩ = some (.int .u64 0) := cell_of_row w4 M 1 _ 41 (0, 0) hnew
  have n2 : w4.cell? ⟨M, 2, none⟩ = some (.int .u64 0) := cell_of_row w4 M 2 _ 41 (0, 0) hnew
  have n3 : w4.cell? ⟨M, 3, none⟩ = some (.int .u64 0) := cell_of_row w4 M 3 _ 41 (0, 0) hnew
  have n4 : w4.cell? ⟨M, 4, none⟩ = some (.int .u64 0) := cell_of_row w4 M 4 _ 41 (0, 0) hnew
  have n5 : w4.cell? ⟨M, 5, none⟩ = some (.int .u64 0) := cell_of_row w4 M 5 _ 41 (0, 0) hnew
  have n6 : w4.cell? ⟨M, 6, none⟩ = some (.int .u64 0) := cell_of_row w4 M 6 _ 41 (0, 0) hnew
  have n7 : w4.cell? ⟨M, 7, none⟩ = some (.int .u64 0) := cell_of_row w4 M 7 _ 41 (0, 0) hnew
  have n8 : w4.cell? ⟨M, 8, none⟩ = some (.int .u64 0) := cell_of_row w4 M 8 _ 41 (0, 0) hnew
  have n9 : w4.cell? ⟨M, 9, none⟩ = some (.int .u8 0) := cell_of_row w4 M 9 _ 41 (0, 0) hnew
  have nf : ∀ i, w4.frozen? ⟨M, i, none⟩ = false := fun i => frozen_of_row w4 M i _ 41 hnew
  have HN := Lib.hid hnew
  clear hnew
  go_wp2
  have hI : ∀ (B : World) (zs : Array Value), B.heap.size = w4.heap.size → (B.alloc (.cells zs 3)).heap[w4.heap.size]? = some (.cells zs 3 (0, 0)) := fun B zs h => by rw [← h]; exact heap_alloc_new _ _
  refine bodyPost_ret (results_tmp2 rfl _ _ _) rfl ⟨w4.heap.size, rfl, fun j hj => ?_, ?_⟩
  · rw [cell_of_row _ w4.heap.size j _ 3 (0, 0) (hI _ _ (by simp))]
    obtain ⟨⟨e0, e1, e2, e3, e4⟩, e5, e6, e7, e8, e9⟩ := HA.out
    clear HA
    rw [e0, e1, e2, e3, e4, e5, e6, e7, e8, e9]
    match j, hj with
    | 0, _ => rfl
    | 1, _ => rfl
    | 2, _ => rfl
    | 3, _ => rfl
    | 4, _ => rfl
    | 5, _ => rfl
    | 6, _ => rfl
    | 7, _ => rfl
    | 8, _ => rfl
    | 9, _ => rfl
    | j + 10, hj => simp at hj; omega
  · refine Below.alloc ?_ (by simpa using hlow.size) _
    iterate 10 (refine Below.setCell ?_ (show W.heap.size ≤ M from hMW) _)
    exact hlow
end Go.Proofs.YtlmmdldjfpdcfaaGreatDoor
