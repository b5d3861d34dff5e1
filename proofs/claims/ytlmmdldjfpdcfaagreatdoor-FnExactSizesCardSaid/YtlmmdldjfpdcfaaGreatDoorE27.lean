/- The lengths of a machine of kind 5. The statement's own function gives true for every kind. -/
import Derived.Test.YtlmmdldjfpdcfaaGreatDoorE24
import Derived.Test.YtlmmdldjfpdcfaaGreatDoorE25
import Derived.Test.YtlmmdldjfpdcfaaGreatDoorE10
import Derived.Test.YtlmmdldjfpdcfaaGreatDoorE11
import Derived.Test.YtlmmdldjfpdcfaaGreatDoorE12
import Derived.Test.YtlmmdldjfpdcfaaGreatDoorE13
import Derived.Test.YtlmmdldjfpdcfaaGreatDoorE26
namespace Go.Proofs.YtlmmdldjfpdcfaaGreatDoor
open Go.RowKit

theorem meth5_params (b : Nat) (w : World) : (method 43 94 (.pointer (some ⟨b, 0, none⟩)) "Params").run Tryz.prog w = .ok (46, .pointer (some ⟨b, 0, none⟩)) w := by kernel_rfl

set_option maxRecDepth 100000 in
set_option maxHeartbeats 4000000 in
theorem sizes5 (s len b q x n : Nat) (ctx : Value) (hn : n ≤ 4096) (hs : 2 ≤ s) (hs2 : s ≤ 255) (hl0 : 0 < len) (hl : len ≤ 16) (hx : x ≤ len) (hq : 0 < q) (hq2 : q ≤ 16) (W : World) (hctx : CtxAt W ctx n) (hT : TabOk W) (h22 : 22 < W.heap.size) :
    Calls Tryz.prog 7 #[kindV 5 s len b q x ctx] W fun e w' => ∃ bb, e = .returned (.tuple #[.slice (some ⟨bb, 0, none⟩) 10 10, .bool true]) ∧ Ints w' bb [((len + (Lib.bitLen x)) : Nat), (((len + (Lib.bitLen x) + q - 1) / q) : Nat), (len : Nat), (2 : Nat), ((2 * q) : Nat), (1 + 2 : Nat), (((2 * q) + (1 + 2 * (pw (1 + ((len + (Lib.bitLen x) + q - 1) / q)) - 1))) : Nat), ((2 + 2 * q) : Nat), ((64 * s) : Nat), (s : Nat)] ∧ Below W.heap.size W w' := by
  have hL : (Lib.bitLen x) < 64 := bits63 x (by omega)
  have hdiv : ((len + (Lib.bitLen x) + q - 1) / q) ≤ len + (Lib.bitLen x) + q - 1 := Nat.div_le_self _ _
  have hcl : ((len + (Lib.bitLen x) + q - 1) / q) < 1099 := by omega
  obtain ⟨hp1, hp2⟩ := pw_bounds (1 + ((len + (Lib.bitLen x) + q - 1) / q)) (by omega)
  have HC := Lib.hid hctx
  have HT := Lib.hid hT
  clear hctx hT
  have hlow : Below W.heap.size W ((W.alloc (.cells #[.int .i64 5, .int .i64 s, .int .i64 len, .int .i64 b, .int .i64 q, .int .u64 x, ctx] 25)).alloc (.cells zero41 41)) := ((Below.refl _ _).alloc (Nat.le_refl _) _).alloc (by simp) _
  have hnew : ∀ i, i = W.heap.size + 1 → ((W.alloc (.cells #[.int .i64 5, .int .i64 s, .int .i64 len, .int .i64 b, .int .i64 q, .int .u64 x, ctx] 25)).alloc (.cells zero41 41)).heap[i]? = some (.cells zero41 41 (0, 0)) := fun i hi => by
    have := heap_alloc_new (W.alloc (.cells #[.int .i64 5, .int .i64 s, .int .i64 len, .int .i64 b, .int .i64 q, .int .u64 x, ctx] 25)) (.cells zero41 41)
    rw [hi]; simpa using this
  have mp := fun b w => meth5_params b w
  go_enter Tryz.func7, Tryz.ntmps7
  go_wp2_with (go_at_call 0)
  refine (small_none 5 s len b q x ctx (by decide) (by decide) _).mono ?_
  rintro e w2 ⟨rfl, hb2⟩
  have hnew2 : w2.heap[W.heap.size + 1]? = some (.cells zero41 41 (0, 0)) := (hb2.block _ (by simp)).trans (hnew _ rfl)
  have hlow2 : Below W.heap.size W w2 := hlow.trans (hb2.mono (by simp; omega))
  have hbox : w2.heap[W.heap.size]? = some (.cells #[.int .i64 5, .int .i64 s, .int .i64 len, .int .i64 b, .int .i64 q, .int .u64 x, ctx] 25 (0, 0)) := (hb2.block _ (by simp; omega)).trans ((heap_alloc_old _ _ (by simp)).trans (heap_alloc_new _ _))
  have b0 : w2.cell? ⟨W.heap.size, 0, none⟩ = some (.int .i64 5) := by rw [cell_of_row w2 _ 0 _ 25 (0, 0) hbox]; rfl
  have b1 : w2.cell? ⟨W.heap.size, 1, none⟩ = some (.int .i64 s) := by rw [cell_of_row w2 _ 1 _ 25 (0, 0) hbox]; rfl
  have b2 : w2.cell? ⟨W.heap.size, 2, none⟩ = some (.int .i64 len) := by rw [cell_of_row w2 _ 2 _ 25 (0, 0) hbox]; rfl
  have b3 : w2.cell? ⟨W.heap.size, 3, none⟩ = some (.int .i64 b) := by rw [cell_of_row w2 _ 3 _ 25 (0, 0) hbox]; rfl
  have b4 : w2.cell? ⟨W.heap.size, 4, none⟩ = some (.int .i64 q) := by rw [cell_of_row w2 _ 4 _ 25 (0, 0) hbox]; rfl
  have b5 : w2.cell? ⟨W.heap.size, 5, none⟩ = some (.int .u64 x) := by rw [cell_of_row w2 _ 5 _ 25 (0, 0) hbox]; rfl
  have b6 : w2.cell? ⟨W.heap.size, 6, none⟩ = some ctx := by rw [cell_of_row w2 _ 6 _ 25 (0, 0) hbox]; rfl
  clear hnew hlow hbox
  go_wp2_with (go_at_call 0)
  refine (large5_ok s len b q x n ctx hn hs hs2 hl0 hl hx hq (by omega) _ (HC.out.low hlow2)).mono ?_
  rintro e w3 ⟨k1, rfl, ⟨vs, k2, fs, hv, hm, hf, ⟨y, z0, z1, hfs⟩⟩, hb3⟩
  have hnew3 : w3.heap[W.heap.size + 1]? = some (.cells zero41 41 (0, 0)) := (hb3.block _ (lt_of_block hnew2)).trans hnew2
  have hlow3 : Below W.heap.size W w3 := hlow2.trans (hb3.mono hlow2.size)
  go_wp2_with (go_at_call 0)
  refine (gen10 ((len + (Lib.bitLen x) + q - 1) / q) (len + (Lib.bitLen x)) len 2 (1 + 2) (2 * q) ((2 * q) + (1 + 2 * (pw (1 + ((len + (Lib.bitLen x) + q - 1) / q)) - 1))) (2 + 2 * q) (64 * s) s (mach5 k1 k2 vs fs q ((len + (Lib.bitLen x) + q - 1) / q) (len + (Lib.bitLen x)) ((len + (Lib.bitLen x) + q - 1) / q) 2 len (64 * s) s hcl (by omega) (by omega) hm.flp hm.rand hm.shares (by rw [hfs]; rfl) (by rw [hfs]; rfl) (by rw [hfs]; rfl) (by rw [hfs]; rfl) (by rw [hfs]; rfl) (by rw [hfs]; rfl) _ hv hf (HT.out.below hlow3 h22) (Nat.lt_of_lt_of_le h22 hlow3.size)) ?_).mono ?_
  · omega
  rintro e w4 ⟨a0, a1, a2, a3, a4, a5, a6, a7, a8, a9, rfl, ⟨⟨l0, l1, l2, l3, l4⟩, l5, l6, l7, l8, l9⟩, HA, hb4⟩
  have hnew := (hb4.block _ (lt_of_block hnew3)).trans hnew3
  have hlow := hlow3.trans (hb4.mono hlow3.size)
  clear hb3 hb4 hnew3 hlow3 hv hf hm hfs hp1 hp2 hcl hb2 hnew2 hlow2 b0 b1 b2 b3 b4 b5 b6 mp
  have hMW : W.heap.size ≤ W.heap.size + 1 := by omega
  generalize hM : W.heap.size + 1 = M at *
  have n0 : w4.cell? ⟨M, 0, none⟩ = some (.int .u64 0) := cell_of_row w4 M 0 _ 41 (0, 0) hnew
  have n1 : w4.cell? ⟨M, 1, none⟩ = some (.int .u64 0) := cell_of_row w4 M 1 _ 41 (0, 0) hnew
  have n2 : w4.cell? ⟨M, 2, none⟩ = some (.int .u64 0) := cell_of_row w4 M 2 _ 41 (0, 0) hnew
  have n3 : w4.cell? ⟨M, 3, none⟩ = some (.int .u64 0) := cell_of_row w4 M 3 _ 41 (0, 0) hnew
  have n4 : w4.cell? ⟨M, 4, none⟩ = some (.int .u64 0) := cell_of_row w4 M 4 _ 41 (0, 0) hnew
  have n5 : w4.cell? ⟨M, 5, none⟩ = some (.int .u64 0) := cell_of_row w4 M 5 _ 41 (0, 0) hnew
  have n6 : w4.cell? ⟨M, 6, none⟩ = some (.int .u64 0) := cell_of_row w4 M 6 _ 41 (0, 0) hnew
  have n7 : w4.cell? ⟨M, 7, none⟩ = some (.int .u64 0) := cell_of_row w4 M 7 _ 41 (0, 0) hnew
  have n8 : w4.cell? ⟨M, 8, none⟩ = some (.int .u64 0) := cell_of_row w4 M 8 _ 41 (0, 0) hnew
  have n9 : w4.cell? ⟨M, 9, none⟩ = some (.int .u8 0) := cell_of_row w4 M 9 _ 41 (0, 0) hnew
  have nf : ∀ i, w4.frozen? ⟨M, i, none⟩ = false := fun i => frozen_of_row w4 M i _ 41 hnew
  have HN := Lib.hid hnew
  clear hnew
  go_wp2
  have hI : ∀ (B : World) (zs : Array Value), B.heap.size = w4.heap.size → (B.alloc (.cells zs 3)).heap[w4.heap.size]? = some (.cells zs 3 (0, 0)) := fun B zs h => by rw [← h]; exact heap_alloc_new _ _
  refine bodyPost_ret (results_tmp2 rfl _ _ _) rfl ⟨w4.heap.size, rfl, fun j hj => ?_, ?_⟩
  · rw [cell_of_row _ w4.heap.size j _ 3 (0, 0) (hI _ _ (by simp))]
    obtain ⟨⟨e0, e1, e2, e3, e4⟩, e5, e6, e7, e8, e9⟩ := HA.out
    clear HA
    rw [e0, e1, e2, e3, e4, e5, e6, e7, e8, e9]
    match j, hj with
    | 0, _ => rfl
    | 1, _ => rfl
    | 2, _ => rfl
    | 3, _ => rfl
    | 4, _ => rfl
    | 5, _ => rfl
    | 6, _ => rfl
    | 7, _ => rfl
    | 8, _ => rfl
    | 9, _ => rfl
    | j + 10, hj => simp at hj; omega
  · refine Below.alloc ?_ (by simpa using hlow.size) _
    iterate 10 (refine Below.setCell ?_ (show W.heap.size ≤ M from hMW) _)
    exact hlow
end Go.Proofs.YtlmmdldjfpdcfaaGreatDoor
namespace Go.Proofs.YtlmmdldjfpdcfaaGreatDoor
open Go.RowKit

/-- The errors of the machines are there. -/
def Errs (W : World) : Prop := ∀ g ∈ [0, 1, 2, 4, 5, 6, 7, 8, 9, 10], ∃ t v, W.cell? ⟨g, 0, none⟩ = some (.iface t v)

theorem Errs.low {W w : World} (h : Errs W) (hb : Below W.heap.size W w) : Errs w := fun g hg => by
  obtain ⟨t, v, hv⟩ := h g hg
  exact ⟨t, v, by rw [hb.cell (World.block_lt_of_cell? W _ hv)]; exact hv⟩

/-- What a kind asks of the world. -/
structure Rows3 (W : World) (ctx : Value) (n : Nat) : Prop where
  ctx : CtxAt W ctx n
  tab : TabOk W
  size : 22 < W.heap.size
  errs : Errs W

theorem Rows3.low {W w : World} {ctx : Value} {n : Nat} (h : Rows3 W ctx n) (hb : Below W.heap.size W w) : Rows3 w ctx n :=
  ⟨h.ctx.low hb, h.tab.below hb h.size, Nat.lt_of_lt_of_le h.size hb.size, h.errs.low hb⟩

section
variable (s len b q x n c : Nat) (ao : Option Addr) (W : World)

theorem valid1 (hR : Rows3 W (.slice ao n c) n) (hn : n ≤ 4096) (hs : 2 ≤ s) (hs2 : s ≤ 255) (h5 : Gives 1 s len b q x (.slice ao n c) W 5 (.bool true)) (h6 : Gives 1 s len b q x (.slice ao n c) W 6 (.bool true)) (h8 : Gives 1 s len b q x (.slice ao n c) W 8 (.bool true)) :
    Calls Tryz.prog 3 #[kindV 1 s len b q x (.slice ao n c)] W fun e w' => e = .returned (.bool true) ∧ Below W.heap.size W w' :=
  law_kind _ _ _ _ _ _ _ W _ (by rfl) h5 h6 (fun w hb => sizes1 s len b q x n _ hn hs hs2 w (hR.low hb).ctx (hR.low hb).tab (hR.low hb).size) h8
    fun w hb => (spec_sizes 1 s len b q x n c ao 18446744069414584321 0 1753635133440165772 0 8 32 1 0 1 1 2 1 0 w (by omega) (by omega) (by omega) (by omega) (by omega)
      fun w' => (circuit1 s len b q x n c ao w').mono fun _ _ ⟨he, hb⟩ => ⟨0, he, hb⟩).mono fun _ _ ⟨bb, he, hI, _, hb⟩ => ⟨bb, he, hI, hb⟩

theorem valid2 (hR : Rows3 W (.slice ao n c) n) (hn : n ≤ 4096) (hs : 2 ≤ s) (hs2 : s ≤ 255) (hx : x < 9223372036854775808) (h5 : Gives 2 s len b q x (.slice ao n c) W 5 (.bool true)) (h6 : Gives 2 s len b q x (.slice ao n c) W 6 (.bool true)) (h8 : Gives 2 s len b q x (.slice ao n c) W 8 (.bool true)) :
    Calls Tryz.prog 3 #[kindV 2 s len b q x (.slice ao n c)] W fun e w' => e = .returned (.bool true) ∧ Below W.heap.size W w' :=
  have hL := bits63 x hx
  law_kind _ _ _ _ _ _ _ W _ (by rfl) h5 h6 (fun w hb => sizes2 s len b q x n _ hn hs hs2 hx w (hR.low hb).ctx (hR.low hb).tab (hR.low hb).size) h8
    fun w hb => (spec_sizes 2 s len b q x n c ao 18446744069414584321 0 1753635133440165772 0 8 32 (2 * Lib.bitLen x) 0 1 (2 * Lib.bitLen x + 1) 1 (2 * Lib.bitLen x) (Lib.bitLen x) w (by omega) (by omega) (by omega) (by omega) (by omega)
      fun w' => circuit2 s len b q x n c ao hx w').mono fun _ _ ⟨bb, he, hI, _, hb⟩ => ⟨bb, he, hI, hb⟩

theorem valid3 (hR : Rows3 W (.slice ao n c) n) (hn : n ≤ 4096) (hs : 2 ≤ s) (hs2 : s ≤ 255) (hl0 : 0 < len) (hl : len ≤ 16) (hb0 : 0 < b) (hbb : b ≤ 64) (hq : 0 < q) (hq2 : q ≤ 16) (h5 : Gives 3 s len b q x (.slice ao n c) W 5 (.bool true)) (h6 : Gives 3 s len b q x (.slice ao n c) W 6 (.bool true)) (h8 : Gives 3 s len b q x (.slice ao n c) W 8 (.bool true)) :
    Calls Tryz.prog 3 #[kindV 3 s len b q x (.slice ao n c)] W fun e w' => e = .returned (.bool true) ∧ Below W.heap.size W w' := by
  have hm : len * b ≤ 1024 := Nat.le_trans (Nat.mul_le_mul hl hbb) (by omega)
  have hm0 : 0 < len * b := Nat.mul_pos hl0 hb0
  have hd : (len * b + q - 1) / q ≤ len * b + q - 1 := Nat.div_le_self _ _
  have hp : (len * b + q - 1) / q ≠ 0 := Nat.ne_of_gt (Nat.div_pos (by omega) hq)
  refine law_kind _ _ _ _ _ _ _ W _ (by rfl) h5 h6 (fun w hb => sizes3 s len b q x n _ hn hs hs2 hl0 hl hb0 hbb hq hq2 w (hR.low hb).ctx (hR.low hb).tab (hR.low hb).size) h8
    fun w hb => (spec_sizes 3 s len b q x n c ao 1 18446744073709551588 2277457303077691142 7865413326059086475 16 66 (len * b) ((len * b + q - 1) / q) len 1 (2 * q) ((len * b + q - 1) / q) 0 w (by omega) (by omega) (by omega) (by omega) (by omega)
      fun w' => (circuit3 s len b q x n c ao hl (by omega) hq hq2 _ _ rfl rfl w').mono fun _ _ ⟨he, hb⟩ => ⟨0, he, hb⟩).mono fun _ _ ⟨bb, he, hI, _, hb⟩ => ⟨bb, he, ?_, hb⟩
  rw [if_neg hp] at hI
  exact hI

theorem valid4 (hR : Rows3 W (.slice ao n c) n) (hn : n ≤ 4096) (hs : 2 ≤ s) (hs2 : s ≤ 255) (hl0 : 0 < len) (hl : len ≤ 16) (hq : 0 < q) (hq2 : q ≤ 16) (h5 : Gives 4 s len b q x (.slice ao n c) W 5 (.bool true)) (h6 : Gives 4 s len b q x (.slice ao n c) W 6 (.bool true)) (h8 : Gives 4 s len b q x (.slice ao n c) W 8 (.bool true)) :
    Calls Tryz.prog 3 #[kindV 4 s len b q x (.slice ao n c)] W fun e w' => e = .returned (.bool true) ∧ Below W.heap.size W w' := by
  have hd : (len + q - 1) / q ≤ len + q - 1 := Nat.div_le_self _ _
  have hp : (len + q - 1) / q ≠ 0 := Nat.ne_of_gt (Nat.div_pos (by omega) hq)
  refine law_kind _ _ _ _ _ _ _ W _ (by rfl) h5 h6 (fun w hb => sizes4 s len b q x n _ hn hs hs2 hl0 hl hq hq2 w (hR.low hb).ctx (hR.low hb).tab (hR.low hb).size) h8
    fun w hb => (spec_sizes 4 s len b q x n c ao 1 18446744073709551588 2277457303077691142 7865413326059086475 16 66 len ((len + q - 1) / q) len 2 (2 * q) ((len + q - 1) / q) 0 w (by omega) (by omega) (by omega) (by omega) (by omega)
      fun w' => (circuit4 s len b q x n c ao hl hq hq2 _ rfl w').mono fun _ _ ⟨he, hb⟩ => ⟨0, he, hb⟩).mono fun _ _ ⟨bb, he, hI, _, hb⟩ => ⟨bb, he, ?_, hb⟩
  rw [if_neg hp] at hI
  exact hI

theorem valid5 (hR : Rows3 W (.slice ao n c) n) (hn : n ≤ 4096) (hs : 2 ≤ s) (hs2 : s ≤ 255) (hl0 : 0 < len) (hl : len ≤ 16) (hx : x ≤ len) (hq : 0 < q) (hq2 : q ≤ 16) (h5 : Gives 5 s len b q x (.slice ao n c) W 5 (.bool true)) (h6 : Gives 5 s len b q x (.slice ao n c) W 6 (.bool true)) (h8 : Gives 5 s len b q x (.slice ao n c) W 8 (.bool true)) :
    Calls Tryz.prog 3 #[kindV 5 s len b q x (.slice ao n c)] W fun e w' => e = .returned (.bool true) ∧ Below W.heap.size W w' := by
  have hL := bits63 x (by omega)
  have hd : (len + Lib.bitLen x + q - 1) / q ≤ len + Lib.bitLen x + q - 1 := Nat.div_le_self _ _
  have hp : (len + Lib.bitLen x + q - 1) / q ≠ 0 := Nat.ne_of_gt (Nat.div_pos (by omega) hq)
  refine law_kind _ _ _ _ _ _ _ W _ (by rfl) h5 h6 (fun w hb => sizes5 s len b q x n _ hn hs hs2 hl0 hl hx hq hq2 w (hR.low hb).ctx (hR.low hb).tab (hR.low hb).size) h8
    fun w hb => (spec_sizes 5 s len b q x n c ao 1 18446744073709551588 2277457303077691142 7865413326059086475 16 66 (len + Lib.bitLen x) ((len + Lib.bitLen x + q - 1) / q) len 2 (2 * q) ((len + Lib.bitLen x + q - 1) / q) (Lib.bitLen x) w (by omega) (by omega) (by omega) (by omega) (by omega)
      fun w' => circuit5 s len b q x n c ao (by omega) hl hq hq2 _ rfl w').mono fun _ _ ⟨bb, he, hI, _, hb⟩ => ⟨bb, he, ?_, hb⟩
  rw [if_neg hp] at hI
  exact hI

/-- Where there is no such kind, neither of the two makers has a machine. -/
theorem none_small (kd : Int) (ctx : Value) (hE : Errs W) (hs : s ≤ 255) (h : ¬ Valid kd s len b q x) :
    Calls Tryz.prog 15 #[kindV kd s len b q x ctx] W fun e w' => e = .returned .nilIface ∧ Below W.heap.size W w' := by
  obtain ⟨t2, v2, g2⟩ := hE 2 (by simp)
  obtain ⟨t4, v4, g4⟩ := hE 4 (by simp)
  unfold Valid at h
  by_cases h1 : kd = 1
  · subst h1
    exact small1_few s len b q x ctx (by omega) W t2 v2 g2
  · by_cases h2 : kd = 2
    · subst h2
      by_cases hx : x < 9223372036854775808
      · exact small2_few s len b q x ctx (by omega) hx W t2 v2 g2
      · exact small2_flp s len b q x ctx hs (by omega) W t4 v4 g4
    · exact small_none kd s len b q x ctx h1 h2 W

theorem none_large (kd : Int) (ctx : Value) (hE : Errs W) (hs : s ≤ 255) (hl : len ≤ 16) (hb : b ≤ 80) (hq : q ≤ 16) (h : ¬ Valid kd s len b q x) :
    Calls Tryz.prog 16 #[kindV kd s len b q x ctx] W fun e w' => e = .returned .nilIface ∧ Below W.heap.size W w' := by
  obtain ⟨t0, v0, g0⟩ := hE 0 (by simp)
  obtain ⟨t1, v1, g1⟩ := hE 1 (by simp)
  obtain ⟨t2, v2, g2⟩ := hE 2 (by simp)
  obtain ⟨t5, v5, g5⟩ := hE 5 (by simp)
  obtain ⟨t6, v6, g6⟩ := hE 6 (by simp)
  obtain ⟨t7, v7, g7⟩ := hE 7 (by simp)
  obtain ⟨t8, v8, g8⟩ := hE 8 (by simp)
  obtain ⟨t9, v9, g9⟩ := hE 9 (by simp)
  obtain ⟨t10, v10, g10⟩ := hE 10 (by simp)
  unfold Valid at h
  by_cases h3 : kd = 3
  · subst h3
    by_cases hd : len = 0 ∨ b = 0 ∨ 64 < b ∨ q = 0
    · exact large3_flp s len b q x ctx hs (by omega) (by omega) (by omega) hd W t5 v5 g5 t6 v6 g6 t7 v7 g7
    · exact large3_few s len b q x ctx (by omega) (by omega) (by omega) (by omega) (by omega) (by omega) (by omega) W t2 v2 g2
  · by_cases h4 : kd = 4
    · subst h4
      by_cases hd : len = 0 ∨ q = 0
      · exact large4_nothing s len b q x ctx hs (by omega) (by omega) hd W t0 v0 g0 t1 v1 g1
      · exact large4_few s len b q x ctx (by omega) (by omega) (by omega) (by omega) (by omega) W t2 v2 g2
    · by_cases h5 : kd = 5
      · subst h5
        by_cases hd : len = 0 ∨ len < x ∨ q = 0
        · exact large5_flp s len b q x ctx hs (by omega) (by omega) hd W t8 v8 g8 t9 v9 g9 t10 v10 g10
        · exact large5_few s len b q x ctx (by omega) (by omega) (by omega) (by omega) (by omega) (by omega) W t2 v2 g2
      · exact large_none kd s len b q x ctx h3 h4 h5 W
end

theorem ctx_slice {W : World} {ctx : Value} {n : Nat} (h : CtxAt W ctx n) : ∃ ao c, ctx = .slice ao n c := by
  rcases h with ⟨h1, h2⟩ | ⟨ad, c, _, h1, _⟩
  · exact ⟨none, 0, by rw [h1, h2]⟩
  · exact ⟨some ad, c, h1⟩

theorem law_any (kd s len b q x : Int) (hx0 : 0 ≤ x) (n : Nat) (ctx : Value) (W : World) (hR : Rows3 W ctx n) :
    Calls Tryz.prog 3 #[.agg (ksI kd s len b q x ctx)] W fun e w' => e = .returned (.bool true) ∧ Below W.heap.size W w' := by
  by_cases hn : n ≤ 2147483647
  · have h5 : Gives kd s len b q x ctx W 5 (.bool true) := fun w hb => fits_yes kd s len b q x n ctx hn w (hR.low hb).ctx
    by_cases hsm : 0 ≤ s ∧ s ≤ 255 ∧ 0 ≤ len ∧ len ≤ 16 ∧ 0 ≤ b ∧ b ≤ 80 ∧ 0 ≤ q ∧ q ≤ 16 ∧ n ≤ 4096
    · obtain ⟨s0, s1, l0, l1, b0, b1, q0, q1, n1⟩ := hsm
      obtain ⟨s, rfl⟩ := Int.eq_ofNat_of_zero_le s0
      obtain ⟨len, rfl⟩ := Int.eq_ofNat_of_zero_le l0
      obtain ⟨b, rfl⟩ := Int.eq_ofNat_of_zero_le b0
      obtain ⟨q, rfl⟩ := Int.eq_ofNat_of_zero_le q0
      obtain ⟨x, rfl⟩ := Int.eq_ofNat_of_zero_le hx0
      have s2 : s ≤ 255 := by omega
      have l2 : len ≤ 16 := by omega
      have b2 : b ≤ 80 := by omega
      have q2 : q ≤ 16 := by omega
      have h6 : Gives kd s len b q x ctx W 6 (.bool true) := fun w hb => small_yes kd s len b q x n ctx s2 l2 b2 q2 n1 w (hR.low hb).ctx
      by_cases hv : Valid kd s len b q x
      · have h8 : Gives kd s len b q x ctx W 8 (.bool true) := fun w hb => kind_is true kd s len b q x n ctx s2 l2 b2 q2 n1 (by simp [hv]) w (hR.low hb).ctx
        obtain ⟨ao, c, rfl⟩ := ctx_slice hR.ctx
        obtain ⟨v0, rfl | ⟨rfl, v1⟩ | ⟨rfl, v1, v2, v3, v4⟩ | ⟨rfl, v1, v2⟩ | ⟨rfl, v1, v2, v3⟩⟩ := hv
        · exact valid1 s len b q x n c ao W hR n1 v0 s2 h5 h6 h8
        · exact valid2 s len b q x n c ao W hR n1 v0 s2 v1 h5 h6 h8
        · exact valid3 s len b q x n c ao W hR n1 v0 s2 v1 l2 v2 v3 v4 q2 h5 h6 h8
        · exact valid4 s len b q x n c ao W hR n1 v0 s2 v1 l2 v2 q2 h5 h6 h8
        · exact valid5 s len b q x n c ao W hR n1 v0 s2 v1 l2 v3 v2 q2 h5 h6 h8
      · have h8 : Gives kd s len b q x ctx W 8 (.bool false) := fun w hb => kind_is false kd s len b q x n ctx s2 l2 b2 q2 n1 (by simp [hv]) w (hR.low hb).ctx
        refine law_none _ _ _ _ _ _ _ W h5 h6 (fun w hb => ?_) h8
        have hR2 := hR.low hb
        exact sizes_bad kd s len b q x ctx w (fun w2 hb2 => none_small s len b q x w2 kd ctx (hR2.low hb2).errs s2 hv) (fun w2 hb2 => none_large s len b q x w2 kd ctx (hR2.low hb2).errs s2 l2 b2 q2 hv)
    · exact law_wide _ _ _ _ _ _ _ W h5 fun w hb => small_no kd s len b q x n ctx hsm w (hR.low hb).ctx
  · exact law_big _ _ _ _ _ _ _ W fun w hb => fits_no kd s len b q x n ctx (by omega) w (hR.low hb).ctx
end Go.Proofs.YtlmmdldjfpdcfaaGreatDoor
