/- The lengths of a kind, as the specification reckons them out of its circuit. The statement's own function, by what the functions that it calls hand back. There are no lengths where there is no machine. The lengths of a machine of kind 1. -/
import Derived.Test.YtlmmdldjfpdcfaaGreatDoorE11
import Derived.Test.YtlmmdldjfpdcfaaGreatDoorE24
namespace Go.Proofs.YtlmmdldjfpdcfaaGreatDoor
open Go.RowKit

/-- A kind in its box and a circuit in its variable. -/
structure Cs (W : World) (ks : Array Value) (M : Nat) (cs : Array Value) (w : World) : Prop where
  box : w.heap[W.heap.size]? = some (.cells ks 25 (0, 0))
  blk : w.heap[M]? = some (.cells cs 56 (0, 0))
  up : W.heap.size < M
  low : Below W.heap.size W w

theorem Cs.below {W : World} {ks cs : Array Value} {M : Nat} {w w' : World} (h : Cs W ks M cs w) (hb : Below w.heap.size w w') : Cs W ks M cs w' :=
  ⟨(hb.block _ (lt_of_block h.box)).trans h.box, (hb.block _ (lt_of_block h.blk)).trans h.blk, h.up, h.low.trans (hb.mono (Nat.le_of_lt (lt_of_block h.box)))⟩
theorem Cs.row {W : World} {ks cs : Array Value} {M : Nat} {w : World} (h : Cs W ks M cs w) (cs' : Array Value) : Cs W ks M cs' (w.setRow M cs') :=
  have hu := h.up
  ⟨(setRow_other w M W.heap.size cs' (by omega)).trans h.box, setRow_heap w M _ cs' 56 _ h.blk, h.up, below_setRow' h.low (Nat.le_of_lt h.up) cs'⟩
theorem Cs.drew {W : World} {ks cs : Array Value} {M : Nat} {w : World} (h : Cs W ks M cs w) : Cs W ks M cs w.drew := ⟨h.box, h.blk, h.up, h.low.drew⟩

set_option maxRecDepth 100000 in
set_option maxHeartbeats 4000000 in
theorem spec_sizes (kd : Int) (s len b q x n c : Nat) (ao : Option Addr) (f0 f1 f3 f4 f2 f5 : Int) (size joint out checks arity calls bits : Nat) (W : World)
    (hs : s < 256) (l1 : joint < 1048576) (l3 : checks < 1048576) (l4 : arity < 1048576) (hcl : calls < 1099)
    (hcirc : ∀ w, Calls Tryz.prog 27 #[kindV kd s len b q x (.slice ao n c)] w fun e w' => ∃ off : Int, e = .returned (.agg (cm kd s len b q x (.slice ao n c) f0 f1 f3 f4 f2 f5 size joint out checks arity calls bits off)) ∧ Below w.heap.size w w') :
    Calls Tryz.prog 10 #[kindV kd s len b q x (.slice ao n c)] W fun e w' => ∃ bb, e = .returned (.slice (some ⟨bb, 0, none⟩) 10 10) ∧
      Ints w' bb [(size : Nat), (joint : Nat), (out : Nat), (checks : Nat), (arity : Nat), (1 + checks : Nat), (arity + (1 + 2 * (pw (1 + calls) - 1)) : Nat), (2 + arity : Nat), ((if joint = 0 then 32 * s else 64 * s) : Nat), (s : Nat)] ∧ W.heap.size ≤ bb ∧ Below W.heap.size W w' := by
  have hbox : (W.alloc (.cells (kindC kd s len b q x (.slice ao n c)) 25)).heap[W.heap.size]? = some (.cells (kindC kd s len b q x (.slice ao n c)) 25 (0, 0)) := heap_alloc_new _ _
  have hlow : Below W.heap.size W (W.alloc (.cells (kindC kd s len b q x (.slice ao n c)) 25)) := (Below.refl _ _).alloc (Nat.le_refl _) _
  go_enter Tryz.func10, Tryz.ntmps10
  go_wp2_with (first | (refine wpList_load_row rfl 25 _ rfl W.heap.size rfl 25 (kindC kd s len b q x (.slice ao n c)) (0, 0) _ hbox Tryz.underlying25 rfl (by kernel_rfl) ?_) | (go_at_call 27; go_loud (refine (hcirc _).mono ?_; rintro e w1 ⟨off, rfl, hw1⟩; have hbox1 := (hw1.block _ (lt_of_block hbox)).trans hbox; have hlow1 := hlow.trans (hw1.mono (by simp)); have hlt := lt_of_block hbox1; clear hw1)) | (refine new_big 56 21 zok56 rfl rfl ?_; intro w2 hw2; have hC : Cs W (kindC kd s len b q x (.slice ao n c)) w1.heap.size (zOf 56).cells w2 := (by rw [hw2]; exact ⟨(heap_alloc_old _ _ hlt).trans hbox1, heap_alloc_new _ _, hlt, hlow1.alloc (by omega) _⟩); clear hw2) | (refine wpList_store_row rfl 56 _ _ rfl w1.heap.size (cm kd s len b q x (.slice ao n c) f0 f1 f3 f4 f2 f5 size joint out checks arity calls bits off) rfl rfl 56 _ hC.blk size56 zok56.size (cm_one _ _ _ _ _ _ _ _ _ _ _ _ _ _ _ _ _ _ _ _ _ rfl) ?_; replace hC := hC.row (cm kd s len b q x (.slice ao n c) f0 f1 f3 f4 f2 f5 size joint out checks arity calls bits off); generalize World.setRow w2 _ _ = w3 at hC ⊢) | (refine load_cell 3 _ rfl rfl _ rfl W.heap.size 1 (.int .i64 s) rfl 25 _ (0, 0) hC.box rfl .i64 Tryz.underlying3 ?_) | (refine load_cell 3 _ rfl rfl _ rfl w1.heap.size 14 (.int .i64 joint) rfl 56 _ (0, 0) hC.blk rfl .i64 Tryz.underlying3 ?_))
  all_goals
    rename_i hjt
    have hMW := Nat.le_of_lt hC.up
    obtain ⟨hp1, hp2⟩ := pw_bounds (1 + calls) (by omega)
    generalize w1.heap.size = M at hC hMW ⊢
    refine wp_region_steady (Cs W (kindC kd s len b q x (.slice ao n c)) M (cm kd s len b q x (.slice ao n c) f0 f1 f3 f4 f2 f5 size joint out checks arity calls bits off)) 24 40 rfl (by kernel_rfl) rfl hC.drew ?_
    simp only [List.take_succ_cons, List.take_zero, List.drop_succ_cons, List.drop_zero]
    iterate 24
        apply Steady.cons
        · intro wx hS
          go_wp2_with (first | (refine wpList_load_row rfl 56 _ rfl M rfl 56 _ (0, 0) _ hS.blk Tryz.underlying56 rfl size56 ?_) | (go_at_call 28; go_loud (refine (poly_any _ calls hcl rfl rfl _).mono ?_; rintro e w' ⟨rfl, hb⟩; replace hS := hS.below hb; clear hb)) | (refine load_cell 3 _ rfl rfl _ rfl M 13 (.int .i64 size) rfl 56 _ (0, 0) hS.blk rfl .i64 Tryz.underlying3 ?_) | (refine load_cell 3 _ rfl rfl _ rfl M 14 (.int .i64 joint) rfl 56 _ (0, 0) hS.blk rfl .i64 Tryz.underlying3 ?_) | (refine load_cell 3 _ rfl rfl _ rfl M 15 (.int .i64 out) rfl 56 _ (0, 0) hS.blk rfl .i64 Tryz.underlying3 ?_) | (refine load_cell 3 _ rfl rfl _ rfl M 16 (.int .i64 checks) rfl 56 _ (0, 0) hS.blk rfl .i64 Tryz.underlying3 ?_) | (refine load_cell 3 _ rfl rfl _ rfl M 17 (.int .i64 arity) rfl 56 _ (0, 0) hS.blk rfl .i64 Tryz.underlying3 ?_) | (refine load_cell 3 _ rfl rfl _ rfl W.heap.size 1 (.int .i64 s) rfl 25 _ (0, 0) hS.box rfl .i64 Tryz.underlying3 ?_))
          exact ⟨rfl, rfl, rfl, hS⟩
    intro wx hS
    clear hC
    go_wp2
    refine bodyPost_ret (results_tmp rfl _ _ _) rfl ⟨wx.heap.size, rfl, fun j hj => ?_, hS.low.size, hS.low.alloc hS.low.size _⟩
    rw [cell_of_row _ wx.heap.size j _ 3 (0, 0) (heap_alloc_new _ _)]
    match j, hj with
    | 0, _ => rfl
    | 1, _ => rfl
    | 2, _ => rfl
    | 3, _ => rfl
    | 4, _ => rfl
    | 5, _ => rfl
    | 6, _ => rfl
    | 7, _ => rfl
    | 8, _ => first | rfl | (simp; omega)
    | 9, _ => rfl
    | j + 10, hj => simp at hj; omega
end Go.Proofs.YtlmmdldjfpdcfaaGreatDoor
namespace Go.Proofs.YtlmmdldjfpdcfaaGreatDoor
open Go.RowKit

abbrev ksI (kd s len b q x : Int) (ctx : Value) : Array Value := #[.int .i64 kd, .int .i64 s, .int .i64 len, .int .i64 b, .int .i64 q, .int .u64 x, ctx]

section
variable (kd s len b q x : Int) (ctx : Value) (W : World)

/-- A function of a kind that hands back one value, in every world above. -/
abbrev Gives (f : FuncId) (v : Value) : Prop := ∀ w, Below W.heap.size W w → Calls Tryz.prog f #[.agg (ksI kd s len b q x ctx)] w fun e w' => e = .returned v ∧ Below w.heap.size w w'

set_option maxRecDepth 100000 in
set_option maxHeartbeats 2000000 in
theorem law_big (h5 : Gives kd s len b q x ctx W 5 (.bool false)) :
    Calls Tryz.prog 3 #[.agg (ksI kd s len b q x ctx)] W fun e w' => e = .returned (.bool true) ∧ Below W.heap.size W w' := by
  have hB : (W.alloc (.cells (ksI kd s len b q x ctx) 25)).heap[W.heap.size]? = some (.cells (ksI kd s len b q x ctx) 25 (0, 0)) := heap_alloc_new _ _
  have hlow : Below W.heap.size W (W.alloc (.cells (ksI kd s len b q x ctx) 25)) := (Below.refl _ _).alloc (Nat.le_refl _) _
  go_enter Tryz.func3, Tryz.ntmps3
  go_wp2_with (first | (refine wpList_load_row rfl 25 _ rfl W.heap.size rfl 25 (ksI kd s len b q x ctx) (0, 0) _ hB Tryz.underlying25 rfl (by kernel_rfl) ?_) | (go_at_call 5; go_loud (refine (h5 _ hlow).mono ?_; rintro e w1 ⟨rfl, hb⟩; replace hlow := hlow.trans (hb.mono hlow.size); clear hb)))
  exact bodyPost_ret (results_tmp rfl _ _ _) rfl ⟨rfl, hlow⟩

set_option maxRecDepth 100000 in
set_option maxHeartbeats 2000000 in
theorem law_wide (h5 : Gives kd s len b q x ctx W 5 (.bool true)) (h6 : Gives kd s len b q x ctx W 6 (.bool false)) :
    Calls Tryz.prog 3 #[.agg (ksI kd s len b q x ctx)] W fun e w' => e = .returned (.bool true) ∧ Below W.heap.size W w' := by
  have hB : (W.alloc (.cells (ksI kd s len b q x ctx) 25)).heap[W.heap.size]? = some (.cells (ksI kd s len b q x ctx) 25 (0, 0)) := heap_alloc_new _ _
  have hlow : Below W.heap.size W (W.alloc (.cells (ksI kd s len b q x ctx) 25)) := (Below.refl _ _).alloc (Nat.le_refl _) _
  go_enter Tryz.func3, Tryz.ntmps3
  go_wp2_with (first | (refine wpList_load_row rfl 25 _ rfl W.heap.size rfl 25 (ksI kd s len b q x ctx) (0, 0) _ hB Tryz.underlying25 rfl (by kernel_rfl) ?_) | (go_at_call 5; go_loud (refine (h5 _ hlow).mono ?_; rintro e w1 ⟨rfl, hb⟩; replace hlow := hlow.trans (hb.mono hlow.size); replace hB := (hb.block _ (lt_of_block hB)).trans hB; clear hb)) | (go_at_call 6; go_loud (refine (h6 _ hlow).mono ?_; rintro e w1 ⟨rfl, hb⟩; replace hlow := hlow.trans (hb.mono hlow.size); replace hB := (hb.block _ (lt_of_block hB)).trans hB; clear hb)))
  exact bodyPost_ret (results_tmp rfl _ _ _) rfl ⟨rfl, hlow⟩

set_option maxRecDepth 100000 in
set_option maxHeartbeats 2000000 in
theorem law_none (h5 : Gives kd s len b q x ctx W 5 (.bool true)) (h6 : Gives kd s len b q x ctx W 6 (.bool true)) (h7 : Gives kd s len b q x ctx W 7 (.tuple #[.slice none 0 0, .bool false])) (h8 : Gives kd s len b q x ctx W 8 (.bool false)) :
    Calls Tryz.prog 3 #[.agg (ksI kd s len b q x ctx)] W fun e w' => e = .returned (.bool true) ∧ Below W.heap.size W w' := by
  have hB : (W.alloc (.cells (ksI kd s len b q x ctx) 25)).heap[W.heap.size]? = some (.cells (ksI kd s len b q x ctx) 25 (0, 0)) := heap_alloc_new _ _
  have hlow : Below W.heap.size W (W.alloc (.cells (ksI kd s len b q x ctx) 25)) := (Below.refl _ _).alloc (Nat.le_refl _) _
  go_enter Tryz.func3, Tryz.ntmps3
  go_wp2_with (first | (refine wpList_load_row rfl 25 _ rfl W.heap.size rfl 25 (ksI kd s len b q x ctx) (0, 0) _ hB Tryz.underlying25 rfl (by kernel_rfl) ?_) | (go_at_call 5; go_loud (refine (h5 _ hlow).mono ?_; rintro e w1 ⟨rfl, hb⟩; replace hlow := hlow.trans (hb.mono hlow.size); replace hB := (hb.block _ (lt_of_block hB)).trans hB; clear hb)) | (go_at_call 6; go_loud (refine (h6 _ hlow).mono ?_; rintro e w1 ⟨rfl, hb⟩; replace hlow := hlow.trans (hb.mono hlow.size); replace hB := (hb.block _ (lt_of_block hB)).trans hB; clear hb)) | (go_at_call 7; go_loud (refine (h7 _ hlow).mono ?_; rintro e w1 ⟨rfl, hb⟩; replace hlow := hlow.trans (hb.mono hlow.size); replace hB := (hb.block _ (lt_of_block hB)).trans hB; clear hb)) | (go_at_call 8; go_loud (refine (h8 _ hlow).mono ?_; rintro e w1 ⟨rfl, hb⟩; replace hlow := hlow.trans (hb.mono hlow.size); replace hB := (hb.block _ (lt_of_block hB)).trans hB; clear hb)))
  exact bodyPost_ret (results_tmp rfl _ _ _) rfl ⟨rfl, hlow⟩

theorem Ints.below {w w' : World} {bb : Nat} {zs : List Int} (h : Ints w bb zs) (hb : Below w.heap.size w w') : Ints w' bb zs := fun j hj => by
  have h0 := h j hj
  have hlt : bb < w.heap.size := by
    by_cases hc : bb < w.heap.size
    · exact hc
    · simp [World.cell?, show w.heap.size ≤ bb by omega] at h0
  rw [← h0]
  simp only [World.cell?, hb.block bb hlt]

set_option maxRecDepth 100000 in
set_option maxHeartbeats 2000000 in
theorem law_kind (zs : List Int) (hz : zs.length = 10) (h5 : Gives kd s len b q x ctx W 5 (.bool true)) (h6 : Gives kd s len b q x ctx W 6 (.bool true))
    (h7 : ∀ w, Below W.heap.size W w → Calls Tryz.prog 7 #[.agg (ksI kd s len b q x ctx)] w fun e w' => ∃ bb, e = .returned (.tuple #[.slice (some ⟨bb, 0, none⟩) 10 10, .bool true]) ∧ Ints w' bb zs ∧ Below w.heap.size w w')
    (h8 : Gives kd s len b q x ctx W 8 (.bool true))
    (h10 : ∀ w, Below W.heap.size W w → Calls Tryz.prog 10 #[.agg (ksI kd s len b q x ctx)] w fun e w' => ∃ bb, e = .returned (.slice (some ⟨bb, 0, none⟩) 10 10) ∧ Ints w' bb zs ∧ Below w.heap.size w w') :
    Calls Tryz.prog 3 #[.agg (ksI kd s len b q x ctx)] W fun e w' => e = .returned (.bool true) ∧ Below W.heap.size W w' := by
  have hB : (W.alloc (.cells (ksI kd s len b q x ctx) 25)).heap[W.heap.size]? = some (.cells (ksI kd s len b q x ctx) 25 (0, 0)) := heap_alloc_new _ _
  have hlow : Below W.heap.size W (W.alloc (.cells (ksI kd s len b q x ctx) 25)) := (Below.refl _ _).alloc (Nat.le_refl _) _
  go_enter Tryz.func3, Tryz.ntmps3
  go_wp2_with (first | (refine wpList_load_row rfl 25 _ rfl W.heap.size rfl 25 (ksI kd s len b q x ctx) (0, 0) _ hB Tryz.underlying25 rfl (by kernel_rfl) ?_) | (go_at_call 5; go_loud (refine (h5 _ hlow).mono ?_; rintro e w1 ⟨rfl, hb⟩; replace hlow := hlow.trans (hb.mono hlow.size); replace hB := (hb.block _ (lt_of_block hB)).trans hB; clear hb)) | (go_at_call 6; go_loud (refine (h6 _ hlow).mono ?_; rintro e w1 ⟨rfl, hb⟩; replace hlow := hlow.trans (hb.mono hlow.size); replace hB := (hb.block _ (lt_of_block hB)).trans hB; clear hb)) | (go_at_call 7; go_loud (refine (h7 _ hlow).mono ?_; rintro e w1 ⟨bb, rfl, hI, hb⟩; replace hlow := hlow.trans (hb.mono hlow.size); replace hB := (hb.block _ (lt_of_block hB)).trans hB; clear hb; have HI := Lib.hid hI; clear hI)) | (go_at_call 8; go_loud (refine (h8 _ hlow).mono ?_; rintro e w1 ⟨rfl, hb⟩; have hI := HI.out; clear HI; replace hI := hI.below hb; have HI := Lib.hid hI; clear hI; replace hlow := hlow.trans (hb.mono hlow.size); replace hB := (hb.block _ (lt_of_block hB)).trans hB; clear hb; have b0 := cell_of_row w1 _ 0 _ 25 (0, 0) hB; have b1 := cell_of_row w1 _ 1 _ 25 (0, 0) hB; have b2 := cell_of_row w1 _ 2 _ 25 (0, 0) hB; have b3 := cell_of_row w1 _ 3 _ 25 (0, 0) hB; have b4 := cell_of_row w1 _ 4 _ 25 (0, 0) hB; have b5 := cell_of_row w1 _ 5 _ 25 (0, 0) hB; have b6 := cell_of_row w1 _ 6 _ 25 (0, 0) hB; clear hB)) | (go_at_call 0))
  refine (h10 _ hlow).mono ?_
  rintro e w2 ⟨bb2, rfl, hI2, hb⟩
  have hI := HI.out
  clear HI b0 b1 b2 b3 b4 b5 b6
  replace hI := hI.below hb
  replace hlow := hlow.trans (hb.mono hlow.size)
  have hE := Tryz.slices_Equal_int bb 0 10 10 bb2 0 10 10 zs zs w2 (by omega) (by omega) (by omega) (by omega) (fun j hj => by rw [Nat.zero_add]; exact hI j hj) (fun j hj => by rw [Nat.zero_add]; exact hI2 j hj)
  have HE := Lib.hid hE
  clear hb hE hI hI2
  go_wp2_with (go_at_call 9; go_loud (refine HE.out.mono ?_; rintro e w3 ⟨rfl, hq⟩))
  exact bodyPost_ret (results_tmp rfl _ _ _) rfl ⟨rfl, by obtain ⟨qq, rfl⟩ := hq; exact below_drewN hlow qq⟩
end
end Go.Proofs.YtlmmdldjfpdcfaaGreatDoor
namespace Go.Proofs.YtlmmdldjfpdcfaaGreatDoor
open Go.RowKit

set_option maxRecDepth 100000 in
set_option maxHeartbeats 1000000 in
theorem sizes_bad (kd : Int) (s len b q x : Nat) (ctx : Value) (W : World)
    (hS : ∀ w, Below W.heap.size W w → Calls Tryz.prog 15 #[kindV kd s len b q x ctx] w fun e w' => e = .returned .nilIface ∧ Below w.heap.size w w')
    (hL : ∀ w, Below W.heap.size W w → Calls Tryz.prog 16 #[kindV kd s len b q x ctx] w fun e w' => e = .returned .nilIface ∧ Below w.heap.size w w') :
    Calls Tryz.prog 7 #[kindV kd s len b q x ctx] W fun e w' => e = .returned (.tuple #[.slice none 0 0, .bool false]) ∧ Below W.heap.size W w' := by
  have hlow : Below W.heap.size W ((W.alloc (.cells #[.int .i64 kd, .int .i64 s, .int .i64 len, .int .i64 b, .int .i64 q, .int .u64 x, ctx] 25)).alloc (.cells #[.int .u64 0, .int .u64 0, .int .u64 0, .int .u64 0, .int .u64 0, .int .u64 0, .int .u64 0, .int .u64 0, .int .u64 0, .int .u8 0] 41)) := ((Below.refl _ _).alloc (Nat.le_refl _) _).alloc (by simp) _
  have HS := Lib.hid hS
  have HL := Lib.hid hL
  clear hS hL
  go_enter Tryz.func7, Tryz.ntmps7
  go_wp2_with (go_at_call 0)
  refine (HS.out _ hlow).mono ?_
  rintro e w2 ⟨rfl, hb2⟩
  have hlow2 : Below W.heap.size W w2 := hlow.trans (hb2.mono (by simp; omega))
  have hbox : w2.heap[W.heap.size]? = some (.cells #[.int .i64 kd, .int .i64 s, .int .i64 len, .int .i64 b, .int .i64 q, .int .u64 x, ctx] 25 (0, 0)) := (hb2.block _ (by simp; omega)).trans ((heap_alloc_old _ _ (by simp)).trans (heap_alloc_new _ _))
  have b0 : w2.cell? ⟨W.heap.size, 0, none⟩ = some (.int .i64 kd) := by rw [cell_of_row w2 _ 0 _ 25 (0, 0) hbox]; rfl
  have b1 : w2.cell? ⟨W.heap.size, 1, none⟩ = some (.int .i64 s) := by rw [cell_of_row w2 _ 1 _ 25 (0, 0) hbox]; rfl
  have b2 : w2.cell? ⟨W.heap.size, 2, none⟩ = some (.int .i64 len) := by rw [cell_of_row w2 _ 2 _ 25 (0, 0) hbox]; rfl
  have b3 : w2.cell? ⟨W.heap.size, 3, none⟩ = some (.int .i64 b) := by rw [cell_of_row w2 _ 3 _ 25 (0, 0) hbox]; rfl
  have b4 : w2.cell? ⟨W.heap.size, 4, none⟩ = some (.int .i64 q) := by rw [cell_of_row w2 _ 4 _ 25 (0, 0) hbox]; rfl
  have b5 : w2.cell? ⟨W.heap.size, 5, none⟩ = some (.int .u64 x) := by rw [cell_of_row w2 _ 5 _ 25 (0, 0) hbox]; rfl
  have b6 : w2.cell? ⟨W.heap.size, 6, none⟩ = some ctx := by rw [cell_of_row w2 _ 6 _ 25 (0, 0) hbox]; rfl
  clear hlow hbox hb2
  go_wp2_with (go_at_call 0)
  refine (HL.out _ hlow2).mono ?_
  rintro e w3 ⟨rfl, hb3⟩
  have hlow3 : Below W.heap.size W w3 := hlow2.trans (hb3.mono hlow2.size)
  clear hb3 hlow2 b0 b1 b2 b3 b4 b5 b6
  go_wp2
  exact bodyPost_ret (results_tmp2 rfl _ _ _) rfl ⟨rfl, hlow3⟩
end Go.Proofs.YtlmmdldjfpdcfaaGreatDoor
namespace Go.Proofs.YtlmmdldjfpdcfaaGreatDoor
open Go.RowKit

theorem meth1_params (b : Nat) (w : World) : (method 43 59 (.pointer (some ⟨b, 0, none⟩)) "Params").run Tryz.prog w = .ok (31, .pointer (some ⟨b, 0, none⟩)) w := by kernel_rfl

set_option maxRecDepth 100000 in
set_option maxHeartbeats 4000000 in
theorem sizes1 (s len b q x n : Nat) (ctx : Value) (hn : n ≤ 4096) (hs : 2 ≤ s) (hs2 : s ≤ 255) (W : World) (hctx : CtxAt W ctx n) (hT : TabOk W) (h22 : 22 < W.heap.size) :
    Calls Tryz.prog 7 #[kindV 1 s len b q x ctx] W fun e w' => ∃ bb, e = .returned (.tuple #[.slice (some ⟨bb, 0, none⟩) 10 10, .bool true]) ∧ Ints w' bb [(1 : Nat), (0 : Nat), (1 : Nat), (1 : Nat), (2 : Nat), (1 + 1 : Nat), ((2 + (1 + 2 * (pw (1 + 1) - 1))) : Nat), (4 : Nat), ((32 * s) : Nat), (s : Nat)] ∧ Below W.heap.size W w' := by
  have hcl : 1 < 1099 := by omega
  obtain ⟨hp1, hp2⟩ := pw_bounds (1 + 1) (by omega)
  have HC := Lib.hid hctx
  have HT := Lib.hid hT
  clear hctx hT
  have hlow : Below W.heap.size W ((W.alloc (.cells #[.int .i64 1, .int .i64 s, .int .i64 len, .int .i64 b, .int .i64 q, .int .u64 x, ctx] 25)).alloc (.cells zero41 41)) := ((Below.refl _ _).alloc (Nat.le_refl _) _).alloc (by simp) _
  have hnew : ∀ i, i = W.heap.size + 1 → ((W.alloc (.cells #[.int .i64 1, .int .i64 s, .int .i64 len, .int .i64 b, .int .i64 q, .int .u64 x, ctx] 25)).alloc (.cells zero41 41)).heap[i]? = some (.cells zero41 41 (0, 0)) := fun i hi => by
    have := heap_alloc_new (W.alloc (.cells #[.int .i64 1, .int .i64 s, .int .i64 len, .int .i64 b, .int .i64 q, .int .u64 x, ctx] 25)) (.cells zero41 41)
    rw [hi]; simpa using this
  have mp := fun b w => meth1_params b w
  go_enter Tryz.func7, Tryz.ntmps7
  go_wp2_with (go_at_call 0)
  refine (small1_ok s len b q x n ctx hn hs hs2 _ (HC.out.low hlow)).mono ?_
  rintro e w3 ⟨k1, rfl, ⟨vs, k2, fs, hv, hm, hf, ⟨y, hfs⟩⟩, hb3⟩
  have hnew3 : w3.heap[W.heap.size + 1]? = some (.cells zero41 41 (0, 0)) := (hb3.block _ (by simp)).trans (hnew _ rfl)
  have hlow3 : Below W.heap.size W w3 := hlow.trans (hb3.mono (by simp; omega))
  go_wp2_with (go_at_call 0)
  refine (gen10 0 1 1 1 (1 + 1) 2 (2 + (1 + 2 * (pw (1 + 1) - 1))) 4 (32 * s) s (mach1 k1 k2 vs fs 1 1 0 1 1 (32 * s) s hcl (by omega) hm.flp hm.rand hm.shares (by rw [hfs]; rfl) (by rw [hfs]; rfl) (by rw [hfs]; rfl) (by rw [hfs]; rfl) (by rw [hfs]; rfl) _ hv hf (HT.out.below hlow3 h22) (Nat.lt_of_lt_of_le h22 hlow3.size)) ?_).mono ?_
  · omega
  rintro e w4 ⟨a0, a1, a2, a3, a4, a5, a6, a7, a8, a9, rfl, ⟨⟨l0, l1, l2, l3, l4⟩, l5, l6, l7, l8, l9⟩, HA, hb4⟩
  have hnew := (hb4.block _ (lt_of_block hnew3)).trans hnew3
  have hlow := hlow3.trans (hb4.mono hlow3.size)
  clear hb3 hb4 hnew3 hlow3 hv hf hm hfs hp1 hp2 hcl mp
  have hMW : W.heap.size ≤ W.heap.size + 1 := by omega
  generalize hM : W.heap.size + 1 = M at *
  have n0 : w4.cell? ⟨M, 0, none⟩ = some (.int .u64 0) := cell_of_row w4 M 0 _ 41 (0, 0) hnew
  have n1 : w4.cell? ⟨M, 1, none⟩ = some (.int .u64 0) := cell_of_row w4 M 1 _ 41 (0, 0) hnew
  have n2 : w4.cell? ⟨M, 2, none⟩ = some (.int .u64 0) := cell_of_row w4 M 2 _ 41 (0, 0) hnew
  have n3 : w4.cell? ⟨M, 3, none⟩ = some (.int .u64 0) := cell_of_row w4 M 3 _ 41 (0, 0) hnew
  have n4 : w4.cell? ⟨M, 4, none⟩ = some (.int .u64 0) := cell_of_row w4 M 4 _ 41 (0, 0) hnew
  have n5 : w4.cell? ⟨M, 5, none⟩ = some (.int .u64 0) := cell_of_row w4 M 5 _ 41 (0, 0) hnew
  have n6 : w4.cell? ⟨M, 6, none⟩ = some (.int .u64 0) := cell_of_row w4 M 6 _ 41 (0, 0) hnew
  have n7 : w4.cell? ⟨M, 7, none⟩ = some (.int .u64 0) := cell_of_row w4 M 7 _ 41 (0, 0) hnew
  have n8 : w4.cell? ⟨M, 8, none⟩ = some (.int .u64 0) := cell_of_row w4 M 8 _ 41 (0, 0) hnew
  have n9 : w4.cell? ⟨M, 9, none⟩ = some (.int .u8 0) := cell_of_row w4 M 9 _ 41 (0, 0) hnew
  have nf : ∀ i, w4.frozen? ⟨M, i, none⟩ = false := fun i => frozen_of_row w4 M i _ 41 hnew
  have HN := Lib.hid hnew
  clear hnew
  go_wp2
  have hI : ∀ (B : World) (zs : Array Value), B.heap.size = w4.heap.size → (B.alloc (.cells zs 3)).heap[w4.heap.size]? = some (.cells zs 3 (0, 0)) := fun B zs h => by rw [← h]; exact heap_alloc_new _ _
  refine bodyPost_ret (results_tmp2 rfl _ _ _) rfl ⟨w4.heap.size, rfl, fun j hj => ?_, ?_⟩
  · rw [cell_of_row _ w4.heap.size j _ 3 (0, 0) (hI _ _ (by simp))]
    obtain ⟨⟨e0, e1, e2, e3, e4⟩, e5, e6, e7, e8, e9⟩ := HA.out
    clear HA
    rw [e0, e1, e2, e3, e4, e5, e6, e7, e8, e9]
    match j, hj with
    | 0, _ => rfl
    | 1, _ => rfl
    | 2, _ => rfl
    | 3, _ => rfl
    | 4, _ => rfl
    | 5, _ => rfl
    | 6, _ => rfl
    | 7, _ => rfl
    | 8, _ => rfl
    | 9, _ => rfl
    | j + 10, hj => simp at hj; omega
  · refine Below.alloc ?_ (by simpa using hlow.size) _
    iterate 10 (refine Below.setCell ?_ (show W.heap.size ≤ M from hMW) _)
    exact hlow
end Go.Proofs.YtlmmdldjfpdcfaaGreatDoor
