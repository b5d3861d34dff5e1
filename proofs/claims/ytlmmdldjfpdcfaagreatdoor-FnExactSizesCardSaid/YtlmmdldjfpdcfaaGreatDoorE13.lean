/- The circuit of kind 4, as the specification tells it. The circuit of kind 5, as the specification tells it. -/
import Derived.Test.YtlmmdldjfpdcfaaGreatDoorE11
import Derived.Test.YtlmmdldjfpdcfaaGreatDoorE09
namespace Go.Proofs.YtlmmdldjfpdcfaaGreatDoor
open Go.RowKit

set_option maxRecDepth 100000 in
set_option maxHeartbeats 4000000 in
theorem circuit4 (s len b q x n c : Nat) (ao : Option Addr) (hl : len ≤ 16) (hq0 : 0 < q) (hq : q ≤ 16) (cl : Nat) (hcl : cl = (len + q - 1) / q) (W : World) :
    Calls Tryz.prog 27 #[kindV 4 s len b q x (.slice ao n c)] W fun e w' => e = .returned (.agg (cm 4 s len b q x (.slice ao n c) 1 18446744073709551588 2277457303077691142 7865413326059086475 16 66 len cl len 2 (2 * q) cl 0 0)) ∧ Below W.heap.size W w' := by
  have hC : Ca W (kindC 4 s len b q x (.slice ao n c)) ((W.alloc (.cells (kindC 4 s len b q x (.slice ao n c)) 25)).alloc (.cells (zOf 56).cells 56)) :=
    ⟨(heap_alloc_old _ _ (by simp)).trans (heap_alloc_new _ _), by simpa using heap_alloc_new (W.alloc (.cells (kindC 4 s len b q x (.slice ao n c)) 25)) (.cells (zOf 56).cells 56), ((Below.refl _ _).alloc (Nat.le_refl _) _).alloc (by simp) _⟩
  go_enter Tryz.func27, Tryz.ntmps27
  go_wp2_with (first | (refine new_big 56 21 zok56 rfl rfl ?_; intro w1 hw1; rw [← hw1] at hC; clear hw1))
  have hsz : (W.alloc (.cells (kindC 4 s len b q x (.slice ao n c)) 25)).heap.size = W.heap.size + 1 := by simp
  rw [hsz]
  generalize hk : kindC 4 s len b q x (.slice ao n c) = ks at hC
  refine wp_region_new' (S0 := Ca W ks) (S1 := Cb W ks) [(5, .agg ks), (6, .pointer (some ⟨W.heap.size, 0, none⟩)), (7, .int .i64 4), (8, .agg fld128), (9, .agg (circ0 4 s len b q x (.slice ao n c) 1 18446744073709551588 2277457303077691142 7865413326059086475 16 66))] 6 5 3 97 _ rfl rfl (by kernel_rfl) rfl (by omega) rfl rfl (makes56 rfl) ?_ ?_ hC.drew ?_
  · intro M i o hi ho hip w hS
    simp only [finOf, puts, List.setIfInBounds_toArray, List.set_cons_zero, List.set_cons_succ]
    rcases i with _ | _ | _ | _ | _ | _ | i
    · injection ho with ho
      subst ho
      refine wpList_load_row rfl 25 _ rfl W.heap.size rfl 25 ks (0, 0) _ hS.a.box Tryz.underlying25 rfl (by rw [← hk]; kernel_rfl) ?_
      go_wp2
      exact ⟨rfl, rfl, rfl, hS⟩
    · injection ho with ho
      subst ho
      go_wp2
      exact ⟨rfl, rfl, rfl, hS⟩
    · injection ho with ho
      subst ho
      have k0 : w.cell? ⟨W.heap.size, 0, none⟩ = some (.int .i64 4) := by rw [cell_of_row w _ 0 ks 25 (0, 0) hS.a.box, ← hk]; rfl
      go_wp2
      exact ⟨rfl, rfl, rfl, hS⟩
    · injection ho with ho
      subst ho
      have hS2 := hS.below ((Below.refl _ _).alloc (Nat.le_refl _) (.cells fld128 54))
      go_wp2_with (go_at_call 50; go_loud (refine (field4 _).mono ?_; rintro e w2 ⟨rfl, hw2⟩; rw [← hw2] at hS2; clear hw2))
      exact ⟨rfl, rfl, rfl, hS2⟩
    · injection ho with ho
      subst ho
      refine build_circ 4 s len b q x ao n c 1 18446744073709551588 2277457303077691142 7865413326059086475 16 66 rfl _ _ rfl (by rw [hk]; rfl) rfl ?_
      go_wp2
      exact ⟨rfl, rfl, rfl, hS⟩
    · exact absurd rfl hip
    · omega
  · intro i o hi ho hip
    simp only [finOf, puts, List.setIfInBounds_toArray, List.set_cons_zero, List.set_cons_succ]
    rcases i with _ | _ | _ | _ | _ | _ | i
    · injection ho with ho
      subst ho
      refine ⟨by decide, fun w hS => ?_⟩
      refine wpList_load_row rfl 25 _ rfl W.heap.size rfl 25 ks (0, 0) _ hS.box Tryz.underlying25 rfl (by rw [← hk]; kernel_rfl) ?_
      go_wp2
      exact ⟨rfl, rfl, rfl, hS⟩
    · injection ho with ho
      subst ho
      refine ⟨by decide, fun w hS => ?_⟩
      go_wp2
      exact ⟨rfl, rfl, rfl, hS⟩
    · injection ho with ho
      subst ho
      refine ⟨by decide, fun w hS => ?_⟩
      have k0 : w.cell? ⟨W.heap.size, 0, none⟩ = some (.int .i64 4) := by rw [cell_of_row w _ 0 ks 25 (0, 0) hS.box, ← hk]; rfl
      go_wp2
      exact ⟨rfl, rfl, rfl, hS⟩
    · injection ho with ho
      subst ho
      refine ⟨by decide, fun w hS => ?_⟩
      have hS2 := hS.below ((Below.refl _ _).alloc (Nat.le_refl _) (.cells fld128 54))
      go_wp2_with (go_at_call 50; go_loud (refine (field4 _).mono ?_; rintro e w2 ⟨rfl, hw2⟩; rw [← hw2] at hS2; clear hw2))
      exact ⟨rfl, rfl, rfl, hS2⟩
    · injection ho with ho
      subst ho
      refine ⟨by decide, fun w hS => ?_⟩
      refine build_circ 4 s len b q x ao n c 1 18446744073709551588 2277457303077691142 7865413326059086475 16 66 rfl _ _ rfl (by rw [hk]; rfl) rfl ?_
      go_wp2
      exact ⟨rfl, rfl, rfl, hS⟩
    · exact absurd rfl hip
    · omega
  · intro M w hS
    simp only [finOf, puts, List.setIfInBounds_toArray, List.set_cons_zero, List.set_cons_succ, List.drop_succ_cons, List.drop_zero]
    refine wpList_store_row rfl 56 _ _ rfl M (circ0 4 s len b q x (.slice ao n c) 1 18446744073709551588 2277457303077691142 7865413326059086475 16 66) rfl rfl 56 _ hS.blk (by kernel_rfl) zok56.size (by simp [Value.oneCell']) ?_
    have hM := setRow_heap w M _ (circ0 4 s len b q x (.slice ao n c) 1 18446744073709551588 2277457303077691142 7865413326059086475 16 66) 56 _ hS.blk
    have hup := hS.up
    have hbox := (setRow_other w M W.heap.size (circ0 4 s len b q x (.slice ao n c) 1 18446744073709551588 2277457303077691142 7865413326059086475 16 66) (by omega)).trans hS.a.box
    have hres := (setRow_other w M (W.heap.size + 1) (circ0 4 s len b q x (.slice ao n c) 1 18446744073709551588 2277457303077691142 7865413326059086475 16 66) (by omega)).trans hS.a.res
    have hlow := below_setRow' hS.a.low (show W.heap.size ≤ M by omega) (circ0 4 s len b q x (.slice ao n c) 1 18446744073709551588 2277457303077691142 7865413326059086475 16 66)
    generalize w.setRow M (circ0 4 s len b q x (.slice ao n c) 1 18446744073709551588 2277457303077691142 7865413326059086475 16 66) = w2 at hM hbox hres hlow ⊢
    have hC : Cm W ks M (cm 4 s len b q x (.slice ao n c) 1 18446744073709551588 2277457303077691142 7865413326059086475 16 66 1 0 1 1 2 1 0 0) w2 := ⟨hbox, hres, hM, hup, hlow⟩
    rw [← hk] at hbox
    have b0 : w2.cell? ⟨W.heap.size, 0, none⟩ = some (.int .i64 4) := by rw [cell_of_row w2 _ 0 _ 25 (0, 0) hbox]; rfl
    rw [← hk] at hC
    have HK := Lib.hid hk
    clear hk hbox hS hsz hM hres hlow
    have HCL := Lib.hid hcl
    clear hcl
    go_wp2_with (first | (refine load_cell 3 _ rfl rfl _ rfl W.heap.size 0 (.int .i64 4) rfl 25 _ (0, 0) hC.box rfl .i64 Tryz.underlying3 ?_) | (refine load_cell 3 _ rfl rfl _ rfl W.heap.size 2 (.int .i64 len) rfl 25 _ (0, 0) hC.box rfl .i64 Tryz.underlying3 ?_) | (refine load_cell 3 _ rfl rfl _ rfl W.heap.size 3 (.int .i64 b) rfl 25 _ (0, 0) hC.box rfl .i64 Tryz.underlying3 ?_) | (refine load_cell 3 _ rfl rfl _ rfl W.heap.size 4 (.int .i64 q) rfl 25 _ (0, 0) hC.box rfl .i64 Tryz.underlying3 ?_) | (refine load_cell 22 _ rfl rfl _ rfl W.heap.size 5 (.int .u64 x) rfl 25 _ (0, 0) hC.box rfl .u64 Tryz.underlying22 ?_) | (refine st13 _ _ rfl rfl rfl hC rfl len _ rfl (by first | rfl | (push_cast; omega) | omega) ?_; clear hC; intro w2 hC) | (refine st16 _ _ rfl rfl rfl hC rfl 2 _ rfl (by first | rfl | (push_cast; omega) | omega) ?_; clear hC; intro w2 hC) | (refine st15 _ _ rfl rfl rfl hC rfl len _ rfl (by first | rfl | (push_cast; omega) | omega) ?_; clear hC; intro w2 hC) | (refine st18 _ _ rfl rfl rfl hC rfl cl _ rfl (by first | rfl | (push_cast; omega) | omega) ?_; clear hC; intro w2 hC) | (refine st14 _ _ rfl rfl rfl hC rfl cl _ rfl (by first | rfl | (push_cast; omega) | omega) ?_; clear hC; intro w2 hC) | (refine st17 _ _ rfl rfl rfl hC rfl (2 * q) _ rfl (by first | rfl | (push_cast; omega) | omega) ?_; clear hC; intro w2 hC) | (refine ld13 _ rfl rfl _ rfl hC rfl ?_) | (refine ld18 _ rfl rfl _ rfl hC rfl ?_) | (refine quo_nat _ _ rfl rfl _ rfl (len + q - 1) q _ rfl (by push_cast; omega) rfl (by omega) hq0 ?_; rw [← HCL.out]) | (refine wpList_load_row rfl 56 _ rfl M rfl 56 _ (0, 0) _ hC.blk Tryz.underlying56 rfl size56 ?_) | (refine wpList_store_row rfl 56 _ _ rfl (W.heap.size + 1) (cm _ _ _ _ _ _ _ _ _ _ _ _ _ _ _ _ _ _ _ _ _) rfl rfl 56 _ hC.res size56 zok56.size (cm_one _ _ _ _ _ _ _ _ _ _ _ _ _ _ _ _ _ _ _ _ _ rfl) ?_))
    exact bodyPost_ret (results_cell_row rfl _ _ (W.heap.size + 1) 56 _ (0, 0) _ rfl (setRow_heap _ _ _ _ 56 _ hC.res) Tryz.underlying56 rfl size56) rfl ⟨rfl, below_setRow' hC.low (by omega) _⟩
end Go.Proofs.YtlmmdldjfpdcfaaGreatDoor
namespace Go.Proofs.YtlmmdldjfpdcfaaGreatDoor
open Go.RowKit

set_option maxRecDepth 100000 in
set_option maxHeartbeats 4000000 in
theorem circuit5 (s len b q x n c : Nat) (ao : Option Addr) (hx : x < 9223372036854775808) (hl : len ≤ 16) (hq0 : 0 < q) (hq : q ≤ 16) (cl : Nat) (hcl : cl = (len + Lib.bitLen x + q - 1) / q) (W : World) :
    Calls Tryz.prog 27 #[kindV 5 s len b q x (.slice ao n c)] W fun e w' => ∃ off : Int, e = .returned (.agg (cm 5 s len b q x (.slice ao n c) 1 18446744073709551588 2277457303077691142 7865413326059086475 16 66 (len + Lib.bitLen x) cl len 2 (2 * q) cl (Lib.bitLen x) off)) ∧ Below W.heap.size W w' := by
  have hC : Ca W (kindC 5 s len b q x (.slice ao n c)) ((W.alloc (.cells (kindC 5 s len b q x (.slice ao n c)) 25)).alloc (.cells (zOf 56).cells 56)) :=
    ⟨(heap_alloc_old _ _ (by simp)).trans (heap_alloc_new _ _), by simpa using heap_alloc_new (W.alloc (.cells (kindC 5 s len b q x (.slice ao n c)) 25)) (.cells (zOf 56).cells 56), ((Below.refl _ _).alloc (Nat.le_refl _) _).alloc (by simp) _⟩
  go_enter Tryz.func27, Tryz.ntmps27
  go_wp2_with (first | (refine new_big 56 21 zok56 rfl rfl ?_; intro w1 hw1; rw [← hw1] at hC; clear hw1))
  have hsz : (W.alloc (.cells (kindC 5 s len b q x (.slice ao n c)) 25)).heap.size = W.heap.size + 1 := by simp
  rw [hsz]
  generalize hk : kindC 5 s len b q x (.slice ao n c) = ks at hC
  refine wp_region_new' (S0 := Ca W ks) (S1 := Cb W ks) [(5, .agg ks), (6, .pointer (some ⟨W.heap.size, 0, none⟩)), (7, .int .i64 5), (8, .agg fld128), (9, .agg (circ0 5 s len b q x (.slice ao n c) 1 18446744073709551588 2277457303077691142 7865413326059086475 16 66))] 6 5 3 97 _ rfl rfl (by kernel_rfl) rfl (by omega) rfl rfl (makes56 rfl) ?_ ?_ hC.drew ?_
  · intro M i o hi ho hip w hS
    simp only [finOf, puts, List.setIfInBounds_toArray, List.set_cons_zero, List.set_cons_succ]
    rcases i with _ | _ | _ | _ | _ | _ | i
    · injection ho with ho
      subst ho
      refine wpList_load_row rfl 25 _ rfl W.heap.size rfl 25 ks (0, 0) _ hS.a.box Tryz.underlying25 rfl (by rw [← hk]; kernel_rfl) ?_
      go_wp2
      exact ⟨rfl, rfl, rfl, hS⟩
    · injection ho with ho
      subst ho
      go_wp2
      exact ⟨rfl, rfl, rfl, hS⟩
    · injection ho with ho
      subst ho
      have k0 : w.cell? ⟨W.heap.size, 0, none⟩ = some (.int .i64 5) := by rw [cell_of_row w _ 0 ks 25 (0, 0) hS.a.box, ← hk]; rfl
      go_wp2
      exact ⟨rfl, rfl, rfl, hS⟩
    · injection ho with ho
      subst ho
      have hS2 := hS.below ((Below.refl _ _).alloc (Nat.le_refl _) (.cells fld128 54))
      go_wp2_with (go_at_call 50; go_loud (refine (field5 _).mono ?_; rintro e w2 ⟨rfl, hw2⟩; rw [← hw2] at hS2; clear hw2))
      exact ⟨rfl, rfl, rfl, hS2⟩
    · injection ho with ho
      subst ho
      refine build_circ 5 s len b q x ao n c 1 18446744073709551588 2277457303077691142 7865413326059086475 16 66 rfl _ _ rfl (by rw [hk]; rfl) rfl ?_
      go_wp2
      exact ⟨rfl, rfl, rfl, hS⟩
    · exact absurd rfl hip
    · omega
  · intro i o hi ho hip
    simp only [finOf, puts, List.setIfInBounds_toArray, List.set_cons_zero, List.set_cons_succ]
    rcases i with _ | _ | _ | _ | _ | _ | i
    · injection ho with ho
      subst ho
      refine ⟨by decide, fun w hS => ?_⟩
      refine wpList_load_row rfl 25 _ rfl W.heap.size rfl 25 ks (0, 0) _ hS.box Tryz.underlying25 rfl (by rw [← hk]; kernel_rfl) ?_
      go_wp2
      exact ⟨rfl, rfl, rfl, hS⟩
    · injection ho with ho
      subst ho
      refine ⟨by decide, fun w hS => ?_⟩
      go_wp2
      exact ⟨rfl, rfl, rfl, hS⟩
    · injection ho with ho
      subst ho
      refine ⟨by decide, fun w hS => ?_⟩
      have k0 : w.cell? ⟨W.heap.size, 0, none⟩ = some (.int .i64 5) := by rw [cell_of_row w _ 0 ks 25 (0, 0) hS.box, ← hk]; rfl
      go_wp2
      exact ⟨rfl, rfl, rfl, hS⟩
    · injection ho with ho
      subst ho
      refine ⟨by decide, fun w hS => ?_⟩
      have hS2 := hS.below ((Below.refl _ _).alloc (Nat.le_refl _) (.cells fld128 54))
      go_wp2_with (go_at_call 50; go_loud (refine (field5 _).mono ?_; rintro e w2 ⟨rfl, hw2⟩; rw [← hw2] at hS2; clear hw2))
      exact ⟨rfl, rfl, rfl, hS2⟩
    · injection ho with ho
      subst ho
      refine ⟨by decide, fun w hS => ?_⟩
      refine build_circ 5 s len b q x ao n c 1 18446744073709551588 2277457303077691142 7865413326059086475 16 66 rfl _ _ rfl (by rw [hk]; rfl) rfl ?_
      go_wp2
      exact ⟨rfl, rfl, rfl, hS⟩
    · exact absurd rfl hip
    · omega
  · intro M w hS
    simp only [finOf, puts, List.setIfInBounds_toArray, List.set_cons_zero, List.set_cons_succ, List.drop_succ_cons, List.drop_zero]
    refine wpList_store_row rfl 56 _ _ rfl M (circ0 5 s len b q x (.slice ao n c) 1 18446744073709551588 2277457303077691142 7865413326059086475 16 66) rfl rfl 56 _ hS.blk (by kernel_rfl) zok56.size (by simp [Value.oneCell']) ?_
    have hM := setRow_heap w M _ (circ0 5 s len b q x (.slice ao n c) 1 18446744073709551588 2277457303077691142 7865413326059086475 16 66) 56 _ hS.blk
    have hup := hS.up
    have hbox := (setRow_other w M W.heap.size (circ0 5 s len b q x (.slice ao n c) 1 18446744073709551588 2277457303077691142 7865413326059086475 16 66) (by omega)).trans hS.a.box
    have hres := (setRow_other w M (W.heap.size + 1) (circ0 5 s len b q x (.slice ao n c) 1 18446744073709551588 2277457303077691142 7865413326059086475 16 66) (by omega)).trans hS.a.res
    have hlow := below_setRow' hS.a.low (show W.heap.size ≤ M by omega) (circ0 5 s len b q x (.slice ao n c) 1 18446744073709551588 2277457303077691142 7865413326059086475 16 66)
    generalize w.setRow M (circ0 5 s len b q x (.slice ao n c) 1 18446744073709551588 2277457303077691142 7865413326059086475 16 66) = w2 at hM hbox hres hlow ⊢
    have hC : Cm W ks M (cm 5 s len b q x (.slice ao n c) 1 18446744073709551588 2277457303077691142 7865413326059086475 16 66 1 0 1 1 2 1 0 0) w2 := ⟨hbox, hres, hM, hup, hlow⟩
    rw [← hk] at hbox
    have b0 : w2.cell? ⟨W.heap.size, 0, none⟩ = some (.int .i64 5) := by rw [cell_of_row w2 _ 0 _ 25 (0, 0) hbox]; rfl
    rw [← hk] at hC
    have HK := Lib.hid hk
    clear hk hbox hS hsz hM hres hlow
    have HCL := Lib.hid hcl
    clear hcl
    go_wp2_with (first | (refine load_cell 3 _ rfl rfl _ rfl W.heap.size 0 (.int .i64 5) rfl 25 _ (0, 0) hC.box rfl .i64 Tryz.underlying3 ?_) | (refine load_cell 3 _ rfl rfl _ rfl W.heap.size 2 (.int .i64 len) rfl 25 _ (0, 0) hC.box rfl .i64 Tryz.underlying3 ?_) | (refine load_cell 3 _ rfl rfl _ rfl W.heap.size 3 (.int .i64 b) rfl 25 _ (0, 0) hC.box rfl .i64 Tryz.underlying3 ?_) | (refine load_cell 3 _ rfl rfl _ rfl W.heap.size 4 (.int .i64 q) rfl 25 _ (0, 0) hC.box rfl .i64 Tryz.underlying3 ?_) | (refine load_cell 22 _ rfl rfl _ rfl W.heap.size 5 (.int .u64 x) rfl 25 _ (0, 0) hC.box rfl .u64 Tryz.underlying22 ?_) | (refine st19 _ _ rfl rfl rfl hC rfl L _ rfl (by first | rfl | (push_cast; omega) | omega) ?_; clear hC; intro w2 hC) | (refine st20 _ _ rfl rfl rfl hC rfl _ rfl ?_; clear hC; intro w2 hC) | (refine st13 _ _ rfl rfl rfl hC rfl (len + L) _ rfl (by first | rfl | (push_cast; omega) | omega) ?_; clear hC; intro w2 hC) | (refine st16 _ _ rfl rfl rfl hC rfl 2 _ rfl (by first | rfl | (push_cast; omega) | omega) ?_; clear hC; intro w2 hC) | (refine st15 _ _ rfl rfl rfl hC rfl len _ rfl (by first | rfl | (push_cast; omega) | omega) ?_; clear hC; intro w2 hC) | (refine st18 _ _ rfl rfl rfl hC rfl cl _ rfl (by first | rfl | (push_cast; omega) | omega) ?_; clear hC; intro w2 hC) | (refine st14 _ _ rfl rfl rfl hC rfl cl _ rfl (by first | rfl | (push_cast; omega) | omega) ?_; clear hC; intro w2 hC) | (refine st17 _ _ rfl rfl rfl hC rfl (2 * q) _ rfl (by first | rfl | (push_cast; omega) | omega) ?_; clear hC; intro w2 hC) | (refine ld13 _ rfl rfl _ rfl hC rfl ?_) | (refine ld18 _ rfl rfl _ rfl hC rfl ?_) | (refine ld19 _ rfl rfl _ rfl hC rfl ?_) | (refine quo_nat _ _ rfl rfl _ rfl (len + L + q - 1) q _ rfl (by push_cast; omega) rfl (by omega) hq0 ?_; rw [← HCL.out]) | (go_at_call 51; go_loud (refine (len64_any x (by omega) _).mono ?_; rintro e w3 ⟨L, rfl, hw3, hL, HL⟩; subst hw3; rw [HL.out] at HCL)) | (refine wpList_load_row rfl 56 _ rfl M rfl 56 _ (0, 0) _ hC.blk Tryz.underlying56 rfl size56 ?_) | (refine wpList_store_row rfl 56 _ _ rfl (W.heap.size + 1) (cm _ _ _ _ _ _ _ _ _ _ _ _ _ _ _ _ _ _ _ _ _) rfl rfl 56 _ hC.res size56 zok56.size (cm_one _ _ _ _ _ _ _ _ _ _ _ _ _ _ _ _ _ _ _ _ _ rfl) ?_))
    rw [HL.out]
    exact bodyPost_ret (results_cell_row rfl _ _ (W.heap.size + 1) 56 _ (0, 0) _ rfl (setRow_heap _ _ _ _ 56 _ hC.res) Tryz.underlying56 rfl size56) rfl ⟨_, rfl, below_setRow' hC.low (by omega) _⟩
end Go.Proofs.YtlmmdldjfpdcfaaGreatDoor
