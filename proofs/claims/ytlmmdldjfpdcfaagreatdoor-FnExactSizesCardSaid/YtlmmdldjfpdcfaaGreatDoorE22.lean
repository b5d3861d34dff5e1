/- The order of the large field, as bytes. The circuit of kind 5, as it is made. -/
import Derived.Test.YtlmmdldjfpdcfaaGreatDoorE02
import Derived.LoopN
import Derived.Laws.IdiomCopy
import Derived.Deep.MidRow
import Derived.Test.YtlmmdldjfpdcfaaGreatDoorE09
namespace Go.Proofs.YtlmmdldjfpdcfaaGreatDoor
open Go.RowKit

/-- The order's bytes, the highest first. -/
abbrev orderBytes : List Value := [.int .u8 255, .int .u8 255, .int .u8 255, .int .u8 255, .int .u8 255, .int .u8 255, .int .u8 255, .int .u8 228, .int .u8 0, .int .u8 0, .int .u8 0, .int .u8 0, .int .u8 0, .int .u8 0, .int .u8 0, .int .u8 1]

abbrev zeros16 : Array Value := #[.int .u8 0, .int .u8 0, .int .u8 0, .int .u8 0, .int .u8 0, .int .u8 0, .int .u8 0, .int .u8 0, .int .u8 0, .int .u8 0, .int .u8 0, .int .u8 0, .int .u8 0, .int .u8 0, .int .u8 0, .int .u8 0]

set_option maxRecDepth 100000 in
set_option maxHeartbeats 8000000 in
theorem put64s (b d : Nat) (hbd : b ≠ d) (w : World) (hz : ∀ i, i < 16 → w.cell? ⟨b, i, none⟩ = some (.int .u8 0)) (hf : ∀ i, w.frozen? ⟨b, i, none⟩ = false)
    (e0 : w.cell? ⟨d, 0, none⟩ = some (.int .u64 18446744073709551588)) (e1 : w.cell? ⟨d, 1, none⟩ = some (.int .u64 1)) :
    Calls Tryz.prog 124 #[.slice (some ⟨b, 0, none⟩) 16 16, .slice (some ⟨d, 0, none⟩) 2 2] w fun e w' => e = .returned (.tuple #[]) ∧ w' = w.setCells b 0 orderBytes := by
  have z0 := hz 0 (by omega); have z1 := hz 1 (by omega); have z2 := hz 2 (by omega); have z3 := hz 3 (by omega)
  have z4 := hz 4 (by omega); have z5 := hz 5 (by omega); have z6 := hz 6 (by omega); have z7 := hz 7 (by omega)
  have z8 := hz 8 (by omega); have z9 := hz 9 (by omega); have z10 := hz 10 (by omega); have z11 := hz 11 (by omega)
  have z12 := hz 12 (by omega); have z13 := hz 13 (by omega); have z14 := hz 14 (by omega); have z15 := hz 15 (by omega)
  clear hz
  go_enter Tryz.func124, Tryz.ntmps124
  go_wp2
  refine wp_loop_rounds 3 ?_
  rw [rounds_succ]
  go_wp2
  refine wp_loop_rounds 9 ?_
  iterate 9
    rw [rounds_succ]
    go_wp2
  rw [rounds_succ]
  go_wp2
  refine wp_loop_rounds 9 ?_
  iterate 9
    rw [rounds_succ]
    go_wp2
  rw [rounds_succ]
  go_wp2
  go_end0
  exact ⟨rfl, rfl⟩

theorem below_setCells {B b : Nat} {W : World} (hb : B ≤ b) : ∀ (vs : List Value) (o : Nat) (w : World), Below B W w → Below B W (w.setCells b o vs)
  | [], _, _, h => h
  | v :: r, o, _, h => below_setCells hb r (o + 1) _ (h.setCell (p := ⟨b, o, none⟩) hb v)

set_option maxRecDepth 100000 in
set_option maxHeartbeats 1000000 in
theorem order96 (x y : Value) (W : World) :
    Calls Tryz.prog 96 #[.agg #[x, y]] W fun e w' => ∃ b, W.heap.size ≤ b ∧ e = .returned (.slice (some ⟨b, 0, none⟩) 16 16) ∧ (∀ i v, orderBytes[i]? = some v → w'.cell? ⟨b, i, none⟩ = some v) ∧ Below W.heap.size W w' := by
  go_enter Tryz.func96, Tryz.ntmps96
  go_wp2_with (go_at_call 0)
  obtain ⟨w2, hw2⟩ : ∃ w2, w2 = W.alloc (.cells #[x, y] 86) := ⟨_, rfl⟩
  have hs2 : w2.heap.size = W.heap.size + 1 := by rw [hw2]; simp
  have hlow : Below W.heap.size W w2 := by rw [hw2]; exact (Below.refl _ _).alloc (Nat.le_refl _) _
  rw [← hw2, ← hs2]
  clear hw2
  have hblk : ((w2.alloc (.cells zeros16 261)).alloc (.cells #[.int .u64 18446744073709551588, .int .u64 1] 22)).heap[w2.heap.size]? = some (.cells zeros16 261 (0, 0)) := (heap_alloc_old _ _ (by simp)).trans (heap_alloc_new _ _)
  have hlow3 : Below W.heap.size W ((w2.alloc (.cells zeros16 261)).alloc (.cells #[.int .u64 18446744073709551588, .int .u64 1] 22)) := (hlow.alloc (by omega) _).alloc (by simp; omega) _
  have hg0 : ∀ i, i < 16 → zeros16[i]? = some (.int .u8 0) := fun i hi => by
    rw [show zeros16 = Array.replicate 16 (.int .u8 0) from rfl]; simp [hi]
  refine (put64s w2.heap.size (w2.heap.size + 1) (by omega) _ (fun i hi => ?_) (fun i => ?_) (by go_simp) (by go_simp)).mono ?_
  · rw [cell_of_row _ _ i _ 261 (0, 0) hblk]; exact hg0 i hi
  · exact frozen_of_row _ _ i _ 261 hblk
  rintro e w' ⟨rfl, hw'⟩
  have hcells : ∀ i v, orderBytes[i]? = some v → w'.cell? ⟨w2.heap.size, i, none⟩ = some v := fun i v h => by
    rw [hw']
    have := World.rangeAt_setCells_same _ w2.heap.size 0 orderBytes (fun j hj => ⟨by rw [Nat.zero_add, cell_of_row _ _ j _ 261 (0, 0) hblk, hg0 j hj]; rfl, frozen_of_row _ _ _ _ 261 hblk⟩) i v h
    rwa [Nat.zero_add] at this
  have hlow4 : Below W.heap.size W w' := by rw [hw']; exact below_setCells (by omega) _ _ _ hlow3
  clear hw' hblk hlow3 hg0
  go_wp2
  exact bodyPost_ret (results_tmp rfl _ _ _) rfl ⟨w2.heap.size, by omega, by rw [hs2]; rfl, hcells, hlow4⟩

set_option maxRecDepth 100000 in
set_option maxHeartbeats 8000000 in
theorem above (b x y : Nat) (hxy : x + y < 18446744073709551616) (w : World) (h : ∀ i v, orderBytes[i]? = some v → w.cell? ⟨b, i, none⟩ = some v) :
    Calls Tryz.prog 95 #[.slice (some ⟨b, 0, none⟩) 16 16, .int .u64 x, .int .u64 y] w fun e w' => e = .returned (.bool true) ∧ w' = w := by
  have z0 := h 0 _ rfl; have z1 := h 1 _ rfl; have z2 := h 2 _ rfl; have z3 := h 3 _ rfl
  have z4 := h 4 _ rfl; have z5 := h 5 _ rfl; have z6 := h 6 _ rfl; have z7 := h 7 _ rfl
  have z8 := h 8 _ rfl; have z9 := h 9 _ rfl; have z10 := h 10 _ rfl; have z11 := h 11 _ rfl
  have z12 := h 12 _ rfl; have z13 := h 13 _ rfl; have z14 := h 14 _ rfl; have z15 := h 15 _ rfl
  clear h
  have hlt : decide ((x : Int) + (y : Int) < (x : Int)) = false := by simp; omega
  go_enter Tryz.func95, Tryz.ntmps95
  go_wp2
  refine wp_loop_rounds 17 ?_
  iterate 17
    rw [rounds_succ]
    go_wp2
  all_goals exact bodyPost_ret (results_tmp rfl _ _ _) rfl ⟨rfl, rfl⟩
end Go.Proofs.YtlmmdldjfpdcfaaGreatDoor
namespace Go.Proofs.YtlmmdldjfpdcfaaGreatDoor
open Go.RowKit

abbrev fs5 (b n q L : Nat) (z0 z1 : Value) : Array Value := #[.func (.func 98) #[.pointer (some ⟨b, 0, none⟩)] #[], .int .u64 q, .int .u64 ((n + L + q - 1) / q : Nat), .int .u64 (n + L : Nat), .int .u64 ((n + L + q - 1) / q : Nat), .int .u64 2, .int .u64 n, .int .u64 L, .int .u64 q, .int .u64 n, z0, z1]

set_option maxRecDepth 100000 in
set_option maxHeartbeats 2000000 in
theorem flp5_ok (W : World) (n x q : Nat) (hn0 : 0 < n) (hn : n ≤ 16) (hxn : x ≤ n) (hq : 0 < q) (hq2 : q < 65536) :
    Calls Tryz.prog 73 #[.int .u64 n, .int .u64 x, .int .u64 q] W fun e w' => ∃ bf, W.heap.size ≤ bf ∧ e = .returned (.tuple #[.pointer (some ⟨bf, 0, none⟩), .nilIface]) ∧ (∃ z0 z1, w'.heap[bf]? = some (.cells (fs5 bf n q (Lib.bitLen x) z0 z1) 228 (0, 0))) ∧ Below W.heap.size W w' := by
  have t1 : ((n : Int) == 0) = false := by simp; omega
  have t2 : decide ((n : Int) < (x : Int)) = false := by simp; omega
  have t3 : ((q : Int) == 0) = false := by simp; omega
  have hb := bits63 x (by omega)
  have hx := bits_lt x (by omega)
  go_enter Tryz.func73, Tryz.ntmps73
  go_wp2_with (first | (go_at_call 51; go_loud (refine (len64_any x (by omega) _).mono ?_; rintro e w1 ⟨L, rfl, hw1, hL, HL⟩; have hlow : Below W.heap.size W w1 := (by rw [hw1]; exact Below.refl _ _); clear hw1; have hL' := HL.out; rw [hL'] at hb hx)) | (go_at_call 96; go_loud (rw [offset_eq L x hb hx]; refine (order96 _ _ _).mono ?_; rintro e w2 ⟨ob, hob, rfl, hcs, hb2⟩; have hlow : Below W.heap.size W w2 := (hlow.alloc (by have := hlow.size; omega) _).trans (hb2.mono (by have := hlow.size; simp; omega)); clear hb2)) | (go_at_call 95; go_loud (refine (above ob (2 ^ L - 1 - x) n (by have := pow63 L hb; omega) _ hcs).mono ?_; rintro e w3 ⟨rfl, hw3⟩; have hlow : Below W.heap.size W w3 := (by rw [hw3]; exact hlow); clear hw3)))
  refine (set128_any _ 10 (2 ^ L - 1 - x) (by have := pow63 L hb; omega) _ (.int .u64 0) (.int .u64 0) (by go_simp) (by go_simp) (by go_simp) (by go_simp)).mono ?_
  rintro e w4 ⟨rfl, z0, z1, hw1⟩
  have hblk := (hw1.block w3.heap.size (by simp)).trans (heap_setCell_same _ w3.heap.size 11 _ 228 (.int .u64 z1) (heap_setCell_same _ w3.heap.size 10 _ 228 (.int .u64 z0) (heap_alloc_new w3 _)))
  have hle := hlow.size
  generalize hN : w3.heap.size = N at *
  have c0 : w4.cell? ⟨N, 0, none⟩ = some (.nilFunc) := by rw [cell_of_row w4 N 0 _ 228 (0, 0) hblk]; rfl
  have c1 : w4.cell? ⟨N, 1, none⟩ = some (.int .u64 0) := by rw [cell_of_row w4 N 1 _ 228 (0, 0) hblk]; rfl
  have c2 : w4.cell? ⟨N, 2, none⟩ = some (.int .u64 0) := by rw [cell_of_row w4 N 2 _ 228 (0, 0) hblk]; rfl
  have c3 : w4.cell? ⟨N, 3, none⟩ = some (.int .u64 0) := by rw [cell_of_row w4 N 3 _ 228 (0, 0) hblk]; rfl
  have c4 : w4.cell? ⟨N, 4, none⟩ = some (.int .u64 0) := by rw [cell_of_row w4 N 4 _ 228 (0, 0) hblk]; rfl
  have c5 : w4.cell? ⟨N, 5, none⟩ = some (.int .u64 0) := by rw [cell_of_row w4 N 5 _ 228 (0, 0) hblk]; rfl
  have c6 : w4.cell? ⟨N, 6, none⟩ = some (.int .u64 0) := by rw [cell_of_row w4 N 6 _ 228 (0, 0) hblk]; rfl
  have cf : ∀ i, w4.frozen? ⟨N, i, none⟩ = false := fun i => frozen_of_row w4 N i _ 228 hblk
  have hq' := ceil_cast (n + L) q hq
  have HB := Lib.hid hblk
  have HW := Lib.hid hw1
  have HX := Lib.hid hx
  have HQ := Lib.hid hq'
  clear hblk hw1 hx hL' hq' hcs hob
  go_wp2
  refine bodyPost_ret (results_tmp2 rfl _ _ _) rfl ⟨N, hle, rfl, ⟨.int .u64 z0, .int .u64 z1, ?_⟩, ?_⟩
  · refine Eq.trans (heap_setCell_same _ N 0 _ 228 _ (heap_setCell_same _ N 2 _ 228 _ (heap_setCell_same _ N 1 _ 228 _ (heap_setCell_same _ N 5 _ 228 _ (heap_setCell_same _ N 6 _ 228 _ (heap_setCell_same _ N 4 _ 228 _ (heap_setCell_same _ N 3 _ 228 _ HB.out))))))) ?_
    have e1 := HQ.out
    rw [Int.natCast_add] at e1
    simp [fs5, HL.out, e1]
  · iterate 7 (refine Below.setCell ?_ (show W.heap.size ≤ N from hle) _)
    exact (((hlow.alloc (by omega) _).setCell (show W.heap.size ≤ N from hle) _).setCell (show W.heap.size ≤ N from hle) _).trans (HW.out.mono (by simp; omega))
end Go.Proofs.YtlmmdldjfpdcfaaGreatDoor
