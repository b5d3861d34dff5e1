/- The circuit of kind 2, as it is made. A machine of kind 2, of its circuit. A machine of kind 2 has two shares at least. New of the package of kind 2. New of the package of kind 1, where there is no such machine. -/
import Derived.Test.YtlmmdldjfpdcfaaGreatDoorE08
import Derived.Test.YtlmmdldjfpdcfaaGreatDoorE01
import Derived.Lib.ItoaNum
import Derived.Test.YtlmmdldjfpdcfaaGreatDoorE06
import Derived.Test.YtlmmdldjfpdcfaaGreatDoorE07
import Derived.Test.YtlmmdldjfpdcfaaGreatDoorE03
import Derived.BigQuiet
namespace Go.Proofs.YtlmmdldjfpdcfaaGreatDoor
open Go.RowKit

set_option maxRecDepth 100000 in
set_option maxHeartbeats 1000000 in
theorem flp2_bad (w : World) (x : Nat) (h : 9223372036854775808 ≤ x) (t4 : TypeId) (v4 : Value) (g4 : w.cell? ⟨4, 0, none⟩ = some (.iface t4 v4)) :
    Calls Tryz.prog 59 #[.int .u64 x] w fun e w' => (∃ t v, e = .returned (.tuple #[.pointer none, .iface t v])) ∧ Below w.heap.size w w' := by
  have t : decide ((9223372036854775808 : Int) ≤ (x : Int)) = true := by simp; omega
  clear h
  go_enter Tryz.func59, Tryz.ntmps59
  go_wp2
  go_quiet (fail)
  go_wp2
  exact bodyPost_ret (results_tmp2 rfl _ _ _) rfl ⟨⟨_, _, rfl⟩, below_drewN (Below.refl _ _) _⟩

/-- How many bits a number has. -/
theorem len64_any (x : Nat) (h : x < 18446744073709551616) (w : World) :
    Calls Tryz.prog 51 #[.int .u64 x] w fun e w' => ∃ L : Nat, e = .returned (.int .i64 L) ∧ w' = w ∧ L ≤ 64 ∧ Hid (Lib.bitLen x = L) := by
  refine (Tryz.bits_Len64 x w (by omega) (by omega)).mono ?_
  rintro e w' ⟨he, hw⟩
  exact ⟨Lib.bitLen x, he, hw, Any.bitLen_le64 x (by omega) (by omega), Lib.hid rfl⟩

theorem wrap64 (n : Int) (h0 : 0 ≤ n) (h1 : n < 18446744073709551616) : IntKind.u64.wrap n = n := by
  simp [IntKind.wrap, IntKind.bits, IntKind.signed]; omega

theorem pow63 (L : Nat) (hL : L < 64) : 2 ^ L ≤ 9223372036854775808 :=
  Nat.le_trans (Nat.pow_le_pow_right (n := 2) (by omega) (show L ≤ 63 by omega)) (by decide)

theorem offset_eq (L x : Nat) (hL : L < 64) (hx : x < 2 ^ L) : IntKind.u64.wrap (IntKind.u64.wrap (IntKind.u64.wrap (2 ^ L) - 1) - (x : Int)) = ((2 ^ L - 1 - x : Nat) : Int) := by
  have h1 := pow63 L hL
  have e : (2 : Int) ^ L = ((2 ^ L : Nat) : Int) := by simp
  rw [e]
  generalize 2 ^ L = m at *
  rw [wrap64 (m : Int) (by omega) (by omega), wrap64 ((m : Int) - 1) (by omega) (by omega), wrap64 _ (by omega) (by omega)]
  omega

theorem bits63 (x : Nat) (h : x < 9223372036854775808) : Lib.bitLen x < 64 := by
  have := Lib.bitLen_le x 63 (by omega) (by omega)
  omega

theorem bits_lt (x : Nat) (h : x < 18446744073709551616) : x < 2 ^ Lib.bitLen x := by
  by_cases h0 : x = 0
  · subst h0; decide
  · exact (Lib.bitLenAux_bounds 64 x (by omega) h0).2.2

abbrev fs2 (b x L : Nat) (z : Value) : Array Value := #[.func (.func 87) #[.pointer (some ⟨b, 0, none⟩)] #[], .int .u64 (2 * L : Nat), .int .u64 (2 * L : Nat), .int .u64 0, .int .u64 (2 * L + 1 : Nat), .int .u64 1, .int .u64 L, .int .u64 x, z]

set_option maxRecDepth 100000 in
set_option maxHeartbeats 1000000 in
theorem flp2_ok (w : World) (x : Nat) (h : x < 9223372036854775808) :
    Calls Tryz.prog 59 #[.int .u64 x] w fun e w' => e = .returned (.tuple #[.pointer (some ⟨w.heap.size, 0, none⟩), .nilIface]) ∧ (∃ z, w'.heap[w.heap.size]? = some (.cells (fs2 w.heap.size x (Lib.bitLen x) z) 203 (0, 0))) ∧ Below w.heap.size w w' := by
  have t : decide ((9223372036854775808 : Int) ≤ (x : Int)) = false := by simp; omega
  go_enter Tryz.func59, Tryz.ntmps59
  have hb := bits63 x h
  have hx := bits_lt x (by omega)
  go_wp2_with (first | (go_at_call 51; refine (len64_any x (by omega) _).mono ?_; rintro e w' ⟨L, rfl, rfl, hL, HL⟩))
  have hL' := HL.out
  rw [hL'] at hb hx
  rw [offset_eq L x hb hx]
  refine (set64_any _ 8 (2 ^ L - 1 - x) (by have := pow63 L hb; omega) _ (.int .u64 0) (by go_simp) (by go_simp)).mono ?_
  rintro e w1 ⟨rfl, z, hw1⟩
  have hblk := (hw1.block w'.heap.size (by simp)).trans (heap_setCell_same _ w'.heap.size 8 _ 203 (.int .u64 z) (heap_alloc_new w' _))
  generalize hN : w'.heap.size = N at *
  have hB := hw1
  have c0 : w1.cell? ⟨N, 0, none⟩ = some .nilFunc := by rw [cell_of_row w1 N 0 _ 203 (0, 0) hblk]; rfl
  have c1 : w1.cell? ⟨N, 1, none⟩ = some (.int .u64 0) := by rw [cell_of_row w1 N 1 _ 203 (0, 0) hblk]; rfl
  have c2 : w1.cell? ⟨N, 2, none⟩ = some (.int .u64 0) := by rw [cell_of_row w1 N 2 _ 203 (0, 0) hblk]; rfl
  have c3 : w1.cell? ⟨N, 3, none⟩ = some (.int .u64 0) := by rw [cell_of_row w1 N 3 _ 203 (0, 0) hblk]; rfl
  have c4 : w1.cell? ⟨N, 4, none⟩ = some (.int .u64 0) := by rw [cell_of_row w1 N 4 _ 203 (0, 0) hblk]; rfl
  have c5 : w1.cell? ⟨N, 5, none⟩ = some (.int .u64 0) := by rw [cell_of_row w1 N 5 _ 203 (0, 0) hblk]; rfl
  have cf : ∀ i, w1.frozen? ⟨N, i, none⟩ = false := fun i => frozen_of_row w1 N i _ 203 hblk
  have hpa : ∀ p q r s, (partAt ⟨N, 1, none⟩ 0 0).run Tryz.prog ((((w1.setCell ⟨N, 2, none⟩ p).setCell ⟨N, 3, none⟩ q).setCell ⟨N, 5, none⟩ r).setCell ⟨N, 4, none⟩ s) = .ok ⟨N, 1, none⟩ ((((w1.setCell ⟨N, 2, none⟩ p).setCell ⟨N, 3, none⟩ q).setCell ⟨N, 5, none⟩ r).setCell ⟨N, 4, none⟩ s) :=
    fun p q r s => partAt_here (heap_setCell_same _ N 4 _ 203 _ (heap_setCell_same _ N 5 _ 203 _ (heap_setCell_same _ N 3 _ 203 _ (heap_setCell_same _ N 2 _ 203 _ hblk)))) cells203 byte203
  have HB := Lib.hid hblk
  have HW := Lib.hid hw1
  have HX := Lib.hid hx
  clear hblk hw1 hB hx hL'
  go_wp2
  refine bodyPost_ret (results_tmp2 rfl _ _ _) rfl ?_
  rw [hN]
  refine ⟨rfl, ⟨.int .u64 z, ?_⟩, ?_⟩
  · refine Eq.trans (heap_setCell_same _ N 0 _ 203 _ (heap_setCell_same _ N 1 _ 203 _ (heap_setCell_same _ N 4 _ 203 _ (heap_setCell_same _ N 5 _ 203 _ (heap_setCell_same _ N 3 _ 203 _ (heap_setCell_same _ N 2 _ 203 _ HB.out)))))) ?_
    simp [fs2, HL.out]
  · iterate 6 (refine Below.setCell ?_ (show N ≤ N from Nat.le_refl N) _)
    exact (((Below.refl N w').alloc (by omega) _).setCell (show N ≤ N from Nat.le_refl N) _).trans (HW.out.mono (by simp; omega))
end Go.Proofs.YtlmmdldjfpdcfaaGreatDoor
namespace Go.Proofs.YtlmmdldjfpdcfaaGreatDoor
open Go.RowKit

set_option maxRecDepth 100000 in
set_option maxHeartbeats 4000000 in
theorem new2_ok (b2 id s n m j c o : Nat) (ctx : Value) (fs : Array Value) (hn : n ≤ 4096) (hs : 2 ≤ s) (hs2 : s ≤ 255) (hj : j = 0) (W : World) (hctx : CtxAt W ctx n) (hf : W.heap[b2]? = some (.cells fs 203 (0, 0)))
    (fm : fs[2]? = some (.int .u64 m)) (fj : fs[3]? = some (.int .u64 j)) (fc : fs[4]? = some (.int .u64 c)) (fo : fs[5]? = some (.int .u64 o)) :
    Calls Tryz.prog 60 #[.pointer (some ⟨b2, 0, none⟩), .int .u32 id, .int .u8 s, ctx] W fun e w' => (∃ vs : Array Value, Mach b2 (32 * s : Nat) s vs ∧ e = .returned (.tuple #[.agg vs, .nilIface])) ∧ Below W.heap.size W w' := by
  have hb2 := lt_of_block hf
  have hm1 := (fun wx (hb : Below W.heap.size W wx) => meth2_joint b2 wx _ _ _ _ ((cell_of_row wx b2 2 fs 203 (0, 0) ((hb.block b2 hb2).trans hf)).trans fm) ((cell_of_row wx b2 3 fs 203 (0, 0) ((hb.block b2 hb2).trans hf)).trans fj) ((cell_of_row wx b2 4 fs 203 (0, 0) ((hb.block b2 hb2).trans hf)).trans fc) ((cell_of_row wx b2 5 fs 203 (0, 0) ((hb.block b2 hb2).trans hf)).trans fo))
  have tj : decide ((0 : Int) < (j : Int)) = false := by simp; omega
  have tj2 : decide (0 < j) = false := by simp; omega
  clear hj
  go_enter Tryz.func60, Tryz.ntmps60
  go_wp2_with (first | (refine new_big 135 205 zok135 rfl rfl ?_; intro w1 hw1; have hB := Blk.new zok135 W; rw [← hw1] at hB; clear hw1; have cf := hB.frozen; obtain ⟨v0, c0⟩ := hB.cell 0 (by omega)) | (go_at_call 81; go_loud (refine (xof81_any id n ctx hn _ (hctx.low (hB.set 0 _ rfl).low)).mono ?_; rintro e w2 ⟨⟨xs, hx1, hx2, rfl⟩, hbb⟩; have k0 := (hbb.cell (show _ < _ by simpa using hB.lt)).trans (hB.cellSet 0 (.pointer (some ⟨b2, 0, none⟩)) (by omega)); have hB := (hB.set 0 _ rfl).below hbb)) | (refine store_part 116 _ _ hB xs rfl rfl rfl rfl size116 hx1 (by omega) hx2 ?_; go_loud (intro w3 hw3; have k0 : w3.cell? ⟨W.heap.size, 0, none⟩ = some (.pointer (some ⟨b2, 0, none⟩)) := (by rw [hw3, World.cell?_setCells_out _ _ _ _ _ (by simp)]; exact k0); have hB := hB.setCells xs.toList 1 _ (fun v hv => Array.all_eq_true_iff_forall_mem.1 hx2 v (by simpa using hv)); rw [← hw3] at hB; clear hw3; have cf := hB.frozen; obtain ⟨v203, c203⟩ := hB.cell 203 (by omega); obtain ⟨v204, c204⟩ := hB.cell 204 (by omega); have m1 : ∀ a b, (method 488 131 (.pointer (some ⟨b2, 0, none⟩)) "JointRandLength").run Tryz.prog ((w3.setCell ⟨W.heap.size, 204, none⟩ a).setCell ⟨W.heap.size, 203, none⟩ b) = .ok (217, .agg (par4 m j c o)) ((w3.setCell ⟨W.heap.size, 204, none⟩ a).setCell ⟨W.heap.size, 203, none⟩ b) := fun a b => hm1 _ ((hB.low.setCell (p := ⟨W.heap.size, 204, none⟩) (Nat.le_refl _) a).setCell (p := ⟨W.heap.size, 203, none⟩) (Nat.le_refl _) b))) | (go_at_call 217; go_loud (refine (par_joint m j c o _).mono ?_; rintro e w4 ⟨rfl, hbb⟩; obtain ⟨hB, k0, k203, k204⟩ := hB.two (.int .u8 s) (.int .u64 (32 * s)) _ rfl rfl k0 hbb; have cf := hB.frozen)) | (refine load_blk 135 _ hB rfl rfl rfl _ Tryz.underlying135 rfl size135 ?_; intro cs hc1 hc2 hc3) | (refine store_blk 135 _ _ hB cs rfl rfl rfl rfl size135 hc1 hc2 ?_; have hB2 := hB.setRow cs hc1 hc2; have hrow := setRow_heap _ W.heap.size _ cs 135 _ hc3))
  refine bodyPost_ret (v := .tuple #[.agg cs, .nilIface]) ?_ rfl ⟨⟨cs, Blk.mach hc1 hc2 hc3 k0 (by simpa using k203) k204, rfl⟩, hB2.low⟩
  rw [results_cell_tmp rfl]
  have hl := run_loadVar_row (P := Tryz.prog) _ W.heap.size 135 135 cs (0, 0) _ hrow Tryz.underlying135 rfl (by rw [hc1]; exact size135)
  simp [asAddr, hl]
end Go.Proofs.YtlmmdldjfpdcfaaGreatDoor
namespace Go.Proofs.YtlmmdldjfpdcfaaGreatDoor
open Go.RowKit

/-- The new block as it was made, and the variable that says what is wrong. -/
structure Few2 (W : World) (cs : Array Value) (t : TypeId) (v : Value) (w : World) : Prop where
  b : w.heap[W.heap.size]? = some (.cells cs 135 (0, 0))
  g : w.cell? ⟨2, 0, none⟩ = some (.iface t v)
  u : Below W.heap.size W w

set_option maxRecDepth 100000 in
set_option maxHeartbeats 1000000 in
theorem new2_bad (p ctx : Value) (id s : Nat) (hs : s < 2) (W : World) (t2 : TypeId) (v2 : Value) (g2 : W.cell? ⟨2, 0, none⟩ = some (.iface t2 v2)) :
    Calls Tryz.prog 60 #[p, .int .u32 id, .int .u8 s, ctx] W fun e w' => (∃ (cs : Array Value) (t : TypeId) (v : Value), cs.size = 205 ∧ cs.all (·.oneCell') = true ∧ e = .returned (.tuple #[.agg cs, .iface t v])) ∧ Below W.heap.size W w' := by
  obtain ⟨cs, hcs, hsz, hone⟩ : ∃ cs : Array Value, cs = (zOf 135).cells ∧ cs.size = 205 ∧ cs.all (·.oneCell') = true := ⟨_, rfl, zok135.size, zok135.one⟩
  have hF : Few2 W cs t2 v2 (W.alloc (.cells cs 135)) := ⟨heap_alloc_new _ _, (Below.cell ((Below.refl W.heap.size W).alloc (Nat.le_refl _) _) (World.block_lt_of_cell? W _ g2)).trans g2, (Below.refl _ _).alloc (Nat.le_refl _) _⟩
  go_enter Tryz.func60, Tryz.ntmps60
  go_wp2_with (first | (refine new_big 135 205 zok135 rfl rfl ?_; intro w1 hw1; rw [← hcs] at hw1; rw [← hw1] at hF; clear hw1 hcs))
  refine wp_region_steady (Few2 W cs t2 v2) 4 42 rfl (by kernel_rfl) rfl ⟨hF.b, hF.g, hF.u.drew⟩ ?_
  simp only [List.take_succ_cons, List.take_zero, List.drop_succ_cons, List.drop_zero]
  apply Steady.cons
  · intro wx hS
    exact wpList_load_row rfl 135 _ rfl W.heap.size rfl 135 cs (0, 0) _ hS.b Tryz.underlying135 rfl (by rw [hsz]; exact size135) ⟨rfl, rfl, rfl, hS⟩
  apply Steady.cons
  · intro wx hS
    have hg := hS.g
    go_wp2
    exact ⟨rfl, rfl, rfl, hS⟩
  apply Steady.cons
  · intro wx hS
    refine wpList_store_row rfl 135 _ _ rfl W.heap.size cs rfl rfl 135 _ hS.b (by rw [hsz]; exact size135) rfl hone ⟨rfl, rfl, rfl, ?_⟩
    exact ⟨setRow_heap _ _ _ _ _ _ hS.b, (cell_setRow_other _ _ _ _ (by have := World.block_lt_of_cell? W _ g2; simp at this ⊢; omega)).trans hS.g, below_setRow hS.u _⟩
  apply Steady.cons
  · intro wx hS
    go_wp2
    exact ⟨rfl, rfl, rfl, hS⟩
  intro wx hS
  go_wp2
  refine bodyPost_ret (v := .tuple #[.agg cs, .iface t2 v2]) ?_ rfl ⟨⟨_, _, _, hsz, hone, rfl⟩, hS.u⟩
  rw [results_cell_tmp rfl]
  have hl := run_loadVar_row (P := Tryz.prog) _ W.heap.size 135 135 cs (0, 0) _ hS.b Tryz.underlying135 rfl (by rw [hsz]; exact size135)
  simp [asAddr, hl]
end Go.Proofs.YtlmmdldjfpdcfaaGreatDoor
namespace Go.Proofs.YtlmmdldjfpdcfaaGreatDoor
open Go.RowKit

set_option maxRecDepth 100000 in
set_option maxHeartbeats 1000000 in
theorem pkg2_ok (s n : Nat) (x : Nat) (ctx : Value) (hn : n ≤ 4096) (hs : 2 ≤ s) (hs2 : s ≤ 255) (hx : x < 9223372036854775808) (W : World) (hctx : CtxAt W ctx n) :
    Calls Tryz.prog 34 #[.int .u8 s, .int .u64 x, ctx] W fun e w' => ∃ b1, e = .returned (.tuple #[.pointer (some ⟨b1, 0, none⟩), .nilIface]) ∧ IsMach 137 203 b1 (32 * s) s (fun fs => ∃ b z, fs = fs2 b x (Lib.bitLen x) z) w' ∧ Below W.heap.size W w' := by
  go_enter Tryz.func34, Tryz.ntmps34
  go_wp2_with (first | (go_at_call 59; go_loud (refine (flp2_ok _ x hx).mono ?_; rintro e w2 ⟨rfl, ⟨z, hfl⟩, hlow⟩; obtain ⟨bf, hbf⟩ : ∃ bf, bf = W.heap.size := ⟨_, rfl⟩; obtain ⟨L, hL⟩ : ∃ L, L = Lib.bitLen x := ⟨_, rfl⟩; obtain ⟨fs, hfs⟩ : ∃ fs, fs = fs2 bf x L z := ⟨_, rfl⟩; rw [← hbf, ← hL, ← hfs] at hfl; rw [← hbf]; have fm : fs[2]? = some (.int .u64 ((2 * L) : Nat)) := (by rw [hfs]; rfl); have fj : fs[3]? = some (.int .u64 (0 : Nat)) := (by rw [hfs]; rfl); have fc : fs[4]? = some (.int .u64 ((2 * L + 1) : Nat)) := (by rw [hfs]; rfl); have fo : fs[5]? = some (.int .u64 (1 : Nat)) := (by rw [hfs]; rfl); skip; have HF := Lib.hid hfs; have HW := Lib.hid hbf; clear hfs hbf; have HL := Lib.hid hL; clear hL)) | (refine new_big 137 205 zok137 rfl rfl ?_; intro w1 hw1; have hne : bf ≠ w2.heap.size := (by have := lt_of_block hfl; omega); have hB := Blk.new zok137 w2; have hfl := (Below.heap_alloc w2 (.cells (zOf 137).cells 137) _ (lt_of_block hfl)).trans hfl; rw [← hw1] at hB hfl; clear hw1) | (go_at_call 60; go_loud (refine (new2_ok bf 2 s n (2 * L) 0 (2 * L + 1) 1 ctx fs hn hs hs2 rfl _ ((hctx.low hlow).low hB.low) hfl fm fj fc fo).mono ?_; rintro e w3 ⟨⟨vs, hm, rfl⟩, hb3⟩; have hfl := (hb3.block _ (lt_of_block hfl)).trans hfl; have hB := hB.below hb3)) | (refine store_part 135 _ _ hB vs rfl rfl rfl rfl size135 hm.size (by omega) hm.one ?_; intro w4 hw4; go_loud (have hM := hB.setMach hm; rw [← hw4] at hM; have hfl : w4.heap[bf]? = some (.cells fs 203 (0, 0)) := (by rw [hw4]; exact (setCells_other _ _ hne _ _ _).trans hfl); have hB := hB.setCells vs.toList 0 _ (fun v hv => Array.all_eq_true_iff_forall_mem.1 hm.one v (by simpa using hv)); rw [← hw4] at hB; clear hw4)))
  exact bodyPost_ret (results_tmp2 rfl _ _ _) rfl ⟨w2.heap.size, rfl, ⟨vs, bf, fs, hM, hm, hfl, ⟨bf, z, by rw [HF.out, HL.out]⟩⟩, hlow.trans (hB.low.mono hlow.size)⟩
end Go.Proofs.YtlmmdldjfpdcfaaGreatDoor
namespace Go.Proofs.YtlmmdldjfpdcfaaGreatDoor
open Go.RowKit

set_option maxRecDepth 100000 in
set_option maxHeartbeats 1000000 in
theorem pkg1_few (s : Nat) (ctx : Value) (hs : s < 2) (W : World) (t2 : TypeId) (v2 : Value) (g2 : W.cell? ⟨2, 0, none⟩ = some (.iface t2 v2)) :
    Calls Tryz.prog 29 #[.int .u8 s, ctx] W fun e w' => (∃ t v, e = .returned (.tuple #[.pointer none, .iface t v])) ∧ Below W.heap.size W w' := by
  go_enter Tryz.func29, Tryz.ntmps29
  go_wp2_with (first | (refine new_big 120 205 zok120 rfl rfl ?_; intro w1 hw1; have hB := Blk.new zok120 W; rw [← hw1] at hB; clear hw1) | (go_at_call 54; go_loud (refine (flp1 _).mono ?_; rintro e w2 ⟨rfl, hw2⟩; have hlow : Below w1.heap.size w1 w2 := (by rw [hw2]; exact (Below.refl _ _).alloc (Nat.le_refl _) _); have hB := hB.below hlow; clear hw2)) | (go_at_call 53; go_loud (refine (new1_bad _ ctx 1 s hs _ t2 v2 ((hB.low.cell (World.block_lt_of_cell? W _ g2)).trans g2)).mono ?_; rintro e w3 ⟨⟨cs, t, v, hc1, hc2, rfl⟩, hb3⟩; have hB := hB.below hb3)) | (refine store_part 118 _ _ hB cs rfl rfl rfl rfl size118 hc1 (by omega) hc2 ?_; intro w4 hw4; go_loud (have hB := hB.setCells cs.toList 0 _ (fun v hv => Array.all_eq_true_iff_forall_mem.1 hc2 v (by simpa using hv)); rw [← hw4] at hB; clear hw4)))
  exact bodyPost_ret (results_tmp2 rfl _ _ _) rfl ⟨⟨_, _, rfl⟩, hB.low⟩
end Go.Proofs.YtlmmdldjfpdcfaaGreatDoor
