/- A machine of kind 4, of its circuit. A machine of kind 4 has two shares at least. New of the package of kind 4. -/
import Derived.Test.YtlmmdldjfpdcfaaGreatDoorE06
import Derived.Test.YtlmmdldjfpdcfaaGreatDoorE03
import Derived.Test.YtlmmdldjfpdcfaaGreatDoorE07
namespace Go.Proofs.YtlmmdldjfpdcfaaGreatDoor
open Go.RowKit

set_option maxRecDepth 100000 in
set_option maxHeartbeats 4000000 in
theorem new4_ok (b2 id s n m j c o : Nat) (ctx : Value) (fs : Array Value) (hn : n ≤ 4096) (hs : 2 ≤ s) (hs2 : s ≤ 255) (hj : 0 < j) (W : World) (hctx : CtxAt W ctx n) (hf : W.heap[b2]? = some (.cells fs 223 (0, 0)))
    (fm : fs[3]? = some (.int .u64 m)) (fj : fs[4]? = some (.int .u64 j)) (fc : fs[5]? = some (.int .u64 c)) (fo : fs[6]? = some (.int .u64 o)) :
    Calls Tryz.prog 69 #[.pointer (some ⟨b2, 0, none⟩), .int .u32 id, .int .u8 s, ctx] W fun e w' => (∃ vs : Array Value, Mach b2 (64 * s : Nat) s vs ∧ e = .returned (.tuple #[.agg vs, .nilIface])) ∧ Below W.heap.size W w' := by
  have hb2 := lt_of_block hf
  have hm1 := (fun wx (hb : Below W.heap.size W wx) => meth4_joint b2 wx _ _ _ _ ((cell_of_row wx b2 3 fs 223 (0, 0) ((hb.block b2 hb2).trans hf)).trans fm) ((cell_of_row wx b2 4 fs 223 (0, 0) ((hb.block b2 hb2).trans hf)).trans fj) ((cell_of_row wx b2 5 fs 223 (0, 0) ((hb.block b2 hb2).trans hf)).trans fc) ((cell_of_row wx b2 6 fs 223 (0, 0) ((hb.block b2 hb2).trans hf)).trans fo))
  have tj : decide ((0 : Int) < (j : Int)) = true := by simp; omega
  go_enter Tryz.func69, Tryz.ntmps69
  go_wp2_with (first | (refine new_big 157 205 zok157 rfl rfl ?_; intro w1 hw1; have hB := Blk.new zok157 W; rw [← hw1] at hB; clear hw1; have cf := hB.frozen; obtain ⟨v0, c0⟩ := hB.cell 0 (by omega)) | (go_at_call 90; go_loud (refine (xof90_any id n ctx hn _ (hctx.low (hB.set 0 _ rfl).low)).mono ?_; rintro e w2 ⟨⟨xs, hx1, hx2, rfl⟩, hbb⟩; have k0 := (hbb.cell (show _ < _ by simpa using hB.lt)).trans (hB.cellSet 0 (.pointer (some ⟨b2, 0, none⟩)) (by omega)); have hB := (hB.set 0 _ rfl).below hbb)) | (refine store_part 143 _ _ hB xs rfl rfl rfl rfl size143 hx1 (by omega) hx2 ?_; go_loud (intro w3 hw3; have k0 : w3.cell? ⟨W.heap.size, 0, none⟩ = some (.pointer (some ⟨b2, 0, none⟩)) := (by rw [hw3, World.cell?_setCells_out _ _ _ _ _ (by simp)]; exact k0); have hB := hB.setCells xs.toList 1 _ (fun v hv => Array.all_eq_true_iff_forall_mem.1 hx2 v (by simpa using hv)); rw [← hw3] at hB; clear hw3; have cf := hB.frozen; obtain ⟨v203, c203⟩ := hB.cell 203 (by omega); obtain ⟨v204, c204⟩ := hB.cell 204 (by omega); have m1 : ∀ a b, (method 488 155 (.pointer (some ⟨b2, 0, none⟩)) "JointRandLength").run Tryz.prog ((w3.setCell ⟨W.heap.size, 204, none⟩ a).setCell ⟨W.heap.size, 203, none⟩ b) = .ok (217, .agg (par4 m j c o)) ((w3.setCell ⟨W.heap.size, 204, none⟩ a).setCell ⟨W.heap.size, 203, none⟩ b) := fun a b => hm1 _ ((hB.low.setCell (p := ⟨W.heap.size, 204, none⟩) (Nat.le_refl _) a).setCell (p := ⟨W.heap.size, 203, none⟩) (Nat.le_refl _) b))) | (go_at_call 217; go_loud (refine (par_joint m j c o _).mono ?_; rintro e w4 ⟨rfl, hbb⟩; obtain ⟨hB, k0, k203, k204⟩ := hB.two (.int .u8 s) (.int .u64 (32 * s)) _ rfl rfl k0 hbb; have cf := hB.frozen)) | (refine load_blk 157 _ (hB.set 203 (.int .u64 (32 * s * 2)) rfl) rfl rfl rfl _ Tryz.underlying157 rfl size157 ?_; intro cs hc1 hc2 hc3) | (refine store_blk 157 _ _ (hB.set 203 (.int .u64 (32 * s * 2)) rfl) cs rfl rfl rfl rfl size157 hc1 hc2 ?_; have hB2 := (hB.set 203 (.int .u64 (32 * s * 2)) rfl).setRow cs hc1 hc2; have hrow := setRow_heap _ W.heap.size _ cs 157 _ hc3))
  have q0 : (w4.setCell ⟨W.heap.size, 203, none⟩ (.int .u64 (32 * s * 2))).cell? ⟨W.heap.size, 0, none⟩ = some (.pointer (some ⟨b2, 0, none⟩)) := (World.cell?_setCell_other _ _ _ _ (by simp)).trans k0
  have q203 : (w4.setCell ⟨W.heap.size, 203, none⟩ (.int .u64 (32 * s * 2))).cell? ⟨W.heap.size, 203, none⟩ = some (.int .u64 (64 * s : Nat)) := (hB.cellSet 203 _ (by omega)).trans (by congr 2; omega)
  have q204 : (w4.setCell ⟨W.heap.size, 203, none⟩ (.int .u64 (32 * s * 2))).cell? ⟨W.heap.size, 204, none⟩ = some (.int .u8 s) := (World.cell?_setCell_other _ _ _ _ (by simp)).trans k204
  refine bodyPost_ret (v := .tuple #[.agg cs, .nilIface]) ?_ rfl ⟨⟨cs, Blk.mach hc1 hc2 hc3 q0 q203 q204, rfl⟩, hB2.low⟩
  rw [results_cell_tmp rfl]
  have hl := run_loadVar_row (P := Tryz.prog) _ W.heap.size 157 157 cs (0, 0) _ hrow Tryz.underlying157 rfl (by rw [hc1]; exact size157)
  simp [asAddr, hl]
end Go.Proofs.YtlmmdldjfpdcfaaGreatDoor
namespace Go.Proofs.YtlmmdldjfpdcfaaGreatDoor
open Go.RowKit

/-- The new block as it was made, and the variable that says what is wrong. -/
structure Few4 (W : World) (cs : Array Value) (t : TypeId) (v : Value) (w : World) : Prop where
  b : w.heap[W.heap.size]? = some (.cells cs 157 (0, 0))
  g : w.cell? ⟨2, 0, none⟩ = some (.iface t v)
  u : Below W.heap.size W w

set_option maxRecDepth 100000 in
set_option maxHeartbeats 1000000 in
theorem new4_bad (p ctx : Value) (id s : Nat) (hs : s < 2) (W : World) (t2 : TypeId) (v2 : Value) (g2 : W.cell? ⟨2, 0, none⟩ = some (.iface t2 v2)) :
    Calls Tryz.prog 69 #[p, .int .u32 id, .int .u8 s, ctx] W fun e w' => (∃ (cs : Array Value) (t : TypeId) (v : Value), cs.size = 205 ∧ cs.all (·.oneCell') = true ∧ e = .returned (.tuple #[.agg cs, .iface t v])) ∧ Below W.heap.size W w' := by
  obtain ⟨cs, hcs, hsz, hone⟩ : ∃ cs : Array Value, cs = (zOf 157).cells ∧ cs.size = 205 ∧ cs.all (·.oneCell') = true := ⟨_, rfl, zok157.size, zok157.one⟩
  have hF : Few4 W cs t2 v2 (W.alloc (.cells cs 157)) := ⟨heap_alloc_new _ _, (Below.cell ((Below.refl W.heap.size W).alloc (Nat.le_refl _) _) (World.block_lt_of_cell? W _ g2)).trans g2, (Below.refl _ _).alloc (Nat.le_refl _) _⟩
  go_enter Tryz.func69, Tryz.ntmps69
  go_wp2_with (first | (refine new_big 157 205 zok157 rfl rfl ?_; intro w1 hw1; rw [← hcs] at hw1; rw [← hw1] at hF; clear hw1 hcs))
  refine wp_region_steady (Few4 W cs t2 v2) 4 42 rfl (by kernel_rfl) rfl ⟨hF.b, hF.g, hF.u.drew⟩ ?_
  simp only [List.take_succ_cons, List.take_zero, List.drop_succ_cons, List.drop_zero]
  apply Steady.cons
  · intro wx hS
    exact wpList_load_row rfl 157 _ rfl W.heap.size rfl 157 cs (0, 0) _ hS.b Tryz.underlying157 rfl (by rw [hsz]; exact size157) ⟨rfl, rfl, rfl, hS⟩
  apply Steady.cons
  · intro wx hS
    have hg := hS.g
    go_wp2
    exact ⟨rfl, rfl, rfl, hS⟩
  apply Steady.cons
  · intro wx hS
    refine wpList_store_row rfl 157 _ _ rfl W.heap.size cs rfl rfl 157 _ hS.b (by rw [hsz]; exact size157) rfl hone ⟨rfl, rfl, rfl, ?_⟩
    exact ⟨setRow_heap _ _ _ _ _ _ hS.b, (cell_setRow_other _ _ _ _ (by have := World.block_lt_of_cell? W _ g2; simp at this ⊢; omega)).trans hS.g, below_setRow hS.u _⟩
  apply Steady.cons
  · intro wx hS
    go_wp2
    exact ⟨rfl, rfl, rfl, hS⟩
  intro wx hS
  go_wp2
  refine bodyPost_ret (v := .tuple #[.agg cs, .iface t2 v2]) ?_ rfl ⟨⟨_, _, _, hsz, hone, rfl⟩, hS.u⟩
  rw [results_cell_tmp rfl]
  have hl := run_loadVar_row (P := Tryz.prog) _ W.heap.size 157 157 cs (0, 0) _ hS.b Tryz.underlying157 rfl (by rw [hsz]; exact size157)
  simp [asAddr, hl]
end Go.Proofs.YtlmmdldjfpdcfaaGreatDoor
namespace Go.Proofs.YtlmmdldjfpdcfaaGreatDoor
open Go.RowKit

set_option maxRecDepth 100000 in
set_option maxHeartbeats 1000000 in
theorem pkg4_ok (s n : Nat) (len q : Nat) (ctx : Value) (hn : n ≤ 4096) (hs : 2 ≤ s) (hs2 : s ≤ 255) (hl0 : 0 < len) (hl : len < 65536) (hq : 0 < q) (hq2 : q < 65536) (W : World) (hctx : CtxAt W ctx n) :
    Calls Tryz.prog 42 #[.int .u8 s, .int .u64 len, .int .u64 q, ctx] W fun e w' => ∃ b1, e = .returned (.tuple #[.pointer (some ⟨b1, 0, none⟩), .nilIface]) ∧ IsMach 159 223 b1 (64 * s) s (fun fs => ∃ b, fs = fs4 b len q) w' ∧ Below W.heap.size W w' := by
  have t1 : ((len : Int) == 0) = false := by simp; omega
  have t2 : ((q : Int) == 0) = false := by simp; omega
  go_enter Tryz.func42, Tryz.ntmps42
  go_wp2_with (first | (refine new_big 159 205 zok159 rfl rfl ?_; intro w1 hw1; have hB := Blk.new zok159 W; rw [← hw1] at hB; clear hw1) | (go_at_call 70; go_loud (refine (flp4 _ len q hl hq hq2).mono ?_; rintro e w2 ⟨rfl, hw2⟩; obtain ⟨bf, hbf⟩ : ∃ bf, bf = w1.heap.size := ⟨_, rfl⟩; obtain ⟨fs, hfs⟩ : ∃ fs, fs = fs4 bf len q := ⟨_, rfl⟩; have hne : bf ≠ W.heap.size := (by have := hB.lt; omega); rw [← hbf, ← hfs] at hw2; have hlow : Below w1.heap.size w1 w2 := (by rw [hw2]; exact (Below.refl _ _).alloc (Nat.le_refl _) _); have hfl : w2.heap[bf]? = some (.cells fs 223 (0, 0)) := (by rw [hw2, hbf]; exact heap_alloc_new _ _); have hB := hB.below hlow; rw [← hbf]; have fm : fs[3]? = some (.int .u64 (len : Nat)) := (by rw [hfs]; rfl); have fj : fs[4]? = some (.int .u64 (((len + q - 1) / q) : Nat)) := (by rw [hfs]; rfl); have fc : fs[5]? = some (.int .u64 (2 : Nat)) := (by rw [hfs]; rfl); have fo : fs[6]? = some (.int .u64 (len : Nat)) := (by rw [hfs]; rfl); have hjpos : 0 < ((len + q - 1) / q) := Nat.div_pos (by omega) hq; clear hw2; have HF := Lib.hid hfs; clear hfs hbf)) | (go_at_call 69; go_loud (refine (new4_ok bf 4 s n len ((len + q - 1) / q) 2 len ctx fs hn hs hs2 hjpos _ (hctx.low hB.low) hfl fm fj fc fo).mono ?_; rintro e w3 ⟨⟨vs, hm, rfl⟩, hb3⟩; have hfl := (hb3.block _ (lt_of_block hfl)).trans hfl; have hB := hB.below hb3)) | (refine store_part 157 _ _ hB vs rfl rfl rfl rfl size157 hm.size (by omega) hm.one ?_; intro w4 hw4; go_loud (have hM := hB.setMach hm; rw [← hw4] at hM; have hfl : w4.heap[bf]? = some (.cells fs 223 (0, 0)) := (by rw [hw4]; exact (setCells_other _ _ hne _ _ _).trans hfl); have hB := hB.setCells vs.toList 0 _ (fun v hv => Array.all_eq_true_iff_forall_mem.1 hm.one v (by simpa using hv)); rw [← hw4] at hB; clear hw4)))
  exact bodyPost_ret (results_tmp2 rfl _ _ _) rfl ⟨W.heap.size, rfl, ⟨vs, bf, fs, hM, hm, hfl, ⟨bf, HF.out⟩⟩, hB.low⟩
end Go.Proofs.YtlmmdldjfpdcfaaGreatDoor
