/- A machine of kind 1, of its circuit. A machine of kind 1 has two shares at least. A machine, as a package's New returns it. New of the package of kind 1. The Montgomery product of the field of 64 bits is the product over 2^64, modulo the prime: plain numbers. -/
import Derived.Test.YtlmmdldjfpdcfaaGreatDoorE06
import Derived.Test.YtlmmdldjfpdcfaaGreatDoorE03
namespace Go.Proofs.YtlmmdldjfpdcfaaGreatDoor
open Go.RowKit

set_option maxRecDepth 100000 in
set_option maxHeartbeats 4000000 in
theorem new1_ok (b2 id s n m j c o : Nat) (ctx : Value) (fs : Array Value) (hn : n ≤ 4096) (hs : 2 ≤ s) (hs2 : s ≤ 255) (hj : j = 0) (W : World) (hctx : CtxAt W ctx n) (hf : W.heap[b2]? = some (.cells fs 191 (0, 0)))
    (fm : fs[2]? = some (.int .u64 m)) (fj : fs[3]? = some (.int .u64 j)) (fc : fs[4]? = some (.int .u64 c)) (fo : fs[5]? = some (.int .u64 o)) :
    Calls Tryz.prog 53 #[.pointer (some ⟨b2, 0, none⟩), .int .u32 id, .int .u8 s, ctx] W fun e w' => (∃ vs : Array Value, Mach b2 (32 * s : Nat) s vs ∧ e = .returned (.tuple #[.agg vs, .nilIface])) ∧ Below W.heap.size W w' := by
  have hb2 := lt_of_block hf
  have hm1 := (fun wx (hb : Below W.heap.size W wx) => meth1_joint b2 wx _ _ _ _ ((cell_of_row wx b2 2 fs 191 (0, 0) ((hb.block b2 hb2).trans hf)).trans fm) ((cell_of_row wx b2 3 fs 191 (0, 0) ((hb.block b2 hb2).trans hf)).trans fj) ((cell_of_row wx b2 4 fs 191 (0, 0) ((hb.block b2 hb2).trans hf)).trans fc) ((cell_of_row wx b2 5 fs 191 (0, 0) ((hb.block b2 hb2).trans hf)).trans fo))
  have tj : decide ((0 : Int) < (j : Int)) = false := by simp; omega
  have tj2 : decide (0 < j) = false := by simp; omega
  clear hj
  go_enter Tryz.func53, Tryz.ntmps53
  go_wp2_with (first | (refine new_big 118 205 zok118 rfl rfl ?_; intro w1 hw1; have hB := Blk.new zok118 W; rw [← hw1] at hB; clear hw1; have cf := hB.frozen; obtain ⟨v0, c0⟩ := hB.cell 0 (by omega)) | (go_at_call 81; go_loud (refine (xof81_any id n ctx hn _ (hctx.low (hB.set 0 _ rfl).low)).mono ?_; rintro e w2 ⟨⟨xs, hx1, hx2, rfl⟩, hbb⟩; have k0 := (hbb.cell (show _ < _ by simpa using hB.lt)).trans (hB.cellSet 0 (.pointer (some ⟨b2, 0, none⟩)) (by omega)); have hB := (hB.set 0 _ rfl).below hbb)) | (refine store_part 116 _ _ hB xs rfl rfl rfl rfl size116 hx1 (by omega) hx2 ?_; go_loud (intro w3 hw3; have k0 : w3.cell? ⟨W.heap.size, 0, none⟩ = some (.pointer (some ⟨b2, 0, none⟩)) := (by rw [hw3, World.cell?_setCells_out _ _ _ _ _ (by simp)]; exact k0); have hB := hB.setCells xs.toList 1 _ (fun v hv => Array.all_eq_true_iff_forall_mem.1 hx2 v (by simpa using hv)); rw [← hw3] at hB; clear hw3; have cf := hB.frozen; obtain ⟨v203, c203⟩ := hB.cell 203 (by omega); obtain ⟨v204, c204⟩ := hB.cell 204 (by omega); have m1 : ∀ a b, (method 488 107 (.pointer (some ⟨b2, 0, none⟩)) "JointRandLength").run Tryz.prog ((w3.setCell ⟨W.heap.size, 204, none⟩ a).setCell ⟨W.heap.size, 203, none⟩ b) = .ok (217, .agg (par4 m j c o)) ((w3.setCell ⟨W.heap.size, 204, none⟩ a).setCell ⟨W.heap.size, 203, none⟩ b) := fun a b => hm1 _ ((hB.low.setCell (p := ⟨W.heap.size, 204, none⟩) (Nat.le_refl _) a).setCell (p := ⟨W.heap.size, 203, none⟩) (Nat.le_refl _) b))) | (go_at_call 217; go_loud (refine (par_joint m j c o _).mono ?_; rintro e w4 ⟨rfl, hbb⟩; obtain ⟨hB, k0, k203, k204⟩ := hB.two (.int .u8 s) (.int .u64 (32 * s)) _ rfl rfl k0 hbb; have cf := hB.frozen)) | (refine load_blk 118 _ hB rfl rfl rfl _ Tryz.underlying118 rfl size118 ?_; intro cs hc1 hc2 hc3) | (refine store_blk 118 _ _ hB cs rfl rfl rfl rfl size118 hc1 hc2 ?_; have hB2 := hB.setRow cs hc1 hc2; have hrow := setRow_heap _ W.heap.size _ cs 118 _ hc3))
  refine bodyPost_ret (v := .tuple #[.agg cs, .nilIface]) ?_ rfl ⟨⟨cs, Blk.mach hc1 hc2 hc3 k0 (by simpa using k203) k204, rfl⟩, hB2.low⟩
  rw [results_cell_tmp rfl]
  have hl := run_loadVar_row (P := Tryz.prog) _ W.heap.size 118 118 cs (0, 0) _ hrow Tryz.underlying118 rfl (by rw [hc1]; exact size118)
  simp [asAddr, hl]
end Go.Proofs.YtlmmdldjfpdcfaaGreatDoor
namespace Go.Proofs.YtlmmdldjfpdcfaaGreatDoor
open Go.RowKit

/-- The new block as it was made, and the variable that says what is wrong. -/
structure Few1 (W : World) (cs : Array Value) (t : TypeId) (v : Value) (w : World) : Prop where
  b : w.heap[W.heap.size]? = some (.cells cs 118 (0, 0))
  g : w.cell? ⟨2, 0, none⟩ = some (.iface t v)
  u : Below W.heap.size W w

set_option maxRecDepth 100000 in
set_option maxHeartbeats 1000000 in
theorem new1_bad (p ctx : Value) (id s : Nat) (hs : s < 2) (W : World) (t2 : TypeId) (v2 : Value) (g2 : W.cell? ⟨2, 0, none⟩ = some (.iface t2 v2)) :
    Calls Tryz.prog 53 #[p, .int .u32 id, .int .u8 s, ctx] W fun e w' => (∃ (cs : Array Value) (t : TypeId) (v : Value), cs.size = 205 ∧ cs.all (·.oneCell') = true ∧ e = .returned (.tuple #[.agg cs, .iface t v])) ∧ Below W.heap.size W w' := by
  obtain ⟨cs, hcs, hsz, hone⟩ : ∃ cs : Array Value, cs = (zOf 118).cells ∧ cs.size = 205 ∧ cs.all (·.oneCell') = true := ⟨_, rfl, zok118.size, zok118.one⟩
  have hF : Few1 W cs t2 v2 (W.alloc (.cells cs 118)) := ⟨heap_alloc_new _ _, (Below.cell ((Below.refl W.heap.size W).alloc (Nat.le_refl _) _) (World.block_lt_of_cell? W _ g2)).trans g2, (Below.refl _ _).alloc (Nat.le_refl _) _⟩
  go_enter Tryz.func53, Tryz.ntmps53
  go_wp2_with (first | (refine new_big 118 205 zok118 rfl rfl ?_; intro w1 hw1; rw [← hcs] at hw1; rw [← hw1] at hF; clear hw1 hcs))
  refine wp_region_steady (Few1 W cs t2 v2) 4 42 rfl (by kernel_rfl) rfl ⟨hF.b, hF.g, hF.u.drew⟩ ?_
  simp only [List.take_succ_cons, List.take_zero, List.drop_succ_cons, List.drop_zero]
  apply Steady.cons
  · intro wx hS
    exact wpList_load_row rfl 118 _ rfl W.heap.size rfl 118 cs (0, 0) _ hS.b Tryz.underlying118 rfl (by rw [hsz]; exact size118) ⟨rfl, rfl, rfl, hS⟩
  apply Steady.cons
  · intro wx hS
    have hg := hS.g
    go_wp2
    exact ⟨rfl, rfl, rfl, hS⟩
  apply Steady.cons
  · intro wx hS
    refine wpList_store_row rfl 118 _ _ rfl W.heap.size cs rfl rfl 118 _ hS.b (by rw [hsz]; exact size118) rfl hone ⟨rfl, rfl, rfl, ?_⟩
    exact ⟨setRow_heap _ _ _ _ _ _ hS.b, (cell_setRow_other _ _ _ _ (by have := World.block_lt_of_cell? W _ g2; simp at this ⊢; omega)).trans hS.g, below_setRow hS.u _⟩
  apply Steady.cons
  · intro wx hS
    go_wp2
    exact ⟨rfl, rfl, rfl, hS⟩
  intro wx hS
  go_wp2
  refine bodyPost_ret (v := .tuple #[.agg cs, .iface t2 v2]) ?_ rfl ⟨⟨_, _, _, hsz, hone, rfl⟩, hS.u⟩
  rw [results_cell_tmp rfl]
  have hl := run_loadVar_row (P := Tryz.prog) _ W.heap.size 118 118 cs (0, 0) _ hS.b Tryz.underlying118 rfl (by rw [hsz]; exact size118)
  simp [asAddr, hl]
end Go.Proofs.YtlmmdldjfpdcfaaGreatDoor
namespace Go.Proofs.YtlmmdldjfpdcfaaGreatDoor
open Go.RowKit

theorem setCells_other (b k : Nat) (h : k ≠ b) : ∀ (vs : List Value) (o : Nat) (w : World), (w.setCells b o vs).heap[k]? = w.heap[k]?
  | [], _, _ => rfl
  | v :: r, o, w => (setCells_other b k h r (o + 1) (w.setCell ⟨b, o, none⟩ v)).trans (Below.heap_setCell w _ v k h)

/-- A machine, as a package's New returns it: its block, its circuit's block. -/
def IsMach (T S : TypeId) (b1 r s : Nat) (F : Array Value → Prop) (w : World) : Prop :=
  ∃ vs b2 fs, w.heap[b1]? = some (.cells vs T (0, 0)) ∧ Mach b2 r s vs ∧ w.heap[b2]? = some (.cells fs S (0, 0)) ∧ F fs

theorem Blk.setMach {T : TypeId} {N b2 r s : Nat} {W w : World} {vs : Array Value} (hB : Blk T 205 W N w) (hm : Mach b2 r s vs) : (w.setCells N 0 vs.toList).heap[N]? = some (.cells vs T (0, 0)) := by
  have h := hB.setCells vs.toList 0 _ (fun v hv => Array.all_eq_true_iff_forall_mem.1 hm.one v (by simpa using hv))
  obtain ⟨cs, h1, h2, _⟩ := h.blk
  have e : cs = vs := by
    refine Array.ext_getElem? fun i => ?_
    by_cases hi : i < 205
    · have hr := World.rangeAt_setCells_same w N 0 vs.toList (hB.there 0 _ (by simp [hm.size])) i vs[i]! (by simp [hm.size, hi])
      rw [Nat.zero_add, cell_of_row _ N i cs T (0, 0) h1] at hr
      rw [hr]
      simp [hm.size, hi]
    · simp [h2, hm.size, hi]
  rw [h1, e]

end Go.Proofs.YtlmmdldjfpdcfaaGreatDoor
namespace Go.Proofs.YtlmmdldjfpdcfaaGreatDoor
open Go.RowKit

set_option maxRecDepth 100000 in
set_option maxHeartbeats 1000000 in
theorem pkg1_ok (s n : Nat) (ctx : Value) (hn : n ≤ 4096) (hs : 2 ≤ s) (hs2 : s ≤ 255) (W : World) (hctx : CtxAt W ctx n) :
    Calls Tryz.prog 29 #[.int .u8 s, ctx] W fun e w' => ∃ b1, e = .returned (.tuple #[.pointer (some ⟨b1, 0, none⟩), .nilIface]) ∧ IsMach 120 191 b1 (32 * s) s (fun fs => ∃ b, fs = fs1 b) w' ∧ Below W.heap.size W w' := by
  go_enter Tryz.func29, Tryz.ntmps29
  go_wp2_with (first | (refine new_big 120 205 zok120 rfl rfl ?_; intro w1 hw1; have hB := Blk.new zok120 W; rw [← hw1] at hB; clear hw1) | (go_at_call 54; go_loud (refine (flp1 _).mono ?_; rintro e w2 ⟨rfl, hw2⟩; obtain ⟨bf, hbf⟩ : ∃ bf, bf = w1.heap.size := ⟨_, rfl⟩; obtain ⟨fs, hfs⟩ : ∃ fs, fs = fs1 bf := ⟨_, rfl⟩; have hne : bf ≠ W.heap.size := (by have := hB.lt; omega); rw [← hbf, ← hfs] at hw2; have hlow : Below w1.heap.size w1 w2 := (by rw [hw2]; exact (Below.refl _ _).alloc (Nat.le_refl _) _); have hfl : w2.heap[bf]? = some (.cells fs 191 (0, 0)) := (by rw [hw2, hbf]; exact heap_alloc_new _ _); have hB := hB.below hlow; rw [← hbf]; have fm : fs[2]? = some (.int .u64 (1 : Nat)) := (by rw [hfs]; rfl); have fj : fs[3]? = some (.int .u64 (0 : Nat)) := (by rw [hfs]; rfl); have fc : fs[4]? = some (.int .u64 (1 : Nat)) := (by rw [hfs]; rfl); have fo : fs[5]? = some (.int .u64 (1 : Nat)) := (by rw [hfs]; rfl); clear hw2; have HF := Lib.hid hfs; clear hfs hbf)) | (go_at_call 53; go_loud (refine (new1_ok bf 1 s n 1 0 1 1 ctx fs hn hs hs2 rfl _ (hctx.low hB.low) hfl fm fj fc fo).mono ?_; rintro e w3 ⟨⟨vs, hm, rfl⟩, hb3⟩; have hfl := (hb3.block _ (lt_of_block hfl)).trans hfl; have hB := hB.below hb3)) | (refine store_part 118 _ _ hB vs rfl rfl rfl rfl size118 hm.size (by omega) hm.one ?_; intro w4 hw4; go_loud (have hM := hB.setMach hm; rw [← hw4] at hM; have hfl : w4.heap[bf]? = some (.cells fs 191 (0, 0)) := (by rw [hw4]; exact (setCells_other _ _ hne _ _ _).trans hfl); have hB := hB.setCells vs.toList 0 _ (fun v hv => Array.all_eq_true_iff_forall_mem.1 hm.one v (by simpa using hv)); rw [← hw4] at hB; clear hw4)))
  exact bodyPost_ret (results_tmp2 rfl _ _ _) rfl ⟨W.heap.size, rfl, ⟨vs, bf, fs, hM, hm, hfl, ⟨bf, HF.out⟩⟩, hB.low⟩
end Go.Proofs.YtlmmdldjfpdcfaaGreatDoor
namespace Go.Proofs.YtlmmdldjfpdcfaaGreatDoor

/-- Montgomery product of the small field. -/
def m64 (x y : Nat) : Nat :=
  if (x * y + (x * y % 18446744073709551616 * 18446744069414584319 % 18446744073709551616) * 18446744069414584321) / 18446744073709551616 < 18446744069414584321 then
    (x * y + (x * y % 18446744073709551616 * 18446744069414584319 % 18446744073709551616) * 18446744069414584321) / 18446744073709551616
  else (x * y + (x * y % 18446744073709551616 * 18446744069414584319 % 18446744073709551616) * 18446744069414584321) / 18446744073709551616 - 18446744069414584321

theorem m64_spec (x y : Nat) (hy : x * y < 18446744069414584321 * 18446744073709551616) :
    m64 x y < 18446744069414584321 ∧ (m64 x y * 18446744073709551616) % 18446744069414584321 = x * y % 18446744069414584321 := by
  unfold m64
  generalize x * y = t at *
  split
  · omega
  · omega

theorem m64_uniq (r S : Nat) (hr : r < 18446744069414584321) (hS : S < 18446744069414584321) (h : (r * 18446744073709551616) % 18446744069414584321 = S * 18446744073709551616 % 18446744069414584321) : r = S := by
  omega

/-- The steps of the small field's product, carry by carry. -/
theorem m64_steps {x y h l a m b c k1 s1 k2 s2 k3 s3 k4 s4 z : Nat} (hb : x * y < 18446744069414584321 * 18446744073709551616)
    (e1 : (x : Int) * y = h * 18446744073709551616 + l) (hl : l < 18446744073709551616)
    (e2 : (l : Int) * 18446744069414584319 = a * 18446744073709551616 + m) (_hm : m < 18446744073709551616)
    (e3 : (m : Int) * 18446744069414584321 = b * 18446744073709551616 + c) (_hc : c < 18446744073709551616)
    (e4 : (l : Int) + c + 0 = k1 * 18446744073709551616 + s1) (hs1 : s1 < 18446744073709551616)
    (e5 : (h : Int) + b + k1 = k2 * 18446744073709551616 + s2) (hs2 : s2 < 18446744073709551616)
    (e6 : (s2 : Int) + k3 * 18446744073709551616 = 18446744069414584321 + 0 + s3) (hs3 : s3 < 18446744073709551616) (hk3 : k3 ≤ 1)
    (e7 : (k2 : Int) + k4 * 18446744073709551616 = 0 + k3 + s4) (hs4 : s4 < 18446744073709551616) (hk4 : k4 ≤ 1)
    (e8 : (k4 : Int) = 0 ∧ (z : Int) = s3 ∨ (k4 : Int) = 1 ∧ (z : Int) = s2) : z = m64 x y := by
  have hn : ((x * y : Nat) : Int) = (x : Int) * y := Int.natCast_mul x y
  unfold m64
  generalize x * y = n at *
  generalize (x : Int) * y = t at *
  have f1 : n % 18446744073709551616 = l := by omega
  have f2 : l * 18446744069414584319 % 18446744073709551616 = m := by omega
  rw [f1, f2]
  have f3 : s1 = 0 := by omega
  subst f3
  have f4 : n + m * 18446744069414584321 = (h + b + k1) * 18446744073709551616 := by omega
  have f5 : (n + m * 18446744069414584321) / 18446744073709551616 = h + b + k1 := by omega
  rw [f5]
  clear f5
  have f6 : h + b + k1 < 2 * 18446744069414584321 := by omega
  have e5' : h + b + k1 = k2 * 18446744073709551616 + s2 := by omega
  clear f4 f1 f2 e1 e2 e3 e4 hn e5
  generalize h + b + k1 = s at *
  have hk2 : k2 = 0 ∨ k2 = 1 := by omega
  have hk3' : k3 = 0 ∨ k3 = 1 := by omega
  have hk4' : k4 = 0 ∨ k4 = 1 := by omega
  rcases hk2 with rfl | rfl <;> rcases hk3' with rfl | rfl <;> rcases hk4' with rfl | rfl <;> split <;> omega
end Go.Proofs.YtlmmdldjfpdcfaaGreatDoor
