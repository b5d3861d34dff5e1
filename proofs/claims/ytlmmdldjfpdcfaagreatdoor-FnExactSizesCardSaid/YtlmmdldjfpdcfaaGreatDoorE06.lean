/- The machine of random numbers of the large field, as it is made with no context. A context as it lies, and the machines of random numbers for it. -/
import Derived.Test.YtlmmdldjfpdcfaaGreatDoorE04
import Derived.Test.YtlmmdldjfpdcfaaGreatDoorE05
import Derived.Test.YtlmmdldjfpdcfaaGreatDoorE03
namespace Go.Proofs.YtlmmdldjfpdcfaaGreatDoor
open Go.RowKit

set_option maxRecDepth 100000 in
set_option maxHeartbeats 4000000 in
theorem xof90n (id : Nat) (W : World) :
    Calls Tryz.prog 90 #[.int .u32 id, .slice none 0 0] W fun e w' => (∃ xs : Array Value, xs.size = 202 ∧ xs.all (·.oneCell') = true ∧ e = .returned (.tuple #[.agg xs, .nilIface])) ∧ Below W.heap.size W w' := by
  obtain ⟨i5, hi, hz, hs, hb⟩ := info_parts info5
  have harr := arrayAt331
  go_enter Tryz.func90, Tryz.ntmps90
  go_wp2_with (first | (refine new_big 143 202 zok143 rfl rfl ?_; intro w1 hw1; have hB := Blk.new zok143 W; have c0 : w1.cell? ⟨W.heap.size, 0, none⟩ = some (.pointer none) := (by rw [hw1, cell_of_row _ _ 0 _ 143 (0, 0) (heap_alloc_new _ _)]; exact z143_0); have c1 : w1.cell? ⟨W.heap.size, 1, none⟩ = some (.slice none 0 0) := (by rw [hw1, cell_of_row _ _ 1 _ 143 (0, 0) (heap_alloc_new _ _)]; exact z143_1); rw [← hw1] at hB; clear hw1; have cf := hB.frozen) | (at_make; go_loud (refine wpList_make_own _ rfl _ _ 23 rfl (W.heap.size + 1) 5 i5 _ 1 Tryz.underlying23 hi hz hs _ _ _ 11 rfl rfl (by omega) (by rw [hb]; omega) (by simp [maxLen] <;> omega) hB.lt ?_; intro w2 ho hg; have hNg := hB.lt; have ho : Own w2 (W.heap.size + 1) w1.heap.size 0 11 := ⟨_, ho⟩; generalize hg0 : w1.heap.size = g at ho hNg ⊢; have c1 := hg.cell c1 (by simp); have hB := hB.grownNone hg; have cf := hB.frozen)) | (go_at_call 102; go_loud (refine (app16le (W.heap.size + 1) g _ 11 _ _ (ho.grown (grownBy_set _ _ 1 _) (by simp; omega)) (by omega)).mono ?_; rintro e w3 ⟨rfl, ho, hg⟩; obtain ⟨hB, c1, cf⟩ := hB.step 1 _ rfl (by omega) hg hNg)) | (go_at_call 103; go_loud (refine (app32be (W.heap.size + 1) g _ 11 _ _ (ho.grown (grownBy_set _ _ 1 _) (by simp; omega)) (by omega)).mono ?_; rintro e w3 ⟨rfl, ho, hg⟩; obtain ⟨hB, c1, cf⟩ := hB.step 1 _ rfl (by omega) hg hNg)) | (go_at_call 104; go_loud (refine (app16be (W.heap.size + 1) g _ 11 _ _ (ho.grown (grownBy_set _ _ 1 _) (by simp; omega)) (by omega)).mono ?_; rintro e w3 ⟨rfl, ho, hg⟩; obtain ⟨hB, c1, cf⟩ := hB.step 1 _ rfl (by omega) hg hNg)) | (at_builtin; refine append_new' _ _ (by simp) _ (W.heap.size + 1) g _ 11 1 rfl _ _ rfl rfl rfl rfl (by simp [Value.oneCell']) (ho.grown (grownBy_set _ _ 1 _) (by simp; omega)) (by omega) ?_; intro w3 ho hg; obtain ⟨hB, c1, cf⟩ := hB.step 1 _ rfl (by omega) hg hNg; obtain ⟨v0, c0⟩ := hB.cell 0 (by omega)) | (at_builtin; refine append_new' _ _ (by simp) _ (W.heap.size + 1) g _ 11 1 rfl _ _ rfl rfl rfl rfl (by simp [Value.oneCell']) ((ho.grown (grownBy_set _ _ 1 _) (by simp; omega)).grown (grownBy_set _ _ 1 _) (by simp; omega)) (by omega) ?_; intro w3 ho hg; obtain ⟨hB, c1, cf⟩ := (hB.set 1 _ rfl).step 1 _ rfl (by omega) hg hNg; obtain ⟨v0, c0⟩ := hB.cell 0 (by omega)) | (go_at_call 105; go_loud (refine (shake _).mono ?_; rintro e w5 ⟨⟨ss, hs1, hs2, rfl⟩, hbb⟩; have hB := ((hB.set 1 _ rfl).set 0 _ rfl).below hbb)) | (refine store_part 114 _ _ hB ss rfl rfl rfl rfl size114 hs1 (by omega) hs2 ?_; intro w6 hw6; have hB := hB.setCells ss.toList 2 _ (fun v hv => Array.all_eq_true_iff_forall_mem.1 hs2 v (by simpa using hv)); rw [← hw6] at hB; clear hw6) | (refine load_blk 143 _ hB rfl rfl rfl _ Tryz.underlying143 rfl size143 ?_; intro cs hc1 hc2 hc3) | (refine store_blk 143 _ _ hB cs rfl rfl rfl rfl size143 hc1 hc2 ?_; have hB := hB.setRow cs hc1 hc2))
  obtain ⟨cs', g1, g2, g3⟩ := hB.blk
  refine bodyPost_ret (v := .tuple #[.agg cs', .nilIface]) ?_ rfl ⟨⟨cs', g2, g3, rfl⟩, hB.low⟩
  rw [results_cell_tmp rfl]
  have hl := run_loadVar_row (P := Tryz.prog) _ W.heap.size 143 143 cs' (0, 0) _ g1 Tryz.underlying143 rfl (by rw [g2]; exact size143)
  simp [asAddr, hl]
end Go.Proofs.YtlmmdldjfpdcfaaGreatDoor
namespace Go.Proofs.YtlmmdldjfpdcfaaGreatDoor
open Go.RowKit

theorem CtxAt.low {W w : World} {v : Value} {n : Nat} (h : CtxAt W v n) (hb : Below W.heap.size W w) : CtxAt w v n := by
  rcases h with h | ⟨ad, c, news, h1, h2, h3, h4⟩
  · exact .inl h
  · refine .inr ⟨ad, c, news, h1, h2, fun j u hu => ?_, h4⟩
    have hcell := h3 j u hu
    rw [hb.cell (World.block_lt_of_cell? W _ hcell)]
    exact hcell

theorem xof81_any (id n : Nat) (v : Value) (hn : n ≤ 4096) (W : World) (hc : CtxAt W v n) :
    Calls Tryz.prog 81 #[.int .u32 id, v] W fun e w' => (∃ xs : Array Value, xs.size = 202 ∧ xs.all (·.oneCell') = true ∧ e = .returned (.tuple #[.agg xs, .nilIface])) ∧ Below W.heap.size W w' := by
  rcases hc with ⟨rfl, rfl⟩ | ⟨ad, c, news, rfl, h2, h3, h4⟩
  · exact xof81n id W
  · exact xof81 id n c ad news hn W h2 h3 h4

theorem xof90_any (id n : Nat) (v : Value) (hn : n ≤ 4096) (W : World) (hc : CtxAt W v n) :
    Calls Tryz.prog 90 #[.int .u32 id, v] W fun e w' => (∃ xs : Array Value, xs.size = 202 ∧ xs.all (·.oneCell') = true ∧ e = .returned (.tuple #[.agg xs, .nilIface])) ∧ Below W.heap.size W w' := by
  rcases hc with ⟨rfl, rfl⟩ | ⟨ad, c, news, rfl, h2, h3, h4⟩
  · exact xof90n id W
  · exact xof90 id n c ad news hn W h2 h3 h4

theorem zok118 : ZOk 118 205 := ⟨by kernel_rfl, by kernel_rfl, by kernel_rfl⟩
theorem zok135 : ZOk 135 205 := ⟨by kernel_rfl, by kernel_rfl, by kernel_rfl⟩
theorem zok145 : ZOk 145 205 := ⟨by kernel_rfl, by kernel_rfl, by kernel_rfl⟩
theorem zok157 : ZOk 157 205 := ⟨by kernel_rfl, by kernel_rfl, by kernel_rfl⟩
theorem zok167 : ZOk 167 205 := ⟨by kernel_rfl, by kernel_rfl, by kernel_rfl⟩
theorem size118 : (Tryz.prog.info? 118).map (·.size) = some 205 := by kernel_rfl
theorem size135 : (Tryz.prog.info? 135).map (·.size) = some 205 := by kernel_rfl
theorem size145 : (Tryz.prog.info? 145).map (·.size) = some 205 := by kernel_rfl
theorem size157 : (Tryz.prog.info? 157).map (·.size) = some 205 := by kernel_rfl
theorem size167 : (Tryz.prog.info? 167).map (·.size) = some 205 := by kernel_rfl
theorem zok120 : ZOk 120 205 := ⟨by kernel_rfl, by kernel_rfl, by kernel_rfl⟩
theorem zok137 : ZOk 137 205 := ⟨by kernel_rfl, by kernel_rfl, by kernel_rfl⟩
theorem zok147 : ZOk 147 205 := ⟨by kernel_rfl, by kernel_rfl, by kernel_rfl⟩
theorem zok159 : ZOk 159 205 := ⟨by kernel_rfl, by kernel_rfl, by kernel_rfl⟩
theorem zok169 : ZOk 169 205 := ⟨by kernel_rfl, by kernel_rfl, by kernel_rfl⟩

/-- What a machine's cells hold: its circuit, the number of random bytes, the number of shares. -/
structure Mach (b2 r s : Nat) (vs : Array Value) : Prop where
  size : vs.size = 205
  one : vs.all (·.oneCell') = true
  flp : vs[0]? = some (.pointer (some ⟨b2, 0, none⟩))
  rand : vs[203]? = some (.int .u64 r)
  shares : vs[204]? = some (.int .u8 s)

theorem Blk.two {T : TypeId} {N : Nat} {W w w' : World} (hB : Blk T 205 W N w) (s r p : Value) (hs : s.oneCell' = true) (hr : r.oneCell' = true) (k0 : w.cell? ⟨N, 0, none⟩ = some p)
    (hbb : Below ((w.setCell ⟨N, 204, none⟩ s).setCell ⟨N, 203, none⟩ r).heap.size ((w.setCell ⟨N, 204, none⟩ s).setCell ⟨N, 203, none⟩ r) w') :
    Blk T 205 W N w' ∧ w'.cell? ⟨N, 0, none⟩ = some p ∧ w'.cell? ⟨N, 203, none⟩ = some r ∧ w'.cell? ⟨N, 204, none⟩ = some s := by
  have hB' := ((hB.set 204 s hs).set 203 r hr)
  obtain ⟨cs, h1, h2, h3⟩ := hB.blk
  have hblk := (hbb.block N hB'.lt).trans (heap_setCell_same _ N 203 _ T r (heap_setCell_same w N 204 cs T s h1))
  rw [cell_of_row w N 0 cs T (0, 0) h1] at k0
  refine ⟨hB'.below hbb, ?_, ?_, ?_⟩
  · rw [cell_of_row w' N 0 _ T (0, 0) hblk]; simpa [Array.getElem?_setIfInBounds] using k0
  · rw [cell_of_row w' N 203 _ T (0, 0) hblk]; simp [h2]
  · rw [cell_of_row w' N 204 _ T (0, 0) hblk]; simp [h2]

/-- The block that is read is what a machine holds. -/
theorem Blk.mach {T : TypeId} {N b2 r s : Nat} {w : World} {cs : Array Value} (hc1 : cs.size = 205) (hc2 : cs.all (·.oneCell') = true) (hc3 : w.heap[N]? = some (.cells cs T (0, 0)))
    (k0 : w.cell? ⟨N, 0, none⟩ = some (.pointer (some ⟨b2, 0, none⟩))) (k203 : w.cell? ⟨N, 203, none⟩ = some (.int .u64 r)) (k204 : w.cell? ⟨N, 204, none⟩ = some (.int .u8 s)) : Mach b2 r s cs := by
  rw [cell_of_row w N _ cs T (0, 0) hc3] at k0 k203 k204
  exact ⟨hc1, hc2, k0, k203, k204⟩
end Go.Proofs.YtlmmdldjfpdcfaaGreatDoor
