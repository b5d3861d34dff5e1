/- The machine of random numbers, as it is made: it is some, whatever it holds. A sponge, as it is made. The machine of random numbers of the small field, as it is made. -/
import Derived.Test.YtlmmdldjfpdcfaaGreatDoorE03
import Derived.Deep.MidRow
import Derived.Laws.ResultCell
namespace Go.Proofs.YtlmmdldjfpdcfaaGreatDoor
open Go.RowKit

theorem run_new {P : Program} {o : Oper} {ρ : Operand → Value} (w : World) (t : TypeId) (z : Value) (hz : (P.info? t).map (·.zero) = some (some z)) (hop : o.op = .alloc t) :
    (execOp ρ o).run P w = .ok (.value (.pointer (some ⟨w.heap.size, 0, none⟩))) (w.alloc (.cells z.cells t)) := by
  obtain ⟨i, hi, hz⟩ := Option.map_eq_some_iff.1 hz
  unfold execOp
  simp [hop, Instr.alloc, zeroValue, typeInfo, hi, hz, newVar, newRow, go_sem]

/-- The zero value of a type. -/
@[irreducible] noncomputable def zOf (t : TypeId) : Value := ((Tryz.prog.info? t).bind (·.zero)).getD .nilIface

/-- The closed facts on a type's zero value: how many cells, and that each is one cell. -/
structure ZOk (t : TypeId) (n : Nat) : Prop where
  z : (Tryz.prog.info? t).map (·.zero) = some (some (zOf t))
  size : (zOf t).cells.size = n
  one : (zOf t).cells.all (·.oneCell') = true

/-- A big variable is made: its cells are n. -/
theorem new_big {ops : Array Oper} {rest : List Oper} {o : Oper} {a : Act} {w : World} {Q : Exit → Act → World → Prop} (t : TypeId) (n : Nat) (hz : ZOk t n) (hg : o.guard = none) (hop : o.op = .alloc t)
    (h : ∀ w', w' = w.alloc (.cells (zOf t).cells t) → wpList Tryz.prog ops Q rest (a.put o.dst (.pointer (some ⟨w.heap.size, 0, none⟩))) w') : wpList Tryz.prog ops Q (o :: rest) a w :=
  wpList_plain hg fun K hK => by
    unfold Oper.wp
    rw [run_new w t _ hz.z hop]
    exact hK _ _ (h _ rfl)

theorem zok116 : ZOk 116 202 := ⟨by kernel_rfl, by kernel_rfl, by kernel_rfl⟩
theorem zok143 : ZOk 143 202 := ⟨by kernel_rfl, by kernel_rfl, by kernel_rfl⟩
theorem z116_0 : (zOf 116).cells[0]? = some (.pointer none) := by kernel_rfl
theorem z116_1 : (zOf 116).cells[1]? = some (.slice none 0 0) := by kernel_rfl
theorem z143_0 : (zOf 143).cells[0]? = some (.pointer none) := by kernel_rfl
theorem z143_1 : (zOf 143).cells[1]? = some (.slice none 0 0) := by kernel_rfl

/-- A block of n cells of type T, at number N, above what the call found. -/
structure Blk (T : TypeId) (n : Nat) (W : World) (N : Nat) (w : World) : Prop where
  blk : ∃ cs : Array Value, w.heap[N]? = some (.cells cs T (0, 0)) ∧ cs.size = n ∧ cs.all (·.oneCell') = true
  low : Below N W w

theorem Blk.new {T : TypeId} {n : Nat} (hz : ZOk T n) (w : World) : Blk T n w w.heap.size (w.alloc (.cells (zOf T).cells T)) :=
  ⟨⟨_, heap_alloc_new _ _, hz.size, hz.one⟩, (Below.refl _ _).alloc (Nat.le_refl _) _⟩

theorem Blk.set {T : TypeId} {n N : Nat} {W w : World} (h : Blk T n W N w) (i : Nat) (v : Value) (hv : v.oneCell' = true) : Blk T n W N (w.setCell ⟨N, i, none⟩ v) := by
  obtain ⟨cs, h1, h2, h3⟩ := h.blk
  refine ⟨⟨_, heap_setCell_same w N i cs T v h1, by simp [h2], ?_⟩, h.low.setCell (show N ≤ N from Nat.le_refl N) v⟩
  rw [Array.all_eq_true_iff_forall_mem] at h3 ⊢
  intro u hu
  rcases Array.mem_or_eq_of_mem_setIfInBounds hu with hu | rfl
  · exact h3 u hu
  · exact hv

theorem Blk.lt {T : TypeId} {n N : Nat} {W w : World} (h : Blk T n W N w) : N < w.heap.size := by
  obtain ⟨cs, h1, _⟩ := h.blk
  exact (Array.getElem?_eq_some_iff.1 h1).1

theorem Blk.grown {T : TypeId} {n N g : Nat} {W w w' : World} (h : Blk T n W N w) (hg : w.grownBy w' (some g)) (hne : N < g) : Blk T n W N w' := by
  obtain ⟨cs, h1, h2, h3⟩ := h.blk
  exact ⟨⟨cs, (hg.block N h.lt (by simp; omega)).trans h1, h2, h3⟩, h.low.grown hg (Nat.le_of_lt h.lt) (fun k hk => by cases hk; omega)⟩

theorem Blk.below {T : TypeId} {n N : Nat} {W w w' : World} (h : Blk T n W N w) (hb : Below w.heap.size w w') : Blk T n W N w' := by
  obtain ⟨cs, h1, h2, h3⟩ := h.blk
  exact ⟨⟨cs, (hb.block N h.lt).trans h1, h2, h3⟩, h.low.trans (hb.mono (Nat.le_of_lt h.lt))⟩

theorem Blk.frozen {T : TypeId} {n N : Nat} {W w : World} (h : Blk T n W N w) (i : Nat) : w.frozen? ⟨N, i, none⟩ = false := by
  obtain ⟨cs, h1, _⟩ := h.blk
  exact frozen_of_row w N i cs T h1

theorem Blk.cell {T : TypeId} {n N : Nat} {W w : World} (h : Blk T n W N w) (i : Nat) (hi : i < n) : ∃ v, w.cell? ⟨N, i, none⟩ = some v := by
  obtain ⟨cs, h1, h2, _⟩ := h.blk
  exact ⟨cs[i]'(by omega), by rw [cell_of_row w N i cs T (0, 0) h1]; simp [h2, hi]⟩

theorem Own.grown {w w' : World} {B g n cap : Nat} {row : Option Nat} (h : Own w B g n cap) (hg : w.grownBy w' row) (hne : row ≠ some g) : Own w' B g n cap := by
  obtain ⟨xs, h⟩ := h
  exact ⟨xs, h.kept hg (.inr (fun e => hne e.symm))⟩

theorem grownBy_set (w : World) (N i : Nat) (v : Value) : w.grownBy (w.setCell ⟨N, i, none⟩ v) (some N) :=
  ⟨rfl, rfl, rfl, by simp, fun k _ hne => Below.heap_setCell w _ v k (fun e => hne (by simp [e]))⟩

theorem grownBy_below {w w' : World} (h : Below w.heap.size w w') : w.grownBy w' none := ⟨h.os, h.tape, h.output, h.size, fun k hk _ => h.block k hk⟩

/-- A context, as it lies: n bytes. -/
def CtxAt (w : World) (v : Value) (n : Nat) : Prop :=
  (v = .slice none 0 0 ∧ n = 0) ∨ ∃ (ad : Addr) (c : Nat) (news : List Value), v = .slice (some ad) n c ∧ news.length = n ∧ (∀ j u, news[j]? = some u → w.cell? (ad.add j) = some u) ∧ ∀ u ∈ news, u.oneCell' = true


theorem Blk.setCells {T : TypeId} {n N : Nat} {W : World} : ∀ (vs : List Value) (o : Nat) (w : World), Blk T n W N w → (∀ v ∈ vs, v.oneCell' = true) → Blk T n W N (w.setCells N o vs)
  | [], _, _, h, _ => h
  | v :: r, o, w, h, h1 => Blk.setCells r (o + 1) (w.setCell ⟨N, o, none⟩ v) (h.set o v (h1 v (by simp))) (fun u hu => h1 u (by simp [hu]))

theorem below_setRow {N : Nat} {W w : World} (h : Below N W w) (cs : Array Value) : Below N W (w.setRow N cs) :=
  ⟨h.os, h.tape, h.output, by simpa [World.setRow] using h.size, fun k hk => (setRow_other w N k cs (by omega)).trans (h.block k hk)⟩

theorem Blk.setRow {T : TypeId} {n N : Nat} {W w : World} (h : Blk T n W N w) (cs : Array Value) (hs : cs.size = n) (h1 : cs.all (·.oneCell') = true) : Blk T n W N (w.setRow N cs) := by
  obtain ⟨old, g1, _⟩ := h.blk
  exact ⟨⟨cs, setRow_heap w N old cs T _ g1, hs, h1⟩, below_setRow h.low cs⟩

theorem Blk.there {T : TypeId} {n N : Nat} {W w : World} (h : Blk T n W N w) (o m : Nat) (hm : o + m ≤ n) : w.there N o m := fun j hj => by
  obtain ⟨v, hv⟩ := h.cell (o + j) (by omega)
  exact ⟨by simp [hv], h.frozen _⟩

theorem Blk.drew {T : TypeId} {n N : Nat} {W w : World} (h : Blk T n W N w) : Blk T n W N w.drew := ⟨h.blk, h.low.drew⟩

/-- The whole of a block is loaded. -/
theorem load_blk {ops : Array Oper} {rest : List Oper} {o : Oper} {a : Act} {w W : World} {N n : Nat} {Q : Exit → Act → World → Prop} (T : TypeId) (x : Operand) (hb : Blk T n W N w) (hg : o.guard = none) (ho : o.op = .load T x) (hx : a.eval x = .pointer (some ⟨N, 0, none⟩))
    (d : TypeDesc) (hu : Tryz.prog.underlying T = some d) (hd : d.isRow = true) (hi : (Tryz.prog.info? T).map (·.size) = some n)
    (h : ∀ cs : Array Value, cs.size = n → cs.all (·.oneCell') = true → w.heap[N]? = some (.cells cs T (0, 0)) → wpList Tryz.prog ops Q rest (a.put o.dst (.agg cs)) w) : wpList Tryz.prog ops Q (o :: rest) a w := by
  obtain ⟨cs, h1, h2, h3⟩ := hb.blk
  exact wpList_load_row hg T x ho N hx T cs (0, 0) d h1 hu (by cases d <;> simp_all) (by rw [h2]; exact hi) (h cs h2 h3 h1)

/-- The whole of a block is stored. -/
theorem store_blk {ops : Array Oper} {rest : List Oper} {o : Oper} {a : Act} {w W : World} {N n : Nat} {Q : Exit → Act → World → Prop} (T : TypeId) (x y : Operand) (hb : Blk T n W N w) (cs : Array Value) (hg : o.guard = none) (ho : o.op = .store T x y) (hx : a.eval x = .pointer (some ⟨N, 0, none⟩)) (hy : a.eval y = .agg cs)
    (hi : (Tryz.prog.info? T).map (·.size) = some n) (hs : cs.size = n) (h1 : cs.all (·.oneCell') = true)
    (h : wpList Tryz.prog ops Q rest (a.put o.dst undef) (w.setRow N cs)) : wpList Tryz.prog ops Q (o :: rest) a w := by
  obtain ⟨old, g1, g2, g3⟩ := hb.blk
  exact wpList_store_row hg T x y ho N cs hx hy T old g1 (by rw [hs]; exact hi) (by rw [g2, hs]) h1 h

/-- A part of a block is stored. -/
theorem store_part {ops : Array Oper} {rest : List Oper} {o : Oper} {a : Act} {w W : World} {N n p m : Nat} {T : TypeId} {Q : Exit → Act → World → Prop} (ty : TypeId) (x y : Operand) (hb : Blk T n W N w) (cs : Array Value) (hg : o.guard = none) (ho : o.op = .store ty x y) (hx : a.eval x = .pointer (some ⟨N, p, none⟩)) (hy : a.eval y = .agg cs)
    (hi : (Tryz.prog.info? ty).map (·.size) = some m) (hs : cs.size = m) (hp : p + m ≤ n) (h1 : cs.all (·.oneCell') = true)
    (h : ∀ w', w' = w.setCells N p cs.toList → wpList Tryz.prog ops Q rest (a.put o.dst undef) w') : wpList Tryz.prog ops Q (o :: rest) a w :=
  wpList_store_mid hg ty x y ho N p cs hx hy (by rw [hs]; exact hb.there p m hp) (by rw [hs]; exact hi) h1 (h _ rfl)

theorem zok114 : ZOk 114 200 := ⟨by kernel_rfl, by kernel_rfl, by kernel_rfl⟩

theorem Blk.grownNone {T : TypeId} {n N : Nat} {W w w' : World} (h : Blk T n W N w) (hg : w.grownBy w' none) : Blk T n W N w' := by
  obtain ⟨cs, h1, h2, h3⟩ := h.blk
  exact ⟨⟨cs, (hg.block N h.lt (by simp)).trans h1, h2, h3⟩, h.low.grown hg (Nat.le_of_lt h.lt) (fun k hk => by cases hk)⟩

theorem Blk.cellSet {T : TypeId} {n N : Nat} {W w : World} (hB : Blk T n W N w) (i : Nat) (v : Value) (hi : i < n) : (w.setCell ⟨N, i, none⟩ v).cell? ⟨N, i, none⟩ = some v := by
  obtain ⟨cs, h1, h2, _⟩ := hB.blk
  rw [cell_of_row _ N i _ T (0, 0) (heap_setCell_same w N i cs T v h1)]
  simp [h2, hi]

/-- A value is stored into the block, then a row elsewhere grows. -/
theorem Blk.step {T : TypeId} {n N g : Nat} {W w w' : World} (hB : Blk T n W N w) (i : Nat) (v : Value) (hv : v.oneCell' = true) (hi : i < n) (hg : (w.setCell ⟨N, i, none⟩ v).grownBy w' (some g)) (hne : N < g) :
    Blk T n W N w' ∧ w'.cell? ⟨N, i, none⟩ = some v ∧ ∀ j, w'.frozen? ⟨N, j, none⟩ = false := by
  have h := (hB.set i v hv).grown hg hne
  exact ⟨h, hg.cell (hB.cellSet i v hi) (by simp; omega), h.frozen⟩

/-- A context is appended where there is room. -/
theorem append_ctx {ops : Array Oper} {rest : List Oper} {o : Oper} {a : Act} {Q : Exit → Act → World → Prop} {T : TypeId} {p : Nat} {W w : World} (hB : Blk T p W W.heap.size w) (B g k cap n c : Nat) (ad : Addr) (news : List Value)
    (hl : news.length = n) (hc : ∀ j u, news[j]? = some u → W.cell? (ad.add j) = some u) (h1 : ∀ u ∈ news, u.oneCell' = true)
    (hg : o.guard = none) (s x : Operand) (hop : o.op = Op.call { callee := Callee.builtin Builtin.append, args := #[s, x], argTypes := #[23, 23] })
    (hs : a.eval s = .slice (some ⟨g, 0, none⟩) k cap) (hx : a.eval x = .slice (some ad) n c) (hown : Own w B g k cap) (hroom : k + n ≤ cap)
    (hK : ∀ w', Own w' B g (k + n) cap → w.grownBy w' (some g) → wpList Tryz.prog ops Q rest (a.put o.dst (.slice (some ⟨g, 0, none⟩) (k + n) cap)) w') :
    wpList Tryz.prog ops Q (o :: rest) a w := by
  obtain ⟨i, hi, hz, hsz, hb⟩ := info_parts info5
  obtain ⟨xs, hown⟩ := hown
  refine wpList_append_fits _ hg s x 23 hop B 5 i 1 Tryz.underlying23 hi hsz g k cap xs hs hown ad n c news hx (by simp [hl]) (fun j u hu => ?_) h1 hroom fun w' h2 h3 => hK w' ⟨_, h2⟩ h3
  have hcell := hc j u hu
  rw [hB.low.cell (World.block_lt_of_cell? W _ hcell)]
  exact hcell

theorem size114 : (Tryz.prog.info? 114).map (·.size) = some 200 := by kernel_rfl
theorem size116 : (Tryz.prog.info? 116).map (·.size) = some 202 := by kernel_rfl
theorem size143 : (Tryz.prog.info? 143).map (·.size) = some 202 := by kernel_rfl

theorem arrayAt331 (a : Addr) (c : Nat) (w : World) : (Instr.arrayAt 331 (.slice (some a) 2 c)).run Tryz.prog w = .ok (.pointer (some a)) w := by
  unfold Instr.arrayAt
  simp [Sem.run_bind, run_underlying Tryz.underlying331]
end Go.Proofs.YtlmmdldjfpdcfaaGreatDoor
namespace Go.Proofs.YtlmmdldjfpdcfaaGreatDoor
open Go.RowKit

/-- The sponge's cells. -/
@[irreducible] noncomputable def sponge : Array Value := (Tryz.prog.built 114 [(1, .int .i64 168), (4, .int .u8 1), (8, .bool true)]).getD #[]
theorem sponge_some : (Tryz.prog.built 114 [(1, .int .i64 168), (4, .int .u8 1), (8, .bool true)]).isSome = true := by kernel_rfl
theorem sponge_size : sponge.size = 200 := by kernel_rfl
theorem sponge_one : sponge.all (·.oneCell') = true := by kernel_rfl
theorem sponge_eq : (Tryz.prog.built 114 [(1, .int .i64 168), (4, .int .u8 1), (8, .bool true)]).getD #[] = sponge := by unfold sponge; rfl

theorem build_sponge {ops : Array Oper} {rest : List Oper} {o : Oper} {a : Act} {w : World} {Q : Exit → Act → World → Prop} (hg : o.guard = none) (x : Operand) (hop : o.op = .build 114 #[(1, .const (.int .i64 168)), (4, x), (8, .const (.bool true))]) (hx : a.eval x = .int .u8 1)
    (h : ∀ cs : Array Value, cs.size = 200 → cs.all (·.oneCell') = true → wpList Tryz.prog ops Q rest (a.put o.dst (.agg cs)) w) : wpList Tryz.prog ops Q (o :: rest) a w := by
  have e : (#[((1 : Nat), Operand.const (.int .i64 168)), (4, x), (8, .const (.bool true))].map fun (i, x) => (i, a.eval x)).toList = [(1, .int .i64 168), (4, .int .u8 1), (8, .bool true)] := by
    simp only [List.map_toArray, List.map_cons, List.map_nil, hx]
    rfl
  refine wpList_build hg 114 _ hop ?_ ?_
  · rw [e]; exact sponge_some
  · rw [e, sponge_eq]
    exact h _ sponge_size sponge_one

set_option maxRecDepth 100000 in
set_option maxHeartbeats 1000000 in
theorem shake (W : World) :
    Calls Tryz.prog 105 #[.int .u8 1] W fun e w' => (∃ xs : Array Value, xs.size = 200 ∧ xs.all (·.oneCell') = true ∧ e = .returned (.agg xs)) ∧ Below W.heap.size W w' := by
  go_enter Tryz.func105, Tryz.ntmps105
  go_wp2_with (first | (refine new_big 114 200 zok114 rfl rfl ?_; intro w1 hw1; have hB := Blk.new zok114 W; rw [← hw1] at hB; clear hw1) | (refine build_sponge rfl _ rfl rfl ?_; intro cs hs1 hs2) | (refine store_blk 114 _ _ hB cs rfl rfl rfl rfl (by kernel_rfl) hs1 hs2 ?_))
  obtain ⟨cs', g1, g2, g3⟩ := (hB.setRow cs hs1 hs2).blk
  exact bodyPost_ret (results_cell_row rfl _ _ W.heap.size 114 cs' (0, 0) _ rfl g1 Tryz.underlying114 rfl (by rw [g2]; kernel_rfl)) rfl ⟨⟨cs', g2, g3, rfl⟩, (hB.setRow cs hs1 hs2).low⟩
end Go.Proofs.YtlmmdldjfpdcfaaGreatDoor
namespace Go.Proofs.YtlmmdldjfpdcfaaGreatDoor
open Go.RowKit

set_option maxRecDepth 100000 in
set_option maxHeartbeats 4000000 in
theorem xof81 (id : Nat) (n c : Nat) (ad : Addr) (news : List Value) (hn : n ≤ 4096) (W : World) (hl : news.length = n) (hc : ∀ j u, news[j]? = some u → W.cell? (ad.add j) = some u) (h1 : ∀ u ∈ news, u.oneCell' = true) :
    Calls Tryz.prog 81 #[.int .u32 id, .slice (some ad) n c] W fun e w' => (∃ xs : Array Value, xs.size = 202 ∧ xs.all (·.oneCell') = true ∧ e = .returned (.tuple #[.agg xs, .nilIface])) ∧ Below W.heap.size W w' := by
  obtain ⟨i5, hi, hz, hs, hb⟩ := info_parts info5
  have harr := arrayAt331
  go_enter Tryz.func81, Tryz.ntmps81
  go_wp2_with (first | (refine new_big 116 202 zok116 rfl rfl ?_; intro w1 hw1; have hB := Blk.new zok116 W; have c0 : w1.cell? ⟨W.heap.size, 0, none⟩ = some (.pointer none) := (by rw [hw1, cell_of_row _ _ 0 _ 116 (0, 0) (heap_alloc_new _ _)]; exact z116_0); have c1 : w1.cell? ⟨W.heap.size, 1, none⟩ = some (.slice none 0 0) := (by rw [hw1, cell_of_row _ _ 1 _ 116 (0, 0) (heap_alloc_new _ _)]; exact z116_1); rw [← hw1] at hB; clear hw1; have cf := hB.frozen) | (at_make; go_loud (refine wpList_make_own _ rfl _ _ 23 rfl (W.heap.size + 1) 5 i5 _ 1 Tryz.underlying23 hi hz hs _ _ _ (n + 11) rfl rfl (by omega) (by rw [hb]; omega) (by simp [maxLen] <;> omega) hB.lt ?_; intro w2 ho hg; have hNg := hB.lt; have ho : Own w2 (W.heap.size + 1) w1.heap.size 0 (n + 11) := ⟨_, ho⟩; generalize hg0 : w1.heap.size = g at ho hNg ⊢; have c1 := hg.cell c1 (by simp); have hB := hB.grownNone hg; have cf := hB.frozen)) | (go_at_call 102; go_loud (refine (app16le (W.heap.size + 1) g _ (n + 11) _ _ (ho.grown (grownBy_set _ _ 1 _) (by simp; omega)) (by omega)).mono ?_; rintro e w3 ⟨rfl, ho, hg⟩; obtain ⟨hB, c1, cf⟩ := hB.step 1 _ rfl (by omega) hg hNg)) | (go_at_call 103; go_loud (refine (app32be (W.heap.size + 1) g _ (n + 11) _ _ (ho.grown (grownBy_set _ _ 1 _) (by simp; omega)) (by omega)).mono ?_; rintro e w3 ⟨rfl, ho, hg⟩; obtain ⟨hB, c1, cf⟩ := hB.step 1 _ rfl (by omega) hg hNg)) | (go_at_call 104; go_loud (refine (app16be (W.heap.size + 1) g _ (n + 11) _ _ (ho.grown (grownBy_set _ _ 1 _) (by simp; omega)) (by omega)).mono ?_; rintro e w3 ⟨rfl, ho, hg⟩; obtain ⟨hB, c1, cf⟩ := hB.step 1 _ rfl (by omega) hg hNg)) | (at_builtin; refine append_new' _ _ (by simp) _ (W.heap.size + 1) g _ (n + 11) 1 rfl _ _ rfl rfl rfl rfl (by simp [Value.oneCell']) (ho.grown (grownBy_set _ _ 1 _) (by simp; omega)) (by omega) ?_; intro w3 ho hg; obtain ⟨hB, c1, cf⟩ := hB.step 1 _ rfl (by omega) hg hNg; obtain ⟨v0, c0⟩ := hB.cell 0 (by omega)) | (at_builtin; refine append_ctx (hB.set 1 _ rfl) (W.heap.size + 1) g _ (n + 11) n c ad news hl hc h1 rfl _ _ rfl rfl rfl (ho.grown (grownBy_set _ _ 1 _) (by simp; omega)) (by omega) ?_; intro w3 ho hg; obtain ⟨hB, c1, cf⟩ := hB.step 1 _ rfl (by omega) hg hNg) | (go_at_call 105; go_loud (refine (shake _).mono ?_; rintro e w5 ⟨⟨ss, hs1, hs2, rfl⟩, hbb⟩; have hB := ((hB.set 1 _ rfl).set 0 _ rfl).below hbb)) | (refine store_part 114 _ _ hB ss rfl rfl rfl rfl size114 hs1 (by omega) hs2 ?_; intro w6 hw6; have hB := hB.setCells ss.toList 2 _ (fun v hv => Array.all_eq_true_iff_forall_mem.1 hs2 v (by simpa using hv)); rw [← hw6] at hB; clear hw6) | (refine load_blk 116 _ hB rfl rfl rfl _ Tryz.underlying116 rfl size116 ?_; intro cs hc1 hc2 hc3) | (refine store_blk 116 _ _ hB cs rfl rfl rfl rfl size116 hc1 hc2 ?_; have hB := hB.setRow cs hc1 hc2))
  obtain ⟨cs', g1, g2, g3⟩ := hB.blk
  refine bodyPost_ret (v := .tuple #[.agg cs', .nilIface]) ?_ rfl ⟨⟨cs', g2, g3, rfl⟩, hB.low⟩
  rw [results_cell_tmp rfl]
  have hl := run_loadVar_row (P := Tryz.prog) _ W.heap.size 116 116 cs' (0, 0) _ g1 Tryz.underlying116 rfl (by rw [g2]; exact size116)
  simp [asAddr, hl]
end Go.Proofs.YtlmmdldjfpdcfaaGreatDoor
