/- The field of a kind, the least power of two, as the specification tells them. A circuit of the specification, and its polynomial's length. A region whose order is drawn, which makes one new variable: its number hangs on the order, nothing else does. The same law, the frame behind the region being told by what is laid in it. The beginning of a circuit, as the specification lays it. The circuit of kind 1, as the specification tells it. Steps on one cell of a block whose cells are known, and on numbers that are kept as naturals. A circuit in its variable: what is stored into one of its fields, and read from it. -/
import Derived.Test.YtlmmdldjfpdcfaaGreatDoorE10
import Derived.Test.YtlmmdldjfpdcfaaGreatDoorE02
import Derived.LoopN
import Derived.Test.YtlmmdldjfpdcfaaGreatDoorE03
import Derived.Test.YtlmmdldjfpdcfaaGreatDoorE04
import Derived.Laws.Closers25
namespace Go.Proofs.YtlmmdldjfpdcfaaGreatDoor
open Go.RowKit

abbrev fld64 : Array Value := #[.int .u64 18446744069414584321, .int .u64 0, .int .i64 8, .int .u64 1753635133440165772, .int .u64 0, .int .i64 32]
abbrev fld128 : Array Value := #[.int .u64 1, .int .u64 18446744073709551588, .int .i64 16, .int .u64 2277457303077691142, .int .u64 7865413326059086475, .int .i64 66]

set_option maxRecDepth 100000 in
theorem field1 (w : World) : Calls Tryz.prog 50 #[.int .i64 1] w fun e w' => e = .returned (.agg fld64) ∧ w' = w.alloc (.cells fld64 54) := by
  go_enter Tryz.func50, Tryz.ntmps50
  go_wp2
  exact bodyPost_ret (results_cell_row rfl _ _ w.heap.size 54 _ (0, 0) _ rfl (heap_alloc_new _ _) Tryz.underlying54 rfl (by kernel_rfl)) rfl ⟨rfl, rfl⟩
set_option maxRecDepth 100000 in
theorem field2 (w : World) : Calls Tryz.prog 50 #[.int .i64 2] w fun e w' => e = .returned (.agg fld64) ∧ w' = w.alloc (.cells fld64 54) := by
  go_enter Tryz.func50, Tryz.ntmps50
  go_wp2
  exact bodyPost_ret (results_cell_row rfl _ _ w.heap.size 54 _ (0, 0) _ rfl (heap_alloc_new _ _) Tryz.underlying54 rfl (by kernel_rfl)) rfl ⟨rfl, rfl⟩
set_option maxRecDepth 100000 in
theorem field3 (w : World) : Calls Tryz.prog 50 #[.int .i64 3] w fun e w' => e = .returned (.agg fld128) ∧ w' = w.alloc (.cells fld128 54) := by
  go_enter Tryz.func50, Tryz.ntmps50
  go_wp2
  exact bodyPost_ret (results_cell_row rfl _ _ w.heap.size 54 _ (0, 0) _ rfl (heap_alloc_new _ _) Tryz.underlying54 rfl (by kernel_rfl)) rfl ⟨rfl, rfl⟩
set_option maxRecDepth 100000 in
theorem field4 (w : World) : Calls Tryz.prog 50 #[.int .i64 4] w fun e w' => e = .returned (.agg fld128) ∧ w' = w.alloc (.cells fld128 54) := by
  go_enter Tryz.func50, Tryz.ntmps50
  go_wp2
  exact bodyPost_ret (results_cell_row rfl _ _ w.heap.size 54 _ (0, 0) _ rfl (heap_alloc_new _ _) Tryz.underlying54 rfl (by kernel_rfl)) rfl ⟨rfl, rfl⟩
set_option maxRecDepth 100000 in
theorem field5 (w : World) : Calls Tryz.prog 50 #[.int .i64 5] w fun e w' => e = .returned (.agg fld128) ∧ w' = w.alloc (.cells fld128 54) := by
  go_enter Tryz.func50, Tryz.ntmps50
  go_wp2
  exact bodyPost_ret (results_cell_row rfl _ _ w.heap.size 54 _ (0, 0) _ rfl (heap_alloc_new _ _) Tryz.underlying54 rfl (by kernel_rfl)) rfl ⟨rfl, rfl⟩

set_option maxRecDepth 100000 in
set_option maxHeartbeats 2000000 in
theorem power2_any (n : Nat) (h0 : 1 ≤ n) (hn : n < 1100) (w : World) :
    Calls Tryz.prog 80 #[.int .i64 n] w fun e w' => ∃ k : Nat, e = .returned (.tuple #[.int .i64 (pw n), .int .i64 k]) ∧ w' = w := by
  have hp := pw_uniq n
  have HP := Lib.hid hp
  clear hp
  go_enter Tryz.func80, Tryz.ntmps80
  go_wp2
  refine wp_loop_rounds 12 ?_
  iterate 12 (try any_goals (rw [rounds_succ]; go_wp2))
  all_goals first
    | exact bodyPost_ret (results_tmp2 rfl _ _ _) rfl ⟨0, by rw [HP.out 0 h0 hn (by omega) (by omega) (by omega)]; rfl, rfl⟩
    | exact bodyPost_ret (results_tmp2 rfl _ _ _) rfl ⟨1, by rw [HP.out 1 h0 hn (by omega) (by omega) (by omega)]; rfl, rfl⟩
    | exact bodyPost_ret (results_tmp2 rfl _ _ _) rfl ⟨2, by rw [HP.out 2 h0 hn (by omega) (by omega) (by omega)]; rfl, rfl⟩
    | exact bodyPost_ret (results_tmp2 rfl _ _ _) rfl ⟨3, by rw [HP.out 3 h0 hn (by omega) (by omega) (by omega)]; rfl, rfl⟩
    | exact bodyPost_ret (results_tmp2 rfl _ _ _) rfl ⟨4, by rw [HP.out 4 h0 hn (by omega) (by omega) (by omega)]; rfl, rfl⟩
    | exact bodyPost_ret (results_tmp2 rfl _ _ _) rfl ⟨5, by rw [HP.out 5 h0 hn (by omega) (by omega) (by omega)]; rfl, rfl⟩
    | exact bodyPost_ret (results_tmp2 rfl _ _ _) rfl ⟨6, by rw [HP.out 6 h0 hn (by omega) (by omega) (by omega)]; rfl, rfl⟩
    | exact bodyPost_ret (results_tmp2 rfl _ _ _) rfl ⟨7, by rw [HP.out 7 h0 hn (by omega) (by omega) (by omega)]; rfl, rfl⟩
    | exact bodyPost_ret (results_tmp2 rfl _ _ _) rfl ⟨8, by rw [HP.out 8 h0 hn (by omega) (by omega) (by omega)]; rfl, rfl⟩
    | exact bodyPost_ret (results_tmp2 rfl _ _ _) rfl ⟨9, by rw [HP.out 9 h0 hn (by omega) (by omega) (by omega)]; rfl, rfl⟩
    | exact bodyPost_ret (results_tmp2 rfl _ _ _) rfl ⟨10, by rw [HP.out 10 h0 hn (by omega) (by omega) (by omega)]; rfl, rfl⟩
    | exact bodyPost_ret (results_tmp2 rfl _ _ _) rfl ⟨11, by rw [HP.out 11 h0 hn (by omega) (by omega) (by omega)]; rfl, rfl⟩

end Go.Proofs.YtlmmdldjfpdcfaaGreatDoor
namespace Go.Proofs.YtlmmdldjfpdcfaaGreatDoor
open Go.RowKit

theorem size56 : (Tryz.prog.info? 56).map (·.size) = some 21 := by kernel_rfl

set_option maxRecDepth 100000 in
set_option maxHeartbeats 1000000 in
theorem domain_any (cs : Array Value) (calls : Nat) (hc : calls < 1099) (h18 : cs[18]? = some (.int .i64 calls)) (w : World) :
    Calls Tryz.prog 52 #[.agg cs] w fun e w' => ∃ k : Nat, e = .returned (.tuple #[.int .i64 (pw (1 + calls)), .int .i64 k]) ∧ w' = w.alloc (.cells cs 56) := by
  have hcell : (w.alloc (.cells cs 56)).cell? ⟨w.heap.size, 18, none⟩ = some (.int .i64 calls) := by rw [cell_of_row _ _ 18 cs 56 (0, 0) (heap_alloc_new _ _)]; exact h18
  clear h18
  go_enter Tryz.func52, Tryz.ntmps52
  go_wp2_with (go_at_call 80; go_loud (refine (power2_any (1 + calls) (by omega) (by omega) _).mono ?_; rintro e w' ⟨k, rfl, rfl⟩))
  exact bodyPost_ret (results_tmp2 rfl _ _ _) rfl ⟨k, rfl, rfl⟩

set_option maxRecDepth 100000 in
set_option maxHeartbeats 1000000 in
theorem poly_any (cs : Array Value) (calls : Nat) (hc : calls < 1099) (hs : cs.size = 21) (h18 : cs[18]? = some (.int .i64 calls)) (W : World) :
    Calls Tryz.prog 28 #[.agg cs] W fun e w' => e = .returned (.int .i64 (1 + 2 * (pw (1 + calls) - 1) : Nat)) ∧ Below W.heap.size W w' := by
  obtain ⟨hp1, hp2⟩ := pw_bounds (1 + calls) (by omega)
  have hblk : (W.alloc (.cells cs 56)).heap[W.heap.size]? = some (.cells cs 56 (0, 0)) := heap_alloc_new _ _
  have HD := Lib.hid (fun w => domain_any cs calls hc h18 w)
  clear h18
  go_enter Tryz.func28, Tryz.ntmps28
  go_wp2_with (first | (refine wpList_load_row rfl 56 _ rfl W.heap.size rfl 56 cs (0, 0) _ hblk Tryz.underlying56 rfl (by rw [hs]; exact size56) ?_) | (go_at_call 52; go_loud (refine (HD.out _).mono ?_; rintro e w' ⟨k, rfl, hw'⟩; have hlow : Below W.heap.size W w' := (by rw [hw']; exact ((Below.refl _ _).alloc (Nat.le_refl _) _).alloc (by simp) _); clear hw')))
  refine bodyPost_ret (results_tmp rfl _ _ _) rfl ⟨?_, hlow⟩
  simp
  omega
end Go.Proofs.YtlmmdldjfpdcfaaGreatDoor
namespace Go.Proofs.YtlmmdldjfpdcfaaGreatDoor
open Go.RowKit

section
variable {P : Program} {ops : Array Oper} {S0 : World → Prop} {S1 : Nat → World → Prop} {fin : Nat → Array Value}

theorem wpAny_steady' {fin : Array Value} {S : World → Prop} {n p : Nat} {ds : List Deferred} {Q : Exit → Act → World → Prop} (hn : n ≤ ops.size)
    (hH : headB ops n = true) (hT : n = ops.size ∨ (Region.sinkB .any ops n = true ∧ Region.chainB .any ops n = true)) (hq : Region.seqB .any ops (ops.size - n) n (tailArr ops.size n) = true)
    (hG : ∀ i o, i < n → ops[i]? = some o → i ≠ p → Good P S fin o ∧ o.guard = none ∧ ∀ d, o.dst = some d → d < fin.size) (hL : ∀ w, S w → wpList P ops Q (ops.toList.drop n) ⟨fin, ds⟩ w) :
    ∀ (f : Nat) (listed : Array Bool) (a : Act) (w : World), listed.getD p false = true → Inv ops n fin ds listed a → cnt listed n = f → S w → wpAny P .any ops Q (f + (ops.size - n)) listed a w
  | 0, listed, a, w, _, inv, hc, hS => by
    have hall := cnt_zero hc
    have hz := inv.hd.size
    have hl : listed = tailArr ops.size n := by
      refine Array.ext (by simp [tailArr, hz]) fun j h1 h2 => ?_
      have hj : j < ops.size := by omega
      have : listed.getD j true = decide (j < n) := by
        rcases Nat.lt_or_ge j n with h | h
        · simp [hall j h, h]
        · simp [inv.hd.tail j h hj, h]
      simpa [tailArr, h1] using this
    have ha : a = ⟨fin, ds⟩ := by
      have h1 : a.tmps = fin := by
        refine Array.ext_getElem? fun d => ?_
        by_cases h : ∀ p ∈ ops.toList.take n, p.dst ≠ some d
        · exact inv.old d h
        · obtain ⟨p, hp⟩ := Classical.not_forall.1 h
          obtain ⟨hp, hd⟩ := Classical.not_imp.1 hp
          obtain ⟨j, hj, hjp⟩ := List.getElem_of_mem hp
          have hjn : j < n := by simp at hj; omega
          have hjo : ops[j]? = some p := by rw [← hjp]; simp [show j < ops.size by omega]
          refine inv.put j p d hjn hjo (Classical.not_not.1 hd) ?_
          have := hall j hjn
          have hjz : j < listed.size := by omega
          simpa [hjz] using this
      have h2 := inv.defers
      cases a; simp_all
    subst hl ha
    have := wpAny_of_seq (md := .any) (Q' := Q) (ops.toList.drop n) n (tailArr ops.size n) _ w (fun j => by simp [List.getElem?_drop]) (by simpa using hq) (hL w hS)
    simpa using this
  | f + 1, listed, a, w, hpl, inv, hc, hS => by
    rw [show f + 1 + (ops.size - n) = (f + (ops.size - n)) + 1 by omega]
    obtain ⟨i0, hi0, hu0⟩ := cnt_pos (listed := listed) (n := n) (by omega)
    have hz := inv.hd.size
    refine ⟨fun h => absurd h (ready_some hH hn hz i0 hi0 hu0), fun i hi => ?_⟩
    have hin : i < n := by
      rcases hT with h | ⟨h1, h2⟩
      · obtain ⟨_, o, ho, _⟩ := mem_ready.1 hi
        have := (Array.getElem?_eq_some_iff.1 ho).1
        omega
      · rcases Nat.lt_or_ge i n with h | h
        · exact h
        · have : i < ops.size := by
            obtain ⟨_, o, ho, _⟩ := mem_ready.1 hi
            exact (Array.getElem?_eq_some_iff.1 ho).1
          exact absurd hi (tail_waits h1 h2 (by omega) inv.hd _ i0 rfl hi0 hu0 i h)
    obtain ⟨hun, o, ho, haf⟩ := mem_ready.1 hi
    have hip : i ≠ p := fun e => by
      rw [e] at hun
      rw [getD_both hun] at hpl
      cases hpl
    obtain ⟨hgood, hg, hN⟩ := hG i o hin ho hip
    unfold wpOp
    simp only [ho, wanted_none hg, if_true]
    refine .inl (hgood a w _ Q hS (fun t ht => ?_) fun w' u hS' hu => wpAny_steady' hn hH hT hq hG hL f _ _ w' (getD_set_true hpl) (inv.set hi hin ho hN hu) ?_ hS')
    · have h1 := List.all_eq_true.1 hH i (List.mem_range.2 hin)
      simp only [ho, Bool.and_eq_true, List.all_eq_true] at h1
      have h2 := h1.2 t ht
      simp only [Bool.or_eq_true] at h2
      rcases h2 with h2 | h2
      · obtain ⟨e, he, hb⟩ := Array.any_eq_true'.1 h2
        simp only [Bool.and_eq_true, beq_iff_eq, Option.bind_eq_some_iff] at hb
        obtain ⟨hb, p, hp, hpd⟩ := hb
        have h3 := Array.all_eq_true_iff_forall_mem.1 h1.1 e he
        simp only [hb, Bool.not_true, Bool.false_or, decide_eq_true_eq] at h3
        exact inv.put e.on p t (by omega) hp hpd (haf e he hb)
      · refine inv.old t fun p hp hpd => ?_
        simp only [writesB, Bool.not_eq_true', List.any_eq_false] at h2
        exact h2 p hp (by simp [hpd])
    · have := cnt_set hun hin
      omega

/-- What the operation that makes the variable does. -/
def Makes (P : Program) (S0 : World → Prop) (S1 : Nat → World → Prop) (o : Oper) : Prop :=
  ∀ (b : Act) (w : World), S0 w → ∃ M w', (execOp b.eval o).run P w = .ok (.value (.pointer (some ⟨M, 0, none⟩))) w' ∧ S1 M w'

theorem wpAny_steady_new {n p d : Nat} {op : Oper} {ds : List Deferred} {Q : Exit → Act → World → Prop} (hn : n ≤ ops.size)
    (hH : headB ops n = true) (hT : n = ops.size ∨ (Region.sinkB .any ops n = true ∧ Region.chainB .any ops n = true)) (hq : Region.seqB .any ops (ops.size - n) n (tailArr ops.size n) = true)
    (hp : p < n) (hop : ops[p]? = some op) (hod : op.dst = some d) (hog : op.guard = none) (hmk : Makes P S0 S1 op)
    (hfin : ∀ M, (fin M).size = (fin 0).size ∧ d < (fin M).size ∧ (fin M)[d]? = some (.pointer (some ⟨M, 0, none⟩)) ∧ ∀ t, t ≠ d → (fin M)[t]? = (fin 0)[t]?)
    (hdd : ∀ i o, i < n → ops[i]? = some o → i ≠ p → o.dst ≠ some d)
    (hG : ∀ i o, i < n → ops[i]? = some o → i ≠ p → (∀ M, Good P (S1 M) (fin M) o) ∧ o.guard = none ∧ ∀ t, o.dst = some t → t < (fin 0).size)
    (hG0 : ∀ i o, i < n → ops[i]? = some o → i ≠ p → (∀ e ∈ o.after, Region.binds .any e = true → e.on ≠ p) → d ∉ reads o ∧ Good P S0 (fin 0) o)
    (hL : ∀ M w, S1 M w → wpList P ops Q (ops.toList.drop n) ⟨fin M, ds⟩ w) :
    ∀ (f : Nat) (listed : Array Bool) (a : Act) (w : World), listed.getD p true = false → Inv ops n (fin 0) ds listed a → cnt listed n = f → S0 w → wpAny P .any ops Q (f + (ops.size - n)) listed a w
  | 0, listed, a, w, hpu, _, hc, _ => by
    have := cnt_zero hc p hp
    rw [hpu] at this
    cases this
  | f + 1, listed, a, w, hpu, inv, hc, hS => by
    rw [show f + 1 + (ops.size - n) = (f + (ops.size - n)) + 1 by omega]
    have hz := inv.hd.size
    refine ⟨fun h => absurd h (ready_some hH hn hz p hp hpu), fun i hi => ?_⟩
    obtain ⟨hun, o, ho, haf⟩ := mem_ready.1 hi
    have hio : i < ops.size := (Array.getElem?_eq_some_iff.1 ho).1
    have hin : i < n := by
      rcases hT with h | ⟨h1, h2⟩
      · omega
      · rcases Nat.lt_or_ge i n with h | h
        · exact h
        · exact absurd hi (tail_waits h1 h2 (by omega) inv.hd _ p rfl hp hpu i h)
    by_cases hip : i = p
    · subst hip
      have : o = op := Option.some.inj (ho.symm.trans hop)
      subst this
      obtain ⟨M, w', hrun, hS1⟩ := hmk a w hS
      unfold wpOp
      simp only [ho, wanted_none hog, if_true]
      refine .inl ?_
      unfold Oper.wp
      rw [hrun]
      simp only [Oper.upon]
      obtain ⟨f1, f2, f3, f4⟩ := hfin M
      have inv' : Inv ops n (fin M) ds listed a := by
        refine ⟨inv.hd, fun j q t hj hq' hqt hl => ?_, fun t ht => ?_, by rw [inv.size, f1], inv.defers⟩
        · have hjp : j ≠ i := fun e => by
            subst e
            rw [getD_both hpu] at hl
            cases hl
          have htd : t ≠ d := fun e => hdd j q hj hq' hjp (e ▸ hqt)
          rw [f4 t htd]
          exact inv.put j q t hj hq' hqt hl
        · have htd : t ≠ d := fun e => by
            refine ht o ?_ (e ▸ hod)
            rw [List.mem_iff_getElem]
            exact ⟨i, by simp; omega, by have := (Array.getElem?_eq_some_iff.1 ho).2; simp [this]⟩
          rw [f4 t htd]
          exact inv.old t ht
      refine wpAny_steady' (p := i) hn hH hT hq (fun j q hjn hjo hji => ?_) (hL M) f _ _ w' ?_ (inv'.set hi hp ho (fun t ht => ?_) (fun t ht => ?_)) ?_ hS1
      · obtain ⟨g1, g2, g3⟩ := hG j q hjn hjo hji
        exact ⟨g1 M, g2, fun t ht => by rw [f1]; exact g3 t ht⟩
      · have : i < listed.size := by omega
        simp [this]
      · rw [hod] at ht; cases ht; exact f2
      · rw [hod] at ht; cases ht; exact f3
      · have := cnt_set hun hp
        omega
    · have hno : ∀ e ∈ o.after, Region.binds .any e = true → e.on ≠ p := fun e he hb heq => by
        have := haf e he hb
        rw [heq, getD_both hpu] at this
        cases this
      obtain ⟨g1, g2⟩ := hG0 i o hin ho hip hno
      obtain ⟨_, g3, g4⟩ := hG i o hin ho hip
      unfold wpOp
      simp only [ho, wanted_none g3, if_true]
      refine .inl (g2 a w _ Q hS (fun t ht => ?_) fun w' u hS' hu => wpAny_steady_new hn hH hT hq hp hop hod hog hmk hfin hdd hG hG0 hL f _ _ w' (by rw [getD_set_ne true hip]; exact hpu) (inv.set hi hin ho g4 hu) ?_ hS')
      · have h1 := List.all_eq_true.1 hH i (List.mem_range.2 hin)
        simp only [ho, Bool.and_eq_true, List.all_eq_true] at h1
        have h2 := h1.2 t ht
        simp only [Bool.or_eq_true] at h2
        rcases h2 with h2 | h2
        · obtain ⟨e, he, hb⟩ := Array.any_eq_true'.1 h2
          simp only [Bool.and_eq_true, beq_iff_eq, Option.bind_eq_some_iff] at hb
          obtain ⟨hb, q, hq1, hqd⟩ := hb
          have h3 := Array.all_eq_true_iff_forall_mem.1 h1.1 e he
          simp only [hb, Bool.not_true, Bool.false_or, decide_eq_true_eq] at h3
          exact inv.put e.on q t (by omega) hq1 hqd (haf e he hb)
        · refine inv.old t fun q hq1 hqd => ?_
          simp only [writesB, Bool.not_eq_true', List.any_eq_false] at h2
          exact h2 q hq1 (by simp [hqd])
      · have := cnt_set hun hin
        omega

/-- The closed conditions on a region that makes one variable, by operation p, into slot d. -/
def newB (ops : Array Oper) (n p d N : Nat) : Bool :=
  decide (n ≤ ops.size) && decide (p < n) && headB ops n && (decide (n = ops.size) || (Region.sinkB .any ops n && Region.chainB .any ops n)) &&
  Region.seqB .any ops (ops.size - n) n (tailArr ops.size n) && Region.noSelect ops && (List.range n).all fun i => match ops[i]? with
    | none => false
    | some o => o.guard.isNone && (match o.dst with | some t => decide (t < N) | none => true) && (if i == p then o.dst == some d else o.dst != some d)

theorem wp_region_new {id : Nat} {Q : Exit → Act → World → Prop} {w : World} {l : List Oper} {ds : List Deferred} {init : Array Value} (n p d : Nat) (op : Oper) (hm : P.follows .mixedOrders = true)
    (hB : newB l.toArray n p d (fin 0).size = true) (hop : l[p]? = some op) (hmk : Makes P S0 S1 op)
    (hfin : ∀ M, (fin M).size = (fin 0).size ∧ d < (fin M).size ∧ (fin M)[d]? = some (.pointer (some ⟨M, 0, none⟩)) ∧ ∀ t, t ≠ d → (fin M)[t]? = (fin 0)[t]?)
    (hi1 : init.size = (fin 0).size) (hi2 : ∀ t, (∀ q ∈ l.take n, q.dst ≠ some t) → init[t]? = (fin 0)[t]?)
    (h1 : ∀ M i o, i < n → l[i]? = some o → i ≠ p → ∀ w, S1 M w → wpList P #[] (one (S1 M) ⟨fin M, ds⟩ ⟨fin M, ds⟩) [o] ⟨fin M, ds⟩ w)
    (h0 : ∀ i o, i < n → l[i]? = some o → i ≠ p → d ∉ reads o ∧ ∀ w, S0 w → wpList P #[] (one S0 ⟨fin 0, ds⟩ ⟨fin 0, ds⟩) [o] ⟨fin 0, ds⟩ w)
    (hS : S0 w.drew) (hL : ∀ M w, S1 M w → wpList P l.toArray Q (l.drop n) ⟨fin M, ds⟩ w) : (Code.region id l.toArray true).wp P Q ⟨init, ds⟩ w := by
  simp only [newB, Bool.and_eq_true, Bool.or_eq_true, decide_eq_true_eq, List.all_eq_true, List.mem_range] at hB
  obtain ⟨⟨⟨⟨⟨⟨b1, b2⟩, b3⟩, b4⟩, b5⟩, b6⟩, b7⟩ := hB
  have hops : ∀ i : Nat, l.toArray[i]? = l[i]? := fun i => by simp
  have hb : ∀ i o, i < n → l.toArray[i]? = some o → o.guard = none ∧ (∀ t, o.dst = some t → t < (fin 0).size) ∧ (if i == p then o.dst == some d else o.dst != some d) = true := fun i o hi ho => by
    have := b7 i hi
    simp only [ho, Bool.and_eq_true, Option.isNone_iff_eq_none] at this
    refine ⟨this.1.1, fun t ht => ?_, this.2⟩
    have h2 := this.1.2
    simpa [ht] using h2
  have hod : op.dst = some d := by
    have := (hb p op b2 (by rw [hops]; exact hop)).2.2
    simpa using this
  have hgood : ∀ (S : World → Prop) (F : Array Value) (i : Nat) (o : Oper), i < n → l.toArray[i]? = some o → F.size = (fin 0).size → (∀ w, S w → wpList P #[] (one S ⟨F, ds⟩ ⟨F, ds⟩) [o] ⟨F, ds⟩ w) → Good P S F o := fun S F i o hi ho hF hl =>
    good_of_one (hb i o hi ho).1 (fun cs b => Region.noSelect_spec b6 i o cs b ho) hl (fun _ _ => rfl) fun t ht => ⟨by show t < F.size; rw [hF]; exact (hb i o hi ho).2.1 t ht, rfl⟩
  refine wp_region_any hm ?_
  have inv : Inv l.toArray n (fin 0) ds (Array.replicate l.toArray.size false) ⟨init, ds⟩ := by
    refine ⟨⟨by simp, fun j oj _ hl => (by rw [getD_replicate_false] at hl; cases hl), fun t _ ht => getD_in (by simpa using ht) (getD_replicate_false _ _)⟩, fun j o d _ _ _ hl => (by rw [getD_replicate_false] at hl; cases hl), fun t ht => hi2 t ht, hi1, rfl⟩
  have := wpAny_steady_new (P := P) (S0 := S0) (S1 := S1) (fin := fin) (ds := ds) (Q := Q) b1 b3 b4 b5 b2 (by rw [hops]; exact hop) hod (hb p op b2 (by rw [hops]; exact hop)).1 hmk hfin
    (fun i o hi ho hip => by have := (hb i o hi ho).2.2; simpa [hip] using this)
    (fun i o hi ho hip => ⟨fun M => hgood _ _ i o hi ho (hfin M).1 (h1 M i o hi (by rw [← hops]; exact ho) hip), (hb i o hi ho).1, (hb i o hi ho).2.1⟩)
    (fun i o hi ho hip _ => ⟨(h0 i o hi (by rw [← hops]; exact ho) hip).1, hgood _ _ i o hi ho rfl (h0 i o hi (by rw [← hops]; exact ho) hip).2⟩)
    hL n _ ⟨init, ds⟩ w.drew (getD_in (by rw [Array.size_replicate]; exact Nat.lt_of_lt_of_le b2 b1) (getD_replicate_false _ _)) inv (cnt_none _ n b1) hS
  rwa [show n + (l.toArray.size - n) = l.toArray.size by omega] at this

end
end Go.Proofs.YtlmmdldjfpdcfaaGreatDoor
namespace Go.Proofs.YtlmmdldjfpdcfaaGreatDoor
open Go.RowKit

/-- Values laid into slots. -/
def puts (init : Array Value) : List (Nat × Value) → Array Value
  | [] => init
  | (t, v) :: r => puts (init.setIfInBounds t v) r

theorem puts_size : ∀ (vals : List (Nat × Value)) (init : Array Value), (puts init vals).size = init.size
  | [], _ => rfl
  | (t, v) :: r, init => by rw [puts, puts_size r]; simp

theorem puts_other (t : Nat) : ∀ (vals : List (Nat × Value)) (init : Array Value), (∀ q ∈ vals, q.1 ≠ t) → (puts init vals)[t]? = init[t]?
  | [], _, _ => rfl
  | (u, v) :: r, init, h => by
    rw [puts, puts_other t r _ (fun q hq => h q (List.mem_cons_of_mem _ hq)), Array.getElem?_setIfInBounds_ne (h (u, v) (List.mem_cons_self ..))]

/-- The frame behind the region. -/
def finOf (init : Array Value) (vals : List (Nat × Value)) (d M : Nat) : Array Value := (puts init vals).setIfInBounds d (.pointer (some ⟨M, 0, none⟩))

theorem wp_region_new' {P : Program} {S0 : World → Prop} {S1 : Nat → World → Prop} {id : Nat} {Q : Exit → Act → World → Prop} {w : World} {l : List Oper} {ds : List Deferred} {init : Array Value} (vals : List (Nat × Value)) (n p d N : Nat) (op : Oper) (hm : P.follows .mixedOrders = true)
    (hN : init.size = N) (hB : newB l.toArray n p d N = true) (hop : l[p]? = some op) (hd : d < N) (hvw : (vals.all fun q => (l.take n).any fun o => o.dst == some q.1) = true) (hdw : ((l.take n).any fun o => o.dst == some d) = true) (hmk : Makes P S0 S1 op)
    (h1 : ∀ M i o, i < n → l[i]? = some o → i ≠ p → ∀ w, S1 M w → wpList P #[] (one (S1 M) ⟨finOf init vals d M, ds⟩ ⟨finOf init vals d M, ds⟩) [o] ⟨finOf init vals d M, ds⟩ w)
    (h0 : ∀ i o, i < n → l[i]? = some o → i ≠ p → d ∉ reads o ∧ ∀ w, S0 w → wpList P #[] (one S0 ⟨finOf init vals d 0, ds⟩ ⟨finOf init vals d 0, ds⟩) [o] ⟨finOf init vals d 0, ds⟩ w)
    (hS : S0 w.drew) (hL : ∀ M w, S1 M w → wpList P l.toArray Q (l.drop n) ⟨finOf init vals d M, ds⟩ w) : (Code.region id l.toArray true).wp P Q ⟨init, ds⟩ w := by
  have hsz : ∀ M, (finOf init vals d M).size = N := fun M => by simp [finOf, puts_size, hN]
  refine wp_region_new (fin := finOf init vals d) n p d op hm (by rw [hsz]; exact hB) hop hmk (fun M => ⟨by rw [hsz, hsz], by rw [hsz]; exact hd, ?_, fun t ht => ?_⟩) (by rw [hsz, hN]) (fun t ht => ?_) h1 h0 hS hL
  · exact Array.getElem?_setIfInBounds_self_of_lt (by rw [puts_size, hN]; exact hd)
  · simp [finOf, Array.getElem?_setIfInBounds_ne (Ne.symm ht)]
  · have htd : t ≠ d := fun e => by
      obtain ⟨o, ho, hod⟩ := List.any_eq_true.1 hdw
      have hod := (beq_iff_eq ..).1 hod
      exact ht o ho (e ▸ hod)
    rw [finOf, Array.getElem?_setIfInBounds_ne (Ne.symm htd), puts_other t vals init (fun q hq e => ?_)]
    obtain ⟨o, ho, hoq⟩ := List.any_eq_true.1 (List.all_eq_true.1 hvw q hq)
    have hoq := (beq_iff_eq ..).1 hoq
    exact ht o ho (e ▸ hoq)
end Go.Proofs.YtlmmdldjfpdcfaaGreatDoor
namespace Go.Proofs.YtlmmdldjfpdcfaaGreatDoor
open Go.RowKit

theorem zok56 : ZOk 56 21 := ⟨by kernel_rfl, by kernel_rfl, by kernel_rfl⟩

/-- A kind's cells. -/
abbrev kindC (kd : Int) (s len b q x : Nat) (ctx : Value) : Array Value := #[.int .i64 kd, .int .i64 s, .int .i64 len, .int .i64 b, .int .i64 q, .int .u64 x, ctx]

/-- A circuit's cells at the beginning. -/
abbrev circ0 (kd : Int) (s len b q x : Nat) (ctx : Value) (f0 f1 f3 f4 : Int) (f2 f5 : Int) : Array Value :=
  #[.int .i64 kd, .int .i64 s, .int .i64 len, .int .i64 b, .int .i64 q, .int .u64 x, ctx, .int .u64 f0, .int .u64 f1, .int .i64 f2, .int .u64 f3, .int .u64 f4, .int .i64 f5,
    .int .i64 1, .int .i64 0, .int .i64 1, .int .i64 1, .int .i64 2, .int .i64 1, .int .i64 0, .int .u64 0]

theorem built56 (kd : Int) (s len b q x : Nat) (ao : Option Addr) (n c : Nat) (f0 f1 f3 f4 : Int) (f2 f5 : Int) :
    Tryz.prog.built 56 [(0, .agg (kindC kd s len b q x (.slice ao n c))), (1, .agg #[.int .u64 f0, .int .u64 f1, .int .i64 f2, .int .u64 f3, .int .u64 f4, .int .i64 f5]), (2, .int .i64 1), (4, .int .i64 1), (5, .int .i64 1), (6, .int .i64 2), (7, .int .i64 1)] = some (circ0 kd s len b q x (.slice ao n c) f0 f1 f3 f4 f2 f5) := by kernel_rfl

/-- A kind in its box, a circuit's variable behind it, and whatever above. -/
structure Ca (W : World) (ks : Array Value) (w : World) : Prop where
  box : w.heap[W.heap.size]? = some (.cells ks 25 (0, 0))
  res : w.heap[W.heap.size + 1]? = some (.cells (zOf 56).cells 56 (0, 0))
  low : Below W.heap.size W w

structure Cb (W : World) (ks : Array Value) (M : Nat) (w : World) : Prop where
  a : Ca W ks w
  blk : w.heap[M]? = some (.cells (zOf 56).cells 56 (0, 0))
  up : W.heap.size + 1 < M

theorem Ca.below {W : World} {ks : Array Value} {w w' : World} (h : Ca W ks w) (hb : Below w.heap.size w w') : Ca W ks w' :=
  ⟨(hb.block _ (lt_of_block h.box)).trans h.box, (hb.block _ (lt_of_block h.res)).trans h.res, h.low.trans (hb.mono (Nat.le_of_lt (lt_of_block h.box)))⟩
theorem Cb.below {W : World} {ks : Array Value} {M : Nat} {w w' : World} (h : Cb W ks M w) (hb : Below w.heap.size w w') : Cb W ks M w' :=
  ⟨h.a.below hb, (hb.block _ (lt_of_block h.blk)).trans h.blk, h.up⟩
theorem Ca.drew {W : World} {ks : Array Value} {w : World} (h : Ca W ks w) : Ca W ks w.drew := ⟨h.box, h.res, h.low.drew⟩

theorem makes56 {W : World} {ks : Array Value} {o : Oper} (hop : o.op = .alloc 56) : Makes Tryz.prog (Ca W ks) (Cb W ks) o := fun _ w h =>
  ⟨w.heap.size, _, run_new w 56 _ zok56.z hop, ⟨h.below ((Below.refl _ _).alloc (Nat.le_refl _) _), heap_alloc_new _ _, lt_of_block h.res⟩⟩

/-- The circuit is built of a kind and a field. -/
theorem build_circ {ops : Array Oper} {rest : List Oper} {o : Oper} {a : Act} {w : World} {Q : Exit → Act → World → Prop} (kd : Int) (s len b q x : Nat) (ao : Option Addr) (n c : Nat) (f0 f1 f3 f4 : Int) (f2 f5 : Int)
    (hg : o.guard = none) (y z : Operand) (hop : o.op = .build 56 #[(0, y), (1, z), (2, .const (.int .i64 1)), (4, .const (.int .i64 1)), (5, .const (.int .i64 1)), (6, .const (.int .i64 2)), (7, .const (.int .i64 1))])
    (hy : a.eval y = .agg (kindC kd s len b q x (.slice ao n c))) (hz : a.eval z = .agg #[.int .u64 f0, .int .u64 f1, .int .i64 f2, .int .u64 f3, .int .u64 f4, .int .i64 f5])
    (h : wpList Tryz.prog ops Q rest (a.put o.dst (.agg (circ0 kd s len b q x (.slice ao n c) f0 f1 f3 f4 f2 f5))) w) : wpList Tryz.prog ops Q (o :: rest) a w := by
  have e : (#[((0 : Nat), y), (1, z), (2, Operand.const (.int .i64 1)), (4, .const (.int .i64 1)), (5, .const (.int .i64 1)), (6, .const (.int .i64 2)), (7, .const (.int .i64 1))].map fun (i, x) => (i, a.eval x)).toList =
      [(0, .agg (kindC kd s len b q x (.slice ao n c))), (1, .agg #[.int .u64 f0, .int .u64 f1, .int .i64 f2, .int .u64 f3, .int .u64 f4, .int .i64 f5]), (2, .int .i64 1), (4, .int .i64 1), (5, .int .i64 1), (6, .int .i64 2), (7, .int .i64 1)] := by
    simp only [List.map_toArray, List.map_cons, List.map_nil, hy, hz]
    rfl
  refine wpList_build hg 56 _ hop ?_ ?_
  · rw [e, built56]; rfl
  · rw [e, built56]; exact h

theorem below_setRow' {N R : Nat} {W w : World} (h : Below N W w) (hR : N ≤ R) (cs : Array Value) : Below N W (w.setRow R cs) :=
  ⟨h.os, h.tape, h.output, by simpa [World.setRow] using h.size, fun k hk => (setRow_other w R k cs (by omega)).trans (h.block k hk)⟩
end Go.Proofs.YtlmmdldjfpdcfaaGreatDoor
namespace Go.Proofs.YtlmmdldjfpdcfaaGreatDoor
open Go.RowKit

set_option maxRecDepth 100000 in
set_option maxHeartbeats 4000000 in
theorem circuit1 (s len b q x n c : Nat) (ao : Option Addr) (W : World) :
    Calls Tryz.prog 27 #[kindV 1 s len b q x (.slice ao n c)] W fun e w' => e = .returned (.agg (circ0 1 s len b q x (.slice ao n c) 18446744069414584321 0 1753635133440165772 0 8 32)) ∧ Below W.heap.size W w' := by
  have hC : Ca W (kindC 1 s len b q x (.slice ao n c)) ((W.alloc (.cells (kindC 1 s len b q x (.slice ao n c)) 25)).alloc (.cells (zOf 56).cells 56)) :=
    ⟨(heap_alloc_old _ _ (by simp)).trans (heap_alloc_new _ _), by simpa using heap_alloc_new (W.alloc (.cells (kindC 1 s len b q x (.slice ao n c)) 25)) (.cells (zOf 56).cells 56), ((Below.refl _ _).alloc (Nat.le_refl _) _).alloc (by simp) _⟩
  go_enter Tryz.func27, Tryz.ntmps27
  go_wp2_with (first | (refine new_big 56 21 zok56 rfl rfl ?_; intro w1 hw1; rw [← hw1] at hC; clear hw1))
  have hsz : (W.alloc (.cells (kindC 1 s len b q x (.slice ao n c)) 25)).heap.size = W.heap.size + 1 := by simp
  rw [hsz]
  generalize hk : kindC 1 s len b q x (.slice ao n c) = ks at hC
  refine wp_region_new' (S0 := Ca W ks) (S1 := Cb W ks) [(5, .agg ks), (6, .pointer (some ⟨W.heap.size, 0, none⟩)), (7, .int .i64 1), (8, .agg fld64), (9, .agg (circ0 1 s len b q x (.slice ao n c) 18446744069414584321 0 1753635133440165772 0 8 32))] 6 5 3 97 _ rfl rfl (by kernel_rfl) rfl (by omega) rfl rfl (makes56 rfl) ?_ ?_ hC.drew ?_
  · intro M i o hi ho hip w hS
    simp only [finOf, puts, List.setIfInBounds_toArray, List.set_cons_zero, List.set_cons_succ]
    rcases i with _ | _ | _ | _ | _ | _ | i
    · injection ho with ho
      subst ho
      refine wpList_load_row rfl 25 _ rfl W.heap.size rfl 25 ks (0, 0) _ hS.a.box Tryz.underlying25 rfl (by rw [← hk]; kernel_rfl) ?_
      go_wp2
      exact ⟨rfl, rfl, rfl, hS⟩
    · injection ho with ho
      subst ho
      go_wp2
      exact ⟨rfl, rfl, rfl, hS⟩
    · injection ho with ho
      subst ho
      have k0 : w.cell? ⟨W.heap.size, 0, none⟩ = some (.int .i64 1) := by rw [cell_of_row w _ 0 ks 25 (0, 0) hS.a.box, ← hk]; rfl
      go_wp2
      exact ⟨rfl, rfl, rfl, hS⟩
    · injection ho with ho
      subst ho
      have hS2 := hS.below ((Below.refl _ _).alloc (Nat.le_refl _) (.cells fld64 54))
      go_wp2_with (go_at_call 50; go_loud (refine (field1 _).mono ?_; rintro e w2 ⟨rfl, hw2⟩; rw [← hw2] at hS2; clear hw2))
      exact ⟨rfl, rfl, rfl, hS2⟩
    · injection ho with ho
      subst ho
      refine build_circ 1 s len b q x ao n c 18446744069414584321 0 1753635133440165772 0 8 32 rfl _ _ rfl (by rw [hk]; rfl) rfl ?_
      go_wp2
      exact ⟨rfl, rfl, rfl, hS⟩
    · exact absurd rfl hip
    · omega
  · intro i o hi ho hip
    simp only [finOf, puts, List.setIfInBounds_toArray, List.set_cons_zero, List.set_cons_succ]
    rcases i with _ | _ | _ | _ | _ | _ | i
    · injection ho with ho
      subst ho
      refine ⟨by decide, fun w hS => ?_⟩
      refine wpList_load_row rfl 25 _ rfl W.heap.size rfl 25 ks (0, 0) _ hS.box Tryz.underlying25 rfl (by rw [← hk]; kernel_rfl) ?_
      go_wp2
      exact ⟨rfl, rfl, rfl, hS⟩
    · injection ho with ho
      subst ho
      refine ⟨by decide, fun w hS => ?_⟩
      go_wp2
      exact ⟨rfl, rfl, rfl, hS⟩
    · injection ho with ho
      subst ho
      refine ⟨by decide, fun w hS => ?_⟩
      have k0 : w.cell? ⟨W.heap.size, 0, none⟩ = some (.int .i64 1) := by rw [cell_of_row w _ 0 ks 25 (0, 0) hS.box, ← hk]; rfl
      go_wp2
      exact ⟨rfl, rfl, rfl, hS⟩
    · injection ho with ho
      subst ho
      refine ⟨by decide, fun w hS => ?_⟩
      have hS2 := hS.below ((Below.refl _ _).alloc (Nat.le_refl _) (.cells fld64 54))
      go_wp2_with (go_at_call 50; go_loud (refine (field1 _).mono ?_; rintro e w2 ⟨rfl, hw2⟩; rw [← hw2] at hS2; clear hw2))
      exact ⟨rfl, rfl, rfl, hS2⟩
    · injection ho with ho
      subst ho
      refine ⟨by decide, fun w hS => ?_⟩
      refine build_circ 1 s len b q x ao n c 18446744069414584321 0 1753635133440165772 0 8 32 rfl _ _ rfl (by rw [hk]; rfl) rfl ?_
      go_wp2
      exact ⟨rfl, rfl, rfl, hS⟩
    · exact absurd rfl hip
    · omega
  · intro M w hS
    simp only [finOf, puts, List.setIfInBounds_toArray, List.set_cons_zero, List.set_cons_succ, List.drop_succ_cons, List.drop_zero]
    refine wpList_store_row rfl 56 _ _ rfl M (circ0 1 s len b q x (.slice ao n c) 18446744069414584321 0 1753635133440165772 0 8 32) rfl rfl 56 _ hS.blk (by kernel_rfl) zok56.size (by simp [Value.oneCell']) ?_
    have hM := setRow_heap w M _ (circ0 1 s len b q x (.slice ao n c) 18446744069414584321 0 1753635133440165772 0 8 32) 56 _ hS.blk
    have hup := hS.up
    have hbox := (setRow_other w M W.heap.size (circ0 1 s len b q x (.slice ao n c) 18446744069414584321 0 1753635133440165772 0 8 32) (by omega)).trans hS.a.box
    have hres := (setRow_other w M (W.heap.size + 1) (circ0 1 s len b q x (.slice ao n c) 18446744069414584321 0 1753635133440165772 0 8 32) (by omega)).trans hS.a.res
    have hlow := below_setRow' hS.a.low (show W.heap.size ≤ M by omega) (circ0 1 s len b q x (.slice ao n c) 18446744069414584321 0 1753635133440165772 0 8 32)
    generalize w.setRow M (circ0 1 s len b q x (.slice ao n c) 18446744069414584321 0 1753635133440165772 0 8 32) = w2 at hM hbox hres hlow ⊢
    rw [← hk] at hbox
    have b0 : w2.cell? ⟨W.heap.size, 0, none⟩ = some (.int .i64 1) := by rw [cell_of_row w2 _ 0 _ 25 (0, 0) hbox]; rfl
    have b2 : w2.cell? ⟨W.heap.size, 2, none⟩ = some (.int .i64 len) := by rw [cell_of_row w2 _ 2 _ 25 (0, 0) hbox]; rfl
    have b3 : w2.cell? ⟨W.heap.size, 3, none⟩ = some (.int .i64 b) := by rw [cell_of_row w2 _ 3 _ 25 (0, 0) hbox]; rfl
    have b4 : w2.cell? ⟨W.heap.size, 4, none⟩ = some (.int .i64 q) := by rw [cell_of_row w2 _ 4 _ 25 (0, 0) hbox]; rfl
    have b5 : w2.cell? ⟨W.heap.size, 5, none⟩ = some (.int .u64 x) := by rw [cell_of_row w2 _ 5 _ 25 (0, 0) hbox]; rfl
    have HK := Lib.hid hk
    clear hk hbox hC hS hsz
    go_wp2_with (first | (refine wpList_load_row rfl 56 _ rfl M rfl 56 (circ0 1 s len b q x (.slice ao n c) 18446744069414584321 0 1753635133440165772 0 8 32) (0, 0) _ hM Tryz.underlying56 rfl (by kernel_rfl) ?_) | (refine wpList_store_row rfl 56 _ _ rfl (W.heap.size + 1) (circ0 1 s len b q x (.slice ao n c) 18446744069414584321 0 1753635133440165772 0 8 32) rfl rfl 56 _ hres (by kernel_rfl) zok56.size (by simp [Value.oneCell']) ?_))
    exact bodyPost_ret (results_cell_row rfl _ _ (W.heap.size + 1) 56 _ (0, 0) _ rfl (setRow_heap _ _ _ _ 56 _ hres) Tryz.underlying56 rfl (by kernel_rfl)) rfl ⟨rfl, below_setRow' hlow (by omega) _⟩
end Go.Proofs.YtlmmdldjfpdcfaaGreatDoor
namespace Go.Proofs.YtlmmdldjfpdcfaaGreatDoor
open Go.RowKit

section
variable {P : Program} {ops : Array Oper} {rest : List Oper} {o : Oper} {a : Act} {w : World} {Q : Exit → Act → World → Prop}

theorem store_cell (ty : TypeId) (x y : Operand) (hg : o.guard = none) (ho : o.op = .store ty x y) (hd : o.dst = none) (g j : Nat) (v : Value) (hx : a.eval x = .pointer (some ⟨g, j, none⟩)) (hy : a.eval y = v)
    (h1 : v.oneCell' = true) (hc : v.cells = #[v]) (T : TypeId) (cs : Array Value) (hb : w.heap[g]? = some (.cells cs T (0, 0))) (hj : j < cs.size) (hi : (P.info? ty).map (·.size) = some 1)
    (h : wpList P ops Q rest a (w.setCell ⟨g, j, none⟩ v)) : wpList P ops Q (o :: rest) a w := by
  have hcell : w.cell? ⟨g, j, none⟩ = some cs[j] := by rw [cell_of_row w g j cs T (0, 0) hb]; simp [hj]
  have hfro : w.frozen? ⟨g, j, none⟩ = false := frozen_of_row w g j cs T hb
  refine wpList_plain hg fun K hK => ?_
  have hrun : (storeVar ty ⟨g, j, none⟩ v).run P w = .ok () (w.setCell ⟨g, j, none⟩ v) := by
    cases hq : P.info? ty with
    | none => simp [hq] at hi
    | some i =>
      have hs : i.size = 1 := by simpa [hq] using hi
      have hadd : (⟨g, j, none⟩ : Addr).add 0 = ⟨g, j, none⟩ := by unfold Addr.add; split <;> simp_all
      simp [storeVar, sizeOf, typeInfo, hq, hc, hs, storeCells, hadd, run_store P w _ v _ h1, hcell, hfro]
  unfold Oper.wp execOp
  simp only [ho, hx, hy, Instr.storeAt, Instr.sureAddr, Sem.run_bind, Sem.run_pure, Result.andThen_ok, hrun]
  rw [Oper.upon_skip]
  rw [hd]
  exact hK _ _ h

theorem load_cell (ty : TypeId) (x : Operand) (hg : o.guard = none) (ho : o.op = .load ty x) (dst : Option Tmp) (hd : o.dst = dst) (g j : Nat) (v : Value) (hx : a.eval x = .pointer (some ⟨g, j, none⟩))
    (T : TypeId) (cs : Array Value) (fr : Nat × Nat) (hb : w.heap[g]? = some (.cells cs T fr)) (hj : cs[j]? = some v) (k : IntKind) (hu : P.underlying ty = some (.int k))
    (h : wpList P ops Q rest (a.put dst v) w) : wpList P ops Q (o :: rest) a w := by
  have hcell : w.cell? ⟨g, j, none⟩ = some v := by rw [cell_of_row w g j cs T fr hb]; exact hj
  subst hd
  refine wpList_plain hg fun K hK => ?_
  have hrun : (loadVar ty ⟨g, j, none⟩).run P w = .ok v w := by
    have hagg : (isAgg ty).run P w = .ok false w := by
      unfold isAgg
      rw [Sem.run_bind, run_underlying hu w]
      simp
    simp [loadVar, Sem.run_bind, hagg, run_load, hcell]
  unfold Oper.wp execOp
  simp only [ho, hx, Instr.loadAt, Instr.sureAddr, Sem.run_bind, Sem.run_pure, Result.andThen_ok, hrun]
  exact hK _ _ h

theorem quo_nat {t t2 : TypeId} (x y : Operand) (hg : o.guard = none) (ho : o.op = .binOp .quo t x y t2) (dst : Option Tmp) (hd : o.dst = dst) (A B : Nat) (X : Int) (hx : a.eval x = .int .i64 X) (hX : X = (A : Int)) (hy : a.eval y = .int .i64 (B : Int)) (hA : A < 4611686018427387904) (hB : 0 < B)
    (h : wpList P ops Q rest (a.put dst (.int .i64 ((A / B : Nat) : Int))) w) : wpList P ops Q (o :: rest) a w := by
  subst hd hX
  refine wpList_plain hg fun K hK => ?_
  have hrun : (binOp .quo t (.int .i64 (A : Int)) (.int .i64 (B : Int))).run P w = .ok (.int .i64 ((A / B : Nat) : Int)) w := by
    rw [binOp_quo]
    have hq : ((A : Int).tdiv (B : Int)) = ((A / B : Nat) : Int) := by rw [Int.tdiv_eq_ediv_of_nonneg (by omega)]; simp
    have hle : A / B ≤ A := Nat.div_le_self A B
    simp only [Op.intDiv, hq]
    generalize A / B = D at hle
    have hw : IntKind.i64.wrap (D : Int) = (D : Int) := by rw [IntKind.wrap_i64]; omega
    have hb : ¬ ((B : Int) = 0) := by omega
    rw [hw, if_neg hb, Sem.run_pure]
  unfold Oper.wp execOp
  simp only [ho, hx, hy, Sem.run_bind, eqGuard_quo, Sem.run_pure, Result.andThen_ok, hrun, Oper.upon_value]
  exact hK _ _ h

theorem mul_nat {t t2 : TypeId} (x y : Operand) (hg : o.guard = none) (ho : o.op = .binOp .mul t x y t2) (dst : Option Tmp) (hd : o.dst = dst) (A B : Nat) (hx : a.eval x = .int .i64 (A : Int)) (hy : a.eval y = .int .i64 (B : Int)) (C : Nat) (hC : C = A * B) (hS : C < 4611686018427387904)
    (h : wpList P ops Q rest (a.put dst (.int .i64 (C : Int))) w) : wpList P ops Q (o :: rest) a w := by
  subst hd
  refine wpList_plain hg fun K hK => ?_
  have hrun : (binOp .mul t (.int .i64 (A : Int)) (.int .i64 (B : Int))).run P w = .ok (.int .i64 (C : Int)) w := by
    have hw : IntKind.i64.wrap ((A : Int) * (B : Int)) = (C : Int) := by rw [← Int.natCast_mul, ← hC, IntKind.wrap_i64]; omega
    simp [binOp, Op.intArith, hw]
  unfold Oper.wp execOp
  simp only [ho, hx, hy, Sem.run_bind, eqGuard_mul, Sem.run_pure, Result.andThen_ok, hrun, Oper.upon_value]
  exact hK _ _ h
end
end Go.Proofs.YtlmmdldjfpdcfaaGreatDoor
namespace Go.Proofs.YtlmmdldjfpdcfaaGreatDoor
open Go.RowKit

/-- A circuit's cells, by what each holds. -/
def cm (kd : Int) (s len b q x : Nat) (ctx : Value) (f0 f1 f3 f4 f2 f5 : Int) (a13 a14 a15 a16 a17 a18 a19 : Nat) (a20 : Int) : Array Value :=
  #[.int .i64 kd, .int .i64 s, .int .i64 len, .int .i64 b, .int .i64 q, .int .u64 x, ctx, .int .u64 f0, .int .u64 f1, .int .i64 f2, .int .u64 f3, .int .u64 f4, .int .i64 f5,
    .int .i64 a13, .int .i64 a14, .int .i64 a15, .int .i64 a16, .int .i64 a17, .int .i64 a18, .int .i64 a19, .int .u64 a20]

/-- A kind in its box, its circuit's result and its circuit's variable. -/
structure Cm (W : World) (ks : Array Value) (M : Nat) (cs : Array Value) (w : World) : Prop where
  box : w.heap[W.heap.size]? = some (.cells ks 25 (0, 0))
  res : w.heap[W.heap.size + 1]? = some (.cells (zOf 56).cells 56 (0, 0))
  blk : w.heap[M]? = some (.cells cs 56 (0, 0))
  up : W.heap.size + 1 < M
  low : Below W.heap.size W w

theorem Cm.set {W w : World} {ks cs : Array Value} {M : Nat} (h : Cm W ks M cs w) (j : Nat) (v : Value) : Cm W ks M (cs.setIfInBounds j v) (w.setCell ⟨M, j, none⟩ v) :=
  have hu := h.up
  ⟨(heap_setCell_other w ⟨M, j, none⟩ W.heap.size v (by simp; omega)).trans h.box, (heap_setCell_other w ⟨M, j, none⟩ (W.heap.size + 1) v (by simp; omega)).trans h.res, heap_setCell_same w M j cs 56 v h.blk, h.up, h.low.setCell (show W.heap.size ≤ M by omega) v⟩

theorem cm_size (kd : Int) (s len b q x : Nat) (ctx : Value) (f0 f1 f3 f4 f2 f5 : Int) (a13 a14 a15 a16 a17 a18 a19 : Nat) (a20 : Int) : (cm kd s len b q x ctx f0 f1 f3 f4 f2 f5 a13 a14 a15 a16 a17 a18 a19 a20).size = 21 := rfl

theorem cm_one (kd : Int) (s len b q x : Nat) (ctx : Value) (f0 f1 f3 f4 f2 f5 : Int) (a13 a14 a15 a16 a17 a18 a19 : Nat) (a20 : Int) (hc : ctx.oneCell' = true) : (cm kd s len b q x ctx f0 f1 f3 f4 f2 f5 a13 a14 a15 a16 a17 a18 a19 a20).all (·.oneCell') = true := by simpa [cm, Value.oneCell'] using hc

section
variable {ops : Array Oper} {rest : List Oper} {o : Oper} {a : Act} {w W : World} {ks : Array Value} {M : Nat} {Q : Exit → Act → World → Prop}

theorem st13 {kd : Int} {s len b q x : Nat} {ctx : Value} {f0 f1 f3 f4 f2 f5 : Int} {a13 a14 a15 a16 a17 a18 a19 : Nat} {a20 : Int} (x' y' : Operand) (hg : o.guard = none) (ho : o.op = .store 3 x' y') (hd : o.dst = none) (hc : Cm W ks M (cm kd s len b q x ctx f0 f1 f3 f4 f2 f5 a13 a14 a15 a16 a17 a18 a19 a20) w) (hx : a.eval x' = .pointer (some ⟨M, 13, none⟩)) (n : Nat) (V : Int) (hy : a.eval y' = .int .i64 V) (hV : V = (n : Int))
    (h : ∀ w', Cm W ks M (cm kd s len b q x ctx f0 f1 f3 f4 f2 f5 n a14 a15 a16 a17 a18 a19 a20) w' → wpList Tryz.prog ops Q rest a w') : wpList Tryz.prog ops Q (o :: rest) a w := by
  subst hV
  exact store_cell 3 x' y' hg ho hd M 13 _ hx hy rfl rfl 56 _ hc.blk (by rw [cm_size]; decide) (by kernel_rfl) (h _ (hc.set 13 _))

theorem ld13 {kd : Int} {s len b q x : Nat} {ctx : Value} {f0 f1 f3 f4 f2 f5 : Int} {a13 a14 a15 a16 a17 a18 a19 : Nat} {a20 : Int} (x' : Operand) (hg : o.guard = none) (ho : o.op = .load 3 x') (dst : Option Tmp) (hd : o.dst = dst) (hc : Cm W ks M (cm kd s len b q x ctx f0 f1 f3 f4 f2 f5 a13 a14 a15 a16 a17 a18 a19 a20) w) (hx : a.eval x' = .pointer (some ⟨M, 13, none⟩))
    (h : wpList Tryz.prog ops Q rest (a.put dst (.int .i64 (a13 : Int))) w) : wpList Tryz.prog ops Q (o :: rest) a w :=
  load_cell 3 x' hg ho dst hd M 13 _ hx 56 _ (0, 0) hc.blk rfl .i64 Tryz.underlying3 h

theorem st14 {kd : Int} {s len b q x : Nat} {ctx : Value} {f0 f1 f3 f4 f2 f5 : Int} {a13 a14 a15 a16 a17 a18 a19 : Nat} {a20 : Int} (x' y' : Operand) (hg : o.guard = none) (ho : o.op = .store 3 x' y') (hd : o.dst = none) (hc : Cm W ks M (cm kd s len b q x ctx f0 f1 f3 f4 f2 f5 a13 a14 a15 a16 a17 a18 a19 a20) w) (hx : a.eval x' = .pointer (some ⟨M, 14, none⟩)) (n : Nat) (V : Int) (hy : a.eval y' = .int .i64 V) (hV : V = (n : Int))
    (h : ∀ w', Cm W ks M (cm kd s len b q x ctx f0 f1 f3 f4 f2 f5 a13 n a15 a16 a17 a18 a19 a20) w' → wpList Tryz.prog ops Q rest a w') : wpList Tryz.prog ops Q (o :: rest) a w := by
  subst hV
  exact store_cell 3 x' y' hg ho hd M 14 _ hx hy rfl rfl 56 _ hc.blk (by rw [cm_size]; decide) (by kernel_rfl) (h _ (hc.set 14 _))

theorem ld14 {kd : Int} {s len b q x : Nat} {ctx : Value} {f0 f1 f3 f4 f2 f5 : Int} {a13 a14 a15 a16 a17 a18 a19 : Nat} {a20 : Int} (x' : Operand) (hg : o.guard = none) (ho : o.op = .load 3 x') (dst : Option Tmp) (hd : o.dst = dst) (hc : Cm W ks M (cm kd s len b q x ctx f0 f1 f3 f4 f2 f5 a13 a14 a15 a16 a17 a18 a19 a20) w) (hx : a.eval x' = .pointer (some ⟨M, 14, none⟩))
    (h : wpList Tryz.prog ops Q rest (a.put dst (.int .i64 (a14 : Int))) w) : wpList Tryz.prog ops Q (o :: rest) a w :=
  load_cell 3 x' hg ho dst hd M 14 _ hx 56 _ (0, 0) hc.blk rfl .i64 Tryz.underlying3 h

theorem st15 {kd : Int} {s len b q x : Nat} {ctx : Value} {f0 f1 f3 f4 f2 f5 : Int} {a13 a14 a15 a16 a17 a18 a19 : Nat} {a20 : Int} (x' y' : Operand) (hg : o.guard = none) (ho : o.op = .store 3 x' y') (hd : o.dst = none) (hc : Cm W ks M (cm kd s len b q x ctx f0 f1 f3 f4 f2 f5 a13 a14 a15 a16 a17 a18 a19 a20) w) (hx : a.eval x' = .pointer (some ⟨M, 15, none⟩)) (n : Nat) (V : Int) (hy : a.eval y' = .int .i64 V) (hV : V = (n : Int))
    (h : ∀ w', Cm W ks M (cm kd s len b q x ctx f0 f1 f3 f4 f2 f5 a13 a14 n a16 a17 a18 a19 a20) w' → wpList Tryz.prog ops Q rest a w') : wpList Tryz.prog ops Q (o :: rest) a w := by
  subst hV
  exact store_cell 3 x' y' hg ho hd M 15 _ hx hy rfl rfl 56 _ hc.blk (by rw [cm_size]; decide) (by kernel_rfl) (h _ (hc.set 15 _))

theorem ld15 {kd : Int} {s len b q x : Nat} {ctx : Value} {f0 f1 f3 f4 f2 f5 : Int} {a13 a14 a15 a16 a17 a18 a19 : Nat} {a20 : Int} (x' : Operand) (hg : o.guard = none) (ho : o.op = .load 3 x') (dst : Option Tmp) (hd : o.dst = dst) (hc : Cm W ks M (cm kd s len b q x ctx f0 f1 f3 f4 f2 f5 a13 a14 a15 a16 a17 a18 a19 a20) w) (hx : a.eval x' = .pointer (some ⟨M, 15, none⟩))
    (h : wpList Tryz.prog ops Q rest (a.put dst (.int .i64 (a15 : Int))) w) : wpList Tryz.prog ops Q (o :: rest) a w :=
  load_cell 3 x' hg ho dst hd M 15 _ hx 56 _ (0, 0) hc.blk rfl .i64 Tryz.underlying3 h

theorem st16 {kd : Int} {s len b q x : Nat} {ctx : Value} {f0 f1 f3 f4 f2 f5 : Int} {a13 a14 a15 a16 a17 a18 a19 : Nat} {a20 : Int} (x' y' : Operand) (hg : o.guard = none) (ho : o.op = .store 3 x' y') (hd : o.dst = none) (hc : Cm W ks M (cm kd s len b q x ctx f0 f1 f3 f4 f2 f5 a13 a14 a15 a16 a17 a18 a19 a20) w) (hx : a.eval x' = .pointer (some ⟨M, 16, none⟩)) (n : Nat) (V : Int) (hy : a.eval y' = .int .i64 V) (hV : V = (n : Int))
    (h : ∀ w', Cm W ks M (cm kd s len b q x ctx f0 f1 f3 f4 f2 f5 a13 a14 a15 n a17 a18 a19 a20) w' → wpList Tryz.prog ops Q rest a w') : wpList Tryz.prog ops Q (o :: rest) a w := by
  subst hV
  exact store_cell 3 x' y' hg ho hd M 16 _ hx hy rfl rfl 56 _ hc.blk (by rw [cm_size]; decide) (by kernel_rfl) (h _ (hc.set 16 _))

theorem ld16 {kd : Int} {s len b q x : Nat} {ctx : Value} {f0 f1 f3 f4 f2 f5 : Int} {a13 a14 a15 a16 a17 a18 a19 : Nat} {a20 : Int} (x' : Operand) (hg : o.guard = none) (ho : o.op = .load 3 x') (dst : Option Tmp) (hd : o.dst = dst) (hc : Cm W ks M (cm kd s len b q x ctx f0 f1 f3 f4 f2 f5 a13 a14 a15 a16 a17 a18 a19 a20) w) (hx : a.eval x' = .pointer (some ⟨M, 16, none⟩))
    (h : wpList Tryz.prog ops Q rest (a.put dst (.int .i64 (a16 : Int))) w) : wpList Tryz.prog ops Q (o :: rest) a w :=
  load_cell 3 x' hg ho dst hd M 16 _ hx 56 _ (0, 0) hc.blk rfl .i64 Tryz.underlying3 h

theorem st17 {kd : Int} {s len b q x : Nat} {ctx : Value} {f0 f1 f3 f4 f2 f5 : Int} {a13 a14 a15 a16 a17 a18 a19 : Nat} {a20 : Int} (x' y' : Operand) (hg : o.guard = none) (ho : o.op = .store 3 x' y') (hd : o.dst = none) (hc : Cm W ks M (cm kd s len b q x ctx f0 f1 f3 f4 f2 f5 a13 a14 a15 a16 a17 a18 a19 a20) w) (hx : a.eval x' = .pointer (some ⟨M, 17, none⟩)) (n : Nat) (V : Int) (hy : a.eval y' = .int .i64 V) (hV : V = (n : Int))
    (h : ∀ w', Cm W ks M (cm kd s len b q x ctx f0 f1 f3 f4 f2 f5 a13 a14 a15 a16 n a18 a19 a20) w' → wpList Tryz.prog ops Q rest a w') : wpList Tryz.prog ops Q (o :: rest) a w := by
  subst hV
  exact store_cell 3 x' y' hg ho hd M 17 _ hx hy rfl rfl 56 _ hc.blk (by rw [cm_size]; decide) (by kernel_rfl) (h _ (hc.set 17 _))

theorem ld17 {kd : Int} {s len b q x : Nat} {ctx : Value} {f0 f1 f3 f4 f2 f5 : Int} {a13 a14 a15 a16 a17 a18 a19 : Nat} {a20 : Int} (x' : Operand) (hg : o.guard = none) (ho : o.op = .load 3 x') (dst : Option Tmp) (hd : o.dst = dst) (hc : Cm W ks M (cm kd s len b q x ctx f0 f1 f3 f4 f2 f5 a13 a14 a15 a16 a17 a18 a19 a20) w) (hx : a.eval x' = .pointer (some ⟨M, 17, none⟩))
    (h : wpList Tryz.prog ops Q rest (a.put dst (.int .i64 (a17 : Int))) w) : wpList Tryz.prog ops Q (o :: rest) a w :=
  load_cell 3 x' hg ho dst hd M 17 _ hx 56 _ (0, 0) hc.blk rfl .i64 Tryz.underlying3 h

theorem st18 {kd : Int} {s len b q x : Nat} {ctx : Value} {f0 f1 f3 f4 f2 f5 : Int} {a13 a14 a15 a16 a17 a18 a19 : Nat} {a20 : Int} (x' y' : Operand) (hg : o.guard = none) (ho : o.op = .store 3 x' y') (hd : o.dst = none) (hc : Cm W ks M (cm kd s len b q x ctx f0 f1 f3 f4 f2 f5 a13 a14 a15 a16 a17 a18 a19 a20) w) (hx : a.eval x' = .pointer (some ⟨M, 18, none⟩)) (n : Nat) (V : Int) (hy : a.eval y' = .int .i64 V) (hV : V = (n : Int))
    (h : ∀ w', Cm W ks M (cm kd s len b q x ctx f0 f1 f3 f4 f2 f5 a13 a14 a15 a16 a17 n a19 a20) w' → wpList Tryz.prog ops Q rest a w') : wpList Tryz.prog ops Q (o :: rest) a w := by
  subst hV
  exact store_cell 3 x' y' hg ho hd M 18 _ hx hy rfl rfl 56 _ hc.blk (by rw [cm_size]; decide) (by kernel_rfl) (h _ (hc.set 18 _))

theorem ld18 {kd : Int} {s len b q x : Nat} {ctx : Value} {f0 f1 f3 f4 f2 f5 : Int} {a13 a14 a15 a16 a17 a18 a19 : Nat} {a20 : Int} (x' : Operand) (hg : o.guard = none) (ho : o.op = .load 3 x') (dst : Option Tmp) (hd : o.dst = dst) (hc : Cm W ks M (cm kd s len b q x ctx f0 f1 f3 f4 f2 f5 a13 a14 a15 a16 a17 a18 a19 a20) w) (hx : a.eval x' = .pointer (some ⟨M, 18, none⟩))
    (h : wpList Tryz.prog ops Q rest (a.put dst (.int .i64 (a18 : Int))) w) : wpList Tryz.prog ops Q (o :: rest) a w :=
  load_cell 3 x' hg ho dst hd M 18 _ hx 56 _ (0, 0) hc.blk rfl .i64 Tryz.underlying3 h

theorem st19 {kd : Int} {s len b q x : Nat} {ctx : Value} {f0 f1 f3 f4 f2 f5 : Int} {a13 a14 a15 a16 a17 a18 a19 : Nat} {a20 : Int} (x' y' : Operand) (hg : o.guard = none) (ho : o.op = .store 3 x' y') (hd : o.dst = none) (hc : Cm W ks M (cm kd s len b q x ctx f0 f1 f3 f4 f2 f5 a13 a14 a15 a16 a17 a18 a19 a20) w) (hx : a.eval x' = .pointer (some ⟨M, 19, none⟩)) (n : Nat) (V : Int) (hy : a.eval y' = .int .i64 V) (hV : V = (n : Int))
    (h : ∀ w', Cm W ks M (cm kd s len b q x ctx f0 f1 f3 f4 f2 f5 a13 a14 a15 a16 a17 a18 n a20) w' → wpList Tryz.prog ops Q rest a w') : wpList Tryz.prog ops Q (o :: rest) a w := by
  subst hV
  exact store_cell 3 x' y' hg ho hd M 19 _ hx hy rfl rfl 56 _ hc.blk (by rw [cm_size]; decide) (by kernel_rfl) (h _ (hc.set 19 _))

theorem ld19 {kd : Int} {s len b q x : Nat} {ctx : Value} {f0 f1 f3 f4 f2 f5 : Int} {a13 a14 a15 a16 a17 a18 a19 : Nat} {a20 : Int} (x' : Operand) (hg : o.guard = none) (ho : o.op = .load 3 x') (dst : Option Tmp) (hd : o.dst = dst) (hc : Cm W ks M (cm kd s len b q x ctx f0 f1 f3 f4 f2 f5 a13 a14 a15 a16 a17 a18 a19 a20) w) (hx : a.eval x' = .pointer (some ⟨M, 19, none⟩))
    (h : wpList Tryz.prog ops Q rest (a.put dst (.int .i64 (a19 : Int))) w) : wpList Tryz.prog ops Q (o :: rest) a w :=
  load_cell 3 x' hg ho dst hd M 19 _ hx 56 _ (0, 0) hc.blk rfl .i64 Tryz.underlying3 h

theorem st20 {kd : Int} {s len b q x : Nat} {ctx : Value} {f0 f1 f3 f4 f2 f5 : Int} {a13 a14 a15 a16 a17 a18 a19 : Nat} {a20 : Int} (x' y' : Operand) (hg : o.guard = none) (ho : o.op = .store 22 x' y') (hd : o.dst = none) (hc : Cm W ks M (cm kd s len b q x ctx f0 f1 f3 f4 f2 f5 a13 a14 a15 a16 a17 a18 a19 a20) w) (hx : a.eval x' = .pointer (some ⟨M, 20, none⟩)) (V : Int) (hy : a.eval y' = .int .u64 V)
    (h : ∀ w', Cm W ks M (cm kd s len b q x ctx f0 f1 f3 f4 f2 f5 a13 a14 a15 a16 a17 a18 a19 V) w' → wpList Tryz.prog ops Q rest a w') : wpList Tryz.prog ops Q (o :: rest) a w :=
  store_cell 22 x' y' hg ho hd M 20 _ hx hy rfl rfl 56 _ hc.blk (by rw [cm_size]; decide) (by kernel_rfl) (h _ (hc.set 20 _))
end
end Go.Proofs.YtlmmdldjfpdcfaaGreatDoor
