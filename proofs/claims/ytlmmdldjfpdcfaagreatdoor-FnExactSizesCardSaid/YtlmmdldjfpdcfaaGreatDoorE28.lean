/- What the statement's row asks of the walk: the argument is opened, the listed errors are there, the table of math/bits holds bytes; behind the call the argument and the variables read as before. -/
import Derived.Test.YtlmmdldjfpdcfaaGreatDoorRows
import Derived.Test.YtlmmdldjfpdcfaaGreatDoorE27
import Derived.WalkKit
import Derived.ProofKit
import Derived.OpenShut
import Derived.OpenVars
import Derived.Deep.DeepHandedRow
import Derived.Deep.Slices
import Derived.Lib.LaidU8
import Derived.MakeChecks
namespace Go.Proofs.YtlmmdldjfpdcfaaGreatDoor
open Go.ChangeShapes Go.WideShapes Go.ChangeAt Go.RowKit

theorem laidOut : laidOutB Tryz.prog = true := by kernel_rfl

/-- A listed error is there. -/
theorem sent {W : World} {n nm : String} {d : DataW Unit} (h : laidMet Tryz.prog Rows.fnExactSizesRow.laid W) (hm : (n, .iface nm d) ∈ Rows.fnExactSizesRow.laid) (g : Nat) (hg : Tryz.prog.globalNamed n = some g)
    (ht : (Tryz.prog.globals[g]?).map (·.type) = some 61) : ∃ t v, W.cell? ⟨g, 0, none⟩ = some (.iface t v) := by
  obtain ⟨g0, t0, cs, fuel, p, h1, h2, h3, h4⟩ := Lib.laidMet.reads h hm
  obtain rfl := Option.some.inj (hg.symm.trans h1)
  obtain rfl := Option.some.inj (ht.symm.trans h2)
  obtain ⟨f', u, v, hcs, _, _⟩ := iface_of_trod Tryz.underlying61 h4
  refine ⟨u, v, ?_⟩
  rw [World.var?_cell hg h3 0]
  obtain ⟨l⟩ := cs
  simp only at hcs
  subst hcs
  rfl

/-- The errors that the row lists are there. -/
theorem errs {W : World} (hL : laidMetH Tryz.prog Rows.fnExactSizesRow.laid W) : Errs W := by
  have h : laidMet Tryz.prog Rows.fnExactSizesRow.laid W := by
    rw [← Go.MakeChecks.laidMetH_plain Tryz.prog Rows.fnExactSizesRow.laid W (by kernel_rfl)]
    exact hL
  intro g hg
  simp only [List.mem_cons, List.not_mem_nil, or_false] at hg
  match g, hg with
  | 0, _ => exact sent h (n := "loop.example/pub-votesinparts/pub/circlhistogram.ErrLength") (.tail _ (.tail _ (.tail _ (.tail _ (.tail _ (.tail _ (.tail _ (.head _)))))))) 0 (by kernel_rfl) (by kernel_rfl)
  | 1, _ => exact sent h (n := "loop.example/pub-votesinparts/pub/circlhistogram.ErrChunkLength") (.tail _ (.tail _ (.tail _ (.tail _ (.tail _ (.tail _ (.tail _ (.tail _ (.head _))))))))) 1 (by kernel_rfl) (by kernel_rfl)
  | 2, _ => exact sent h (n := "loop.example/pub-votesinparts/pub/circlprio3.ErrNumShares") (.tail _ (.tail _ (.tail _ (.tail _ (.tail _ (.head _)))))) 2 (by kernel_rfl) (by kernel_rfl)
  | 4, _ => exact sent h (n := "loop.example/pub-votesinparts/pub/circlsum.ErrMaxMeasurement") (.tail _ (.tail _ (.tail _ (.tail _ (.tail _ (.tail _ (.tail _ (.tail _ (.tail _ (.tail _ (.tail _ (.tail _ (.tail _ (.head _)))))))))))))) 4 (by kernel_rfl) (by kernel_rfl)
  | 5, _ => exact sent h (n := "loop.example/pub-votesinparts/pub/circlsumvec.ErrLength") (.tail _ (.tail _ (.tail _ (.tail _ (.tail _ (.tail _ (.tail _ (.tail _ (.tail _ (.tail _ (.tail _ (.tail _ (.tail _ (.tail _ (.head _))))))))))))))) 5 (by kernel_rfl) (by kernel_rfl)
  | 6, _ => exact sent h (n := "loop.example/pub-votesinparts/pub/circlsumvec.ErrBits") (.tail _ (.tail _ (.tail _ (.tail _ (.tail _ (.tail _ (.tail _ (.tail _ (.tail _ (.tail _ (.tail _ (.tail _ (.tail _ (.tail _ (.tail _ (.head _)))))))))))))))) 6 (by kernel_rfl) (by kernel_rfl)
  | 7, _ => exact sent h (n := "loop.example/pub-votesinparts/pub/circlsumvec.ErrChunkLength") (.tail _ (.tail _ (.tail _ (.tail _ (.tail _ (.tail _ (.tail _ (.tail _ (.tail _ (.tail _ (.tail _ (.tail _ (.tail _ (.tail _ (.tail _ (.tail _ (.head _))))))))))))))))) 7 (by kernel_rfl) (by kernel_rfl)
  | 8, _ => exact sent h (n := "loop.example/pub-votesinparts/pub/circlmhcv.ErrLength") (.tail _ (.tail _ (.tail _ (.tail _ (.tail _ (.tail _ (.tail _ (.tail _ (.tail _ (.head _)))))))))) 8 (by kernel_rfl) (by kernel_rfl)
  | 9, _ => exact sent h (n := "loop.example/pub-votesinparts/pub/circlmhcv.ErrMaxWeight") (.tail _ (.tail _ (.tail _ (.tail _ (.tail _ (.tail _ (.tail _ (.tail _ (.tail _ (.tail _ (.head _))))))))))) 9 (by kernel_rfl) (by kernel_rfl)
  | 10, _ => exact sent h (n := "loop.example/pub-votesinparts/pub/circlmhcv.ErrChunkLength") (.tail _ (.tail _ (.tail _ (.tail _ (.tail _ (.tail _ (.tail _ (.tail _ (.tail _ (.tail _ (.tail _ (.head _)))))))))))) 10 (by kernel_rfl) (by kernel_rfl)

theorem cells3 : Tryz.prog.cellsOf 3 = 1 := by kernel_rfl
theorem cells5 : Tryz.prog.cellsOf 5 = 1 := by kernel_rfl
theorem cells22 : Tryz.prog.cellsOf 22 = 1 := by kernel_rfl
theorem cells23 : Tryz.prog.cellsOf 23 = 1 := by kernel_rfl
theorem cells25 : Tryz.prog.cellsOf 25 = 7 := by kernel_rfl
theorem build330 : Tryz.prog.buildable 330 = true := by kernel_rfl
theorem types330 : Tryz.prog.cellTypes Tryz.prog.depth 330 = some (List.replicate 64 5) := by kernel_rfl
theorem start22 : ((begin Tryz.prog (fun _ _ => 0) default).world.heap[22]?).bind Obj.row? = some (Array.replicate 64 (.int .u8 0), 330) := by kernel_rfl
theorem globals22 : 22 < Tryz.prog.globals.size := Nat.le_of_ble_eq_true (by kernel_rfl)

set_option maxRecDepth 100000 in
/-- The table of math/bits holds bytes. -/
theorem table {W : World} (h : W.ShapedOpen Tryz.prog) : TabOk W ∧ 22 < W.heap.size := by
  obtain ⟨cs, hh, hs, hr⟩ := h.1 22 _ _ globals22 start22
  obtain ⟨ts, hts, _, hall⟩ := hr build330
  obtain rfl := Option.some.inj (types330.symm.trans hts)
  refine ⟨fun j hj => ?_, lt_of_block hh⟩
  have hj2 : j < cs.size := by rw [hs]; simpa using hj
  obtain ⟨u, hu, hok⟩ := hall j cs[j] (by simp [hj2])
  have hu5 : u = 5 := by
    rw [List.getElem?_replicate] at hu
    split at hu
    · exact (Option.some.inj hu).symm
    · cases hu
  subst hu5
  rw [cell_of_row W 22 j cs 330 (0, 0) hh, Array.getElem?_eq_getElem hj2]
  unfold Cell.ok at hok
  rw [Tryz.underlying5] at hok
  generalize cs[j] = v at hok
  cases v with
  | int k n =>
    obtain ⟨rfl, hn⟩ := hok
    refine ⟨n, ?_, ?_, rfl⟩
    · simp [IntKind.has, IntKind.min, IntKind.max, IntKind.signed, IntKind.bits] at hn; omega
    · simp [IntKind.has, IntKind.min, IntKind.max, IntKind.signed, IntKind.bits] at hn; omega
  | _ => exact hok.elim

theorem array7 {α : Type} {cs : Array α} (h : cs.size = 7) : ∃ c0 c1 c2 c3 c4 c5 c6, cs = #[c0, c1, c2, c3, c4, c5, c6] := by
  obtain ⟨l⟩ := cs
  match l, h with
  | [c0, c1, c2, c3, c4, c5, c6], _ => exact ⟨c0, c1, c2, c3, c4, c5, c6, rfl⟩

theorem list7 {α : Type} {l : List α} (h : l.length = 7) : ∃ c0 c1 c2 c3 c4 c5 c6, l = [c0, c1, c2, c3, c4, c5, c6] := by
  match l, h with
  | [c0, c1, c2, c3, c4, c5, c6], _ => exact ⟨c0, c1, c2, c3, c4, c5, c6, rfl⟩

set_option maxRecDepth 100000 in
/-- A kind that can be read, opened. -/
theorem kind_open {H : Type} {enc : TypeId × Value → H} {W : World} {base : Nat} {v : Value} {d : DataW H} {p : List MemPlace} (hv : Value.okWide Tryz.prog W .any base 25 v) (h : DataW.Trod enc Tryz.prog W 0 (fun _ => true) true 25 v d p) :
    ∃ (kd s len b q x : Int) (ctx : Value) (n : Nat), v = .agg (ksI kd s len b q x ctx) ∧ 0 ≤ x ∧ CtxAt W ctx n := by
  obtain ⟨cs, rfl, hsz⟩ := okWide_struct Tryz.underlying25 hv
  obtain ⟨c0, c1, c2, c3, c4, c5, c6, rfl⟩ := array7 (hsz.trans cells25)
  obtain ⟨fuel, hf⟩ := h
  obtain ⟨xs, n, _, _, _, hlen, hfld⟩ := DataW.trod_struct Tryz.underlying25 hf
  obtain ⟨y0, y1, y2, y3, y4, y5, y6, rfl⟩ := list7 hlen
  have k0 : DataW.trod enc Tryz.prog W 0 (fun _ => true) true n 3 [c0] = some y0 := by simpa [Value.cells, cells3] using hfld 0 _ rfl
  have k1 : DataW.trod enc Tryz.prog W 0 (fun _ => true) true n 3 [c1] = some y1 := by simpa [Value.cells, cells3] using hfld 1 _ rfl
  have k2 : DataW.trod enc Tryz.prog W 0 (fun _ => true) true n 3 [c2] = some y2 := by simpa [Value.cells, cells3] using hfld 2 _ rfl
  have k3 : DataW.trod enc Tryz.prog W 0 (fun _ => true) true n 3 [c3] = some y3 := by simpa [Value.cells, cells3] using hfld 3 _ rfl
  have k4 : DataW.trod enc Tryz.prog W 0 (fun _ => true) true n 3 [c4] = some y4 := by simpa [Value.cells, cells3] using hfld 4 _ rfl
  have k5 : DataW.trod enc Tryz.prog W 0 (fun _ => true) true n 22 [c5] = some y5 := by simpa [Value.cells, cells22] using hfld 5 _ rfl
  have k6 : DataW.trod enc Tryz.prog W 0 (fun _ => true) true n 23 [c6] = some y6 := by simpa [Value.cells, cells23] using hfld 6 _ rfl
  obtain ⟨a0, e0, _, _⟩ := DataW.trod_int Tryz.underlying3 k0
  obtain ⟨a1, e1, _, _⟩ := DataW.trod_int Tryz.underlying3 k1
  obtain ⟨a2, e2, _, _⟩ := DataW.trod_int Tryz.underlying3 k2
  obtain ⟨a3, e3, _, _⟩ := DataW.trod_int Tryz.underlying3 k3
  obtain ⟨a4, e4, _, _⟩ := DataW.trod_int Tryz.underlying3 k4
  obtain ⟨a5, e5, _, w5⟩ := DataW.trod_int Tryz.underlying22 k5
  cases e0; cases e1; cases e2; cases e3; cases e4; cases e5
  have hx : 0 ≤ a5 := by
    simp [Lit.wf, IntKind.min, IntKind.max, IntKind.signed, IntKind.bits] at w5
    omega
  rcases Go.Deep.open_slice1 Tryz.underlying23 cells5 k6 with ⟨e6, _⟩ | ⟨ad, len, cap, m, nn, V, D, Pl, e6, _, hlc, _, hm, _, hcell⟩
  · cases e6
    exact ⟨a0, a1, a2, a3, a4, a5, _, 0, rfl, hx, .inl ⟨rfl, rfl⟩⟩
  · cases e6
    refine ⟨a0, a1, a2, a3, a4, a5, _, len, rfl, hx, .inr ⟨ad, cap, (List.range len).map V, rfl, by simp, fun j u hu => ?_, fun u hu => ?_⟩⟩
    · have hj : j < len := by
        have := (List.getElem?_eq_some_iff.1 hu).1
        simpa using this
      have : V j = u := by simpa [hj] using hu
      rw [← this]
      exact (hcell j (by simp at hm; omega)).1
    · obtain ⟨j, hj, rfl⟩ := List.mem_map.1 hu
      have hj := List.mem_range.1 hj
      obtain ⟨z, ez, _, _⟩ := DataW.trod_int Tryz.underlying5 (hcell j (by simp at hm; omega)).2
      cases hV : V j with
      | int k z => rfl
      | _ => rw [hV] at ez; cases ez

theorem vars_length {H : Type} {enc : TypeId × Value → H} {P : Program} {w : World} {sp : Nat → Bool} : ∀ {ns : List String} {gs : List (DataW H)} {ps : List MemPlace}, DataW.TrodVars enc P w sp ns gs ps → gs.length = ns.length
  | [], [], _, _ => rfl
  | [], _ :: _, _, h => h.elim
  | _ :: _, [], _, h => h.elim
  | _ :: _, _ :: _, _, h => by
    obtain ⟨_, _, _, _, _, _, _, _, _, _, hs, _⟩ := h
    simp [vars_length hs]

theorem fn_is {H : Type} (d : DataW H) (gs : List (DataW H)) (h : gs.length = 17) : Rows.fnExactSizesSpec.fn H ([d] ++ gs) = { results := [.lit (.bool true)], args := [d], vars := gs } := by
  match gs, h with
  | [g1, g2, g3, g4, g5, g6, g7, g8, g9, g10, g11, g12, g13, g14, g15, g16, g17], _ => rfl

theorem vars_rowed : varsRowed Tryz.prog Rows.fnExactSizesSpec.vars = true := by kernel_rfl
theorem rec25 : Tryz.prog.readableRec 25 = true := by kernel_rfl
theorem row25 : 25 < Tryz.prog.types.size := Nat.le_of_ble_eq_true (by kernel_rfl)

set_option maxRecDepth 100000 in
/-- What the walk gives, as the row asks it. -/
theorem contract (H : Type) (enc : TypeId × Value → H) (W : World) (base : Nat) (args : Array Value) (ds gs : List (DataW H)) (before : List MemPlace)
    (hval : ∀ (j : Nat) t v, Tryz.f3.params[j]? = some t → args[j]? = some v → Value.okWide Tryz.prog W .any base t v)
    (hW : DataW.Whole enc Tryz.prog Tryz.f3.params.toList Rows.fnExactSizesSpec.vars false W args.toList ds gs before) (hL : laidMetH Tryz.prog Rows.fnExactSizesRow.laid W) (hsh : W.ShapedOpen Tryz.prog) :
    Calls Tryz.prog 3 args W fun e W' => ∃ v, e = .returned v ∧ Rows.fnExactSizesSpec.post enc Tryz.prog Tryz.f3 false true false false W args v W' := by
  have hW' := hW
  obtain ⟨p, q, hA0, hV, rfl, hfz, hnd⟩ := hW
  have hA : DataW.TrodAll enc Tryz.prog W 0 (fun _ => true) true Tryz.f3.params.toList args.toList ds p := hA0
  rw [Tryz.params3] at hA hval
  obtain ⟨v0, vs0, d0, ds0, p0, q0, hargs, rfl, rfl, h0, r0⟩ := trodAll_cons hA
  obtain ⟨rfl, rfl, rfl⟩ := trodAll_nil r0
  obtain rfl : args = #[v0] := by cases args; simp_all
  obtain ⟨kd, s, len, b, qq, x, ctx, n, hv0, hx, hctx⟩ := kind_open (hval 0 25 v0 rfl rfl) h0
  obtain ⟨hT, h22⟩ := table hsh
  have walk := law_any kd s len b qq x hx n ctx W ⟨hctx, hT, h22, errs hL⟩
  rw [← hv0] at walk
  refine walk.mono fun e W' ⟨he, hb⟩ => ⟨_, he, ?_⟩
  have hlt := hW'.lt
  have hlt0 : ∀ x ∈ p0, x.block < W.heap.size := fun x hx => hlt x (by simp [hx])
  have hf := fn_is d0 gs (vars_length hV)
  have hargs2 := Below.trod laidOut rec25 row25 h0 hb hlt0
  have hvars2 := Below.trodVars laidOut hb vars_rowed hV
  refine ⟨[d0], gs, _, [], p0 ++ [], q, hW', ?_, ?_, ?_, hb.frame _, fun h => by cases h⟩
  · rw [hf]
    exact trodAll_cons_mk (shut_bool Tryz.underlying4 _) trodAll_mk0
  · rw [hf, Tryz.params3]
    exact trodAll_cons_mk hargs2 trodAll_mk0
  · rw [hf]
    exact hvars2
end Go.Proofs.YtlmmdldjfpdcfaaGreatDoor
