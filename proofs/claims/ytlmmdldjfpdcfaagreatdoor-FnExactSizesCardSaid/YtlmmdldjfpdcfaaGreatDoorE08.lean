/- The product of the small field, as the program computes it. The Montgomery product of the field of 128 bits is the product over 2^128, modulo the prime: plain numbers. The product of the large field, as the program computes it. A small number is turned into the Montgomery form of either field: nothing else is written. A number is turned into a field's own form: some number is written there, and nothing else. The circuit of kind 3, as it is made. -/
import Derived.Test.YtlmmdldjfpdcfaaGreatDoorE02
import Derived.Test.YtlmmdldjfpdcfaaGreatDoorE07
import Derived.Test.YtlmmdldjfpdcfaaGreatDoorE03
import Derived.Laws.EntriesVeiled
import Derived.BigQuiet
namespace Go.Proofs.YtlmmdldjfpdcfaaGreatDoor
open Go.RowKit

set_option maxRecDepth 100000 in
set_option maxHeartbeats 1000000 in
theorem mul_fp64 (rb ro : Nat) (p q : Addr) (x y : Nat) (hx : x < 18446744073709551616) (hy : y < 18446744069414584321) (w : World) (v : Value)
    (hr : w.cell? ⟨rb, ro, none⟩ = some v) (hf : w.frozen? ⟨rb, ro, none⟩ = false) (hp : w.cell? p = some (.int .u64 x)) (hq : w.cell? q = some (.int .u64 y)) :
    Calls Tryz.prog 132 #[.pointer (some ⟨rb, ro, none⟩), .pointer (some p), .pointer (some q)] w fun e w' => e = .returned (.tuple #[]) ∧ Below w.heap.size (w.setCell ⟨rb, ro, none⟩ (.int .u64 (m64 x y))) w' := by
  have hrb : rb < w.heap.size := block_lt_of_cell hr
  go_enter Tryz.func132, Tryz.ntmps132
  go_wp2_with (first
    | (refine wpList_add64 rfl _ _ _ _ rfl _ _ _ rfl rfl rfl (by omega) (by omega) (by omega) ?_; intro s k hs hk he)
    | (refine wpList_sub64 rfl _ _ _ _ rfl _ _ _ rfl rfl rfl (by omega) (by omega) (by omega) ?_; intro s k hs hk he)
    | (go_at_call 147; refine (mul64_any _ _ (by omega) (by omega) _).mono ?_; rintro e w' ⟨h, l, rfl, hh, hl, he, rfl⟩)
    | (go_at_call 146; refine (cmov64_int _ _ _ _ (by omega) (by omega) (by omega) _ (.int .u64 0) (by simp) (by simp)).mono ?_; rintro e w' ⟨z, rfl, hz, he, rfl⟩))
  go_region
  go_end0
  have e : z = m64 x y := by
    have hb : x * y ≤ 18446744073709551615 * 18446744069414584320 := Nat.mul_le_mul (by omega) (by omega)
    have hb' : x * y < 18446744069414584321 * 18446744073709551616 := by omega
    unfold Hid at *
    apply m64_steps hb' <;> with_reducible assumption
  rw [← e]
  exact ⟨rfl, ((Below.refl _ _).alloc (by simp) _).drew⟩
end Go.Proofs.YtlmmdldjfpdcfaaGreatDoor
namespace Go.Proofs.YtlmmdldjfpdcfaaGreatDoor
/-- One step of the reduction in the large field. -/
def red128 (t : Nat) : Nat := (t + ((t % 18446744073709551616) * 18446744073709551615 % 18446744073709551616) * 340282366920938462946865773367900766209) / 18446744073709551616

theorem red128_spec (t : Nat) : ∃ m, m < 18446744073709551616 ∧ 18446744073709551616 * red128 t = t + m * 340282366920938462946865773367900766209 :=
  ⟨(t % 18446744073709551616) * 18446744073709551615 % 18446744073709551616, by omega, by unfold red128; omega⟩

/-- What the reduction's step is, once its multiple is known. -/
theorem red128_eq (t m r : Nat) (hm : m < 18446744073709551616) (h : t + m * 340282366920938462946865773367900766209 = 18446744073709551616 * r) : red128 t = r := by
  obtain ⟨k, hk, e⟩ := red128_spec t
  generalize red128 t = s at *
  omega

/-- Montgomery product of the large field: x = x0 + R x1, Y = y0 + R y1. -/
def m128 (x0 x1 Y : Nat) : Nat :=
  if red128 (red128 (x0 * Y) + x1 * Y) < 340282366920938462946865773367900766209 then red128 (red128 (x0 * Y) + x1 * Y)
  else red128 (red128 (x0 * Y) + x1 * Y) - 340282366920938462946865773367900766209

theorem m128_spec (x0 x1 Y : Nat) (h0 : x0 < 18446744073709551616) (h1 : x1 < 18446744073709551616) (hY : Y < 340282366920938462946865773367900766209) :
    m128 x0 x1 Y < 340282366920938462946865773367900766209 ∧
    (m128 x0 x1 Y * 340282366920938463463374607431768211456) % 340282366920938462946865773367900766209 = (x0 + 18446744073709551616 * x1) * Y % 340282366920938462946865773367900766209 := by
  have ha : x0 * Y ≤ 18446744073709551615 * Y := Nat.mul_le_mul_right _ (by omega)
  have hb : x1 * Y ≤ 18446744073709551615 * Y := Nat.mul_le_mul_right _ (by omega)
  rw [Nat.add_mul, Nat.mul_assoc]
  unfold m128
  revert ha hb
  generalize x0 * Y = a
  generalize x1 * Y = b
  intro ha hb
  obtain ⟨m, hm, e⟩ := red128_spec a
  revert e
  generalize red128 a = s
  intro e
  obtain ⟨m', hm', e'⟩ := red128_spec (s + b)
  revert e'
  generalize red128 (s + b) = r
  intro e'
  split <;> omega

theorem m128_uniq (r S : Nat) (hr : r < 340282366920938462946865773367900766209) (hS : S < 340282366920938462946865773367900766209)
    (h : (r * 340282366920938463463374607431768211456) % 340282366920938462946865773367900766209 = S * 340282366920938463463374607431768211456 % 340282366920938462946865773367900766209) : r = S := by
  omega

/-- Half of the product: a word times the other number, and one step of the reduction, carry by carry. -/
theorem half_steps {h1 l1 h0 l0 x7 x8 x10h m b c k15 s15 x16 x17 x18 x19 : Nat}
    (e1 : (h0 : Int) + l1 + 0 = x8 * 18446744073709551616 + x7)
    (e2 : (l0 : Int) * 18446744073709551615 = x10h * 18446744073709551616 + m) (hm : m < 18446744073709551616)
    (e3 : (m : Int) * 18446744073709551588 = b * 18446744073709551616 + c)
    (e4 : (l0 : Int) + m + 0 = k15 * 18446744073709551616 + s15) (hs : s15 < 18446744073709551616)
    (e5 : (x7 : Int) + c + k15 = x17 * 18446744073709551616 + x16)
    (e6 : (x8 : Int) + h1 + b + x17 = x19 * 18446744073709551616 + x18) :
    red128 (l0 + 18446744073709551616 * h0 + 18446744073709551616 * (l1 + 18446744073709551616 * h1)) = x16 + 18446744073709551616 * x18 + 340282366920938463463374607431768211456 * x19 := by
  have f3 : s15 = 0 := by omega
  subst f3
  refine red128_eq _ m _ hm ?_
  omega

/-- The second half. -/
theorem half_steps2 {x16 x18 x19 h1 l1 h0 l0 x24 x25 x27 x28 x29 x30 x31 x32 x33h m b c k38 s38 x39 x40 x41 x42 : Nat}
    (e1 : (h0 : Int) + l1 + 0 = x25 * 18446744073709551616 + x24)
    (e7 : (x16 : Int) + l0 + 0 = x28 * 18446744073709551616 + x27)
    (e8 : (x18 : Int) + x24 + x28 = x30 * 18446744073709551616 + x29)
    (e9 : (x19 : Int) + (x25 + h1) + x30 = x32 * 18446744073709551616 + x31)
    (e2 : (x27 : Int) * 18446744073709551615 = x33h * 18446744073709551616 + m) (hm : m < 18446744073709551616)
    (e3 : (m : Int) * 18446744073709551588 = b * 18446744073709551616 + c)
    (e4 : (x27 : Int) + m + 0 = k38 * 18446744073709551616 + s38) (hs : s38 < 18446744073709551616)
    (e5 : (x29 : Int) + c + k38 = x40 * 18446744073709551616 + x39)
    (e6 : (x31 : Int) + b + x40 = x42 * 18446744073709551616 + x41) :
    red128 ((x16 + 18446744073709551616 * x18 + 340282366920938463463374607431768211456 * x19) + (l0 + 18446744073709551616 * h0 + 18446744073709551616 * (l1 + 18446744073709551616 * h1))) = x39 + 18446744073709551616 * x41 + 340282366920938463463374607431768211456 * (x42 + x32) := by
  have f3 : s38 = 0 := by omega
  subst f3
  refine red128_eq _ m _ hm ?_
  omega

/-- The last step: the prime is taken off once, where it can be. -/
theorem last_steps {x39 x41 x43 x44 k45 x46 k47 s k49 z0 z1 : Nat} (hb : x39 + 18446744073709551616 * x41 + 340282366920938463463374607431768211456 * x43 < 2 * 340282366920938462946865773367900766209)
    (h39 : x39 < 18446744073709551616) (h41 : x41 < 18446744073709551616) (h44 : x44 < 18446744073709551616) (h46 : x46 < 18446744073709551616) (hs : s < 18446744073709551616)
    (hk45 : k45 ≤ 1) (hk47 : k47 ≤ 1) (hk49 : k49 ≤ 1)
    (e1 : (x39 : Int) + k45 * 18446744073709551616 = 1 + 0 + x44)
    (e2 : (x41 : Int) + k47 * 18446744073709551616 = 18446744073709551588 + k45 + x46)
    (e3 : (x43 : Int) + k49 * 18446744073709551616 = 0 + k47 + s)
    (e4 : (k49 : Int) = 0 ∧ (z0 : Int) = x44 ∨ (k49 : Int) = 1 ∧ (z0 : Int) = x39)
    (e5 : (k49 : Int) = 0 ∧ (z1 : Int) = x46 ∨ (k49 : Int) = 1 ∧ (z1 : Int) = x41) :
    z0 + 18446744073709551616 * z1 = if x39 + 18446744073709551616 * x41 + 340282366920938463463374607431768211456 * x43 < 340282366920938462946865773367900766209 then x39 + 18446744073709551616 * x41 + 340282366920938463463374607431768211456 * x43
      else x39 + 18446744073709551616 * x41 + 340282366920938463463374607431768211456 * x43 - 340282366920938462946865773367900766209 := by
  have h43 : x43 = 0 ∨ x43 = 1 := by omega
  have hk45' : k45 = 0 ∨ k45 = 1 := by omega
  have hk47' : k47 = 0 ∨ k47 = 1 := by omega
  have hk49' : k49 = 0 ∨ k49 = 1 := by omega
  rcases h43 with rfl | rfl <;> rcases hk45' with rfl | rfl <;> rcases hk47' with rfl | rfl <;> rcases hk49' with rfl | rfl <;> split <;> omega

/-- All steps of the large field's product. -/
theorem m128_steps {x0 x1 y0 y1 a1 b1 a0 b0 x7 x8 x10h m b c k15 s15 x16 x17 x18 x19 h1 l1 h0 l0 x24 x25 x27 x28 x29 x30 x31 x32 x33h m' b' c' k38 s38 x39 x40 x41 x42 x44 k45 x46 k47 s k49 z0 z1 : Nat}
    (hx0 : x0 < 18446744073709551616) (hx1 : x1 < 18446744073709551616) (hY : y0 + 18446744073709551616 * y1 < 340282366920938462946865773367900766209)
    (p1 : (x0 : Int) * y1 = a1 * 18446744073709551616 + b1) (p2 : (x0 : Int) * y0 = a0 * 18446744073709551616 + b0)
    (e1 : (a0 : Int) + b1 + 0 = x8 * 18446744073709551616 + x7)
    (e2 : (b0 : Int) * 18446744073709551615 = x10h * 18446744073709551616 + m) (hm : m < 18446744073709551616)
    (e3 : (m : Int) * 18446744073709551588 = b * 18446744073709551616 + c)
    (e4 : (b0 : Int) + m + 0 = k15 * 18446744073709551616 + s15) (hs : s15 < 18446744073709551616)
    (e5 : (x7 : Int) + c + k15 = x17 * 18446744073709551616 + x16)
    (e6 : (x8 : Int) + a1 + b + x17 = x19 * 18446744073709551616 + x18)
    (q1 : (x1 : Int) * y1 = h1 * 18446744073709551616 + l1) (q2 : (x1 : Int) * y0 = h0 * 18446744073709551616 + l0)
    (f1 : (h0 : Int) + l1 + 0 = x25 * 18446744073709551616 + x24)
    (f7 : (x16 : Int) + l0 + 0 = x28 * 18446744073709551616 + x27)
    (f8 : (x18 : Int) + x24 + x28 = x30 * 18446744073709551616 + x29)
    (f9 : (x19 : Int) + (x25 + h1) + x30 = x32 * 18446744073709551616 + x31)
    (f2 : (x27 : Int) * 18446744073709551615 = x33h * 18446744073709551616 + m') (hm' : m' < 18446744073709551616)
    (f3 : (m' : Int) * 18446744073709551588 = b' * 18446744073709551616 + c')
    (f4 : (x27 : Int) + m' + 0 = k38 * 18446744073709551616 + s38) (hs' : s38 < 18446744073709551616)
    (f5 : (x29 : Int) + c' + k38 = x40 * 18446744073709551616 + x39)
    (f6 : (x31 : Int) + b' + x40 = x42 * 18446744073709551616 + x41)
    (g1 : (x39 : Int) + k45 * 18446744073709551616 = 1 + 0 + x44)
    (g2 : (x41 : Int) + k47 * 18446744073709551616 = 18446744073709551588 + k45 + x46)
    (g3 : (x42 : Int) + x32 + k49 * 18446744073709551616 = 0 + k47 + s)
    (g4 : (k49 : Int) = 0 ∧ (z0 : Int) = x44 ∨ (k49 : Int) = 1 ∧ (z0 : Int) = x39)
    (g5 : (k49 : Int) = 0 ∧ (z1 : Int) = x46 ∨ (k49 : Int) = 1 ∧ (z1 : Int) = x41)
    (h39 : x39 < 18446744073709551616) (h41 : x41 < 18446744073709551616) (h44 : x44 < 18446744073709551616) (h46 : x46 < 18446744073709551616) (hss : s < 18446744073709551616)
    (hk45 : k45 ≤ 1) (hk47 : k47 ≤ 1) (hk49 : k49 ≤ 1) :
    z0 + 18446744073709551616 * z1 = m128 x0 x1 (y0 + 18446744073709551616 * y1) := by
  have n1 : x0 * (y0 + 18446744073709551616 * y1) = b0 + 18446744073709551616 * a0 + 18446744073709551616 * (b1 + 18446744073709551616 * a1) := by
    have c1 : ((x0 * y1 : Nat) : Int) = (x0 : Int) * y1 := Int.natCast_mul x0 y1
    have c2 : ((x0 * y0 : Nat) : Int) = (x0 : Int) * y0 := Int.natCast_mul x0 y0
    rw [Nat.mul_add, Nat.mul_left_comm]
    generalize x0 * y1 = u at *
    generalize x0 * y0 = v at *
    omega
  have n2 : x1 * (y0 + 18446744073709551616 * y1) = l0 + 18446744073709551616 * h0 + 18446744073709551616 * (l1 + 18446744073709551616 * h1) := by
    have c1 : ((x1 * y1 : Nat) : Int) = (x1 : Int) * y1 := Int.natCast_mul x1 y1
    have c2 : ((x1 * y0 : Nat) : Int) = (x1 : Int) * y0 := Int.natCast_mul x1 y0
    rw [Nat.mul_add, Nat.mul_left_comm]
    generalize x1 * y1 = u at *
    generalize x1 * y0 = v at *
    omega
  have r1 := half_steps e1 e2 hm e3 e4 hs e5 e6
  have r2 := half_steps2 f1 f7 f8 f9 f2 hm' f3 f4 hs' f5 f6
  rw [← n1] at r1
  rw [← n2, ← r1] at r2
  have bd : red128 (red128 (x0 * (y0 + 18446744073709551616 * y1)) + x1 * (y0 + 18446744073709551616 * y1)) < 2 * 340282366920938462946865773367900766209 := by
    have ha : x0 * (y0 + 18446744073709551616 * y1) ≤ 18446744073709551615 * (y0 + 18446744073709551616 * y1) := Nat.mul_le_mul_right _ (by omega)
    have hb : x1 * (y0 + 18446744073709551616 * y1) ≤ 18446744073709551615 * (y0 + 18446744073709551616 * y1) := Nat.mul_le_mul_right _ (by omega)
    clear r1 r2 n1 n2
    revert ha hb
    generalize x0 * (y0 + 18446744073709551616 * y1) = u
    generalize x1 * (y0 + 18446744073709551616 * y1) = v
    generalize y0 + 18446744073709551616 * y1 = Y at *
    intro ha hb
    obtain ⟨m, hm, e⟩ := red128_spec u
    revert e
    generalize red128 u = t
    intro e
    obtain ⟨m', hm', e'⟩ := red128_spec (t + v)
    revert e'
    generalize red128 (t + v) = r
    intro e'
    clear e1 e2 e3 e4 e5 e6 f1 f2 f3 f4 f5 f6 f7 f8 f9 g1 g2 g3 g4 g5 p1 p2 q1 q2
    omega
  unfold m128
  rw [r2] at bd ⊢
  exact last_steps bd h39 h41 h44 h46 hss hk45 hk47 hk49 g1 g2 (by omega) g4 g5
end Go.Proofs.YtlmmdldjfpdcfaaGreatDoor
namespace Go.Proofs.YtlmmdldjfpdcfaaGreatDoor
open Go.RowKit

set_option maxRecDepth 100000 in
set_option maxHeartbeats 2000000 in
theorem mul_fp128 (rb ro pb po qb qo : Nat) (x0 x1 y0 y1 : Nat) (hx0 : x0 < 18446744073709551616) (hx1 : x1 < 18446744073709551616) (hy0 : y0 < 18446744073709551616) (hy1 : y1 < 18446744073709551616)
    (hY : y0 + 18446744073709551616 * y1 < 340282366920938462946865773367900766209) (w : World) (v v' : Value)
    (hr : w.cell? ⟨rb, ro, none⟩ = some v) (hr' : w.cell? ⟨rb, ro + 1, none⟩ = some v') (hf : w.frozen? ⟨rb, ro, none⟩ = false) (hf' : w.frozen? ⟨rb, ro + 1, none⟩ = false)
    (hp : w.cell? ⟨pb, po, none⟩ = some (.int .u64 x0)) (hp' : w.cell? ⟨pb, po + 1, none⟩ = some (.int .u64 x1))
    (hq : w.cell? ⟨qb, qo, none⟩ = some (.int .u64 y0)) (hq' : w.cell? ⟨qb, qo + 1, none⟩ = some (.int .u64 y1)) :
    Calls Tryz.prog 143 #[.pointer (some ⟨rb, ro, none⟩), .pointer (some ⟨pb, po, none⟩), .pointer (some ⟨qb, qo, none⟩)] w fun e w' => e = .returned (.tuple #[]) ∧
      ∃ z0 z1 : Nat, z0 < 18446744073709551616 ∧ z1 < 18446744073709551616 ∧ z0 + 18446744073709551616 * z1 = m128 x0 x1 (y0 + 18446744073709551616 * y1) ∧
        Below w.heap.size ((w.setCell ⟨rb, ro, none⟩ (.int .u64 z0)).setCell ⟨rb, ro + 1, none⟩ (.int .u64 z1)) w' := by
  have hrb : rb < w.heap.size := block_lt_of_cell hr
  go_enter Tryz.func143, Tryz.ntmps143
  go_wp2_with (first
    | (refine wpList_add64 rfl _ _ _ _ rfl _ _ _ rfl rfl rfl (by omega) (by omega) (by omega) ?_; intro s k hs hk he)
    | (refine wpList_sub64 rfl _ _ _ _ rfl _ _ _ rfl rfl rfl (by omega) (by omega) (by omega) ?_; intro s k hs hk he)
    | (go_at_call 147; refine (mul64_any _ _ (by omega) (by omega) _).mono ?_; rintro e w' ⟨h, l, rfl, hh, hl, he, rfl⟩)
    | (go_at_call 153; refine (cmov128_int _ _ _ _ (by omega) (by omega) (by omega) _ (.int .u64 0) (by simp) (by simp)).mono ?_; rintro e w' ⟨z, rfl, hz, he, rfl⟩))
  go_region
  go_wp2
  go_region
  go_end0
  refine ⟨rfl, _, _, ?_, ?_, ?_, ((Below.refl _ _).alloc (by simp) _).alloc (by simp) _ |>.drew.drew⟩
  rotate_left 2
  · unfold Hid at *
    apply m128_steps hx0 hx1 hY <;> with_reducible assumption
  · assumption
  · assumption
end Go.Proofs.YtlmmdldjfpdcfaaGreatDoor
namespace Go.Proofs.YtlmmdldjfpdcfaaGreatDoor
open Go.RowKit

theorem setCell_twice (w : World) (b o : Nat) (v v' : Value) : (w.setCell ⟨b, o, none⟩ v).setCell ⟨b, o, none⟩ v' = w.setCell ⟨b, o, none⟩ v' := by
  unfold World.setCell
  congr 1
  apply Array.ext
  · simp
  · intro i h1 h2
    simp only [Array.getElem_modify]
    split
    · cases w.heap[i]'(by simpa using h1) <;> simp
    · rfl

theorem setCell_swap (w : World) (b o o' : Nat) (v v' : Value) (h : o ≠ o') : (w.setCell ⟨b, o, none⟩ v).setCell ⟨b, o', none⟩ v' = (w.setCell ⟨b, o', none⟩ v').setCell ⟨b, o, none⟩ v := by
  unfold World.setCell
  congr 1
  apply Array.ext
  · simp
  · intro i h1 h2
    simp only [Array.getElem_modify]
    split
    · cases w.heap[i]'(by simpa using h1) <;> simp
      exact Array.setIfInBounds_comm _ _ h
    · rfl

set_option maxHeartbeats 400000 in
theorem toMont64 (zb zo : Nat) (x : Nat) (hx : x < 18446744073709551616) (w : World) (hz : w.cell? ⟨zb, zo, none⟩ = some (.int .u64 x)) (hf : w.frozen? ⟨zb, zo, none⟩ = false) :
    Calls Tryz.prog 110 #[.pointer (some ⟨zb, zo, none⟩)] w fun e w' => e = .returned (.tuple #[]) ∧ Below w.heap.size (w.setCell ⟨zb, zo, none⟩ (.int .u64 (m64 x 18446744065119617025))) w' := by
  have hzb : zb < w.heap.size := block_lt_of_cell hz
  go_enter Tryz.func110, Tryz.ntmps110
  go_wp2_with (first | (go_at_call 133; go_in) | (go_at_call 132; refine (mul_fp64 zb zo _ _ x 18446744065119617025 hx (by omega) _ (.int .u64 x) (by go_simp) (by go_simp) (by go_simp) (by go_simp)).mono ?_; rintro e w' ⟨rfl, hb⟩))
  go_end0
  refine ⟨rfl, ?_⟩
  rw [World.setCell_alloc_past _ _ _ _ hzb] at hb
  exact ((Below.refl _ _).alloc (by simp) _).trans (hb.mono (by simp))

set_option maxHeartbeats 400000 in
set_option maxRecDepth 100000 in
/-- (*fp64.Fp).SetUint64 of a number below the prime. -/
theorem setUint64 (zb zo : Nat) (x : Nat) (hx : x < 18446744069414584321) (w : World) (v : Value) (hz : w.cell? ⟨zb, zo, none⟩ = some v) (hf : w.frozen? ⟨zb, zo, none⟩ = false) :
    Calls Tryz.prog 86 #[.pointer (some ⟨zb, zo, none⟩), .int .u64 x] w fun e w' => e = .returned .nilIface ∧ Below w.heap.size (w.setCell ⟨zb, zo, none⟩ (.int .u64 (m64 x 18446744065119617025))) w' := by
  have hzb : zb < w.heap.size := block_lt_of_cell hz
  have hd : decide ((18446744069414584321 : Int) ≤ (x : Int)) = false := by simp; omega
  have hx' : x < 18446744073709551616 := by omega
  have hX := Lib.hid hx
  clear hx
  go_enter Tryz.func86, Tryz.ntmps86
  go_wp2_with (go_at_call 110; refine (toMont64 zb zo x hx' _ (by go_simp) (by go_simp)).mono ?_; rintro e w' ⟨rfl, hb⟩)
  go_ret
  refine ⟨rfl, ?_⟩
  rw [setCell_twice] at hb
  simpa using hb

/-- (*fp128.Fp).toMont. -/
theorem toMont128 (zb zo : Nat) (x0 x1 : Nat) (h0 : x0 < 18446744073709551616) (h1 : x1 < 18446744073709551616) (w : World) (hz : w.cell? ⟨zb, zo, none⟩ = some (.int .u64 x0)) (hz' : w.cell? ⟨zb, zo + 1, none⟩ = some (.int .u64 x1))
    (hf : w.frozen? ⟨zb, zo, none⟩ = false) (hf' : w.frozen? ⟨zb, zo + 1, none⟩ = false) :
    Calls Tryz.prog 125 #[.pointer (some ⟨zb, zo, none⟩)] w fun e w' => e = .returned (.tuple #[]) ∧
      ∃ z0 z1 : Nat, z0 < 18446744073709551616 ∧ z1 < 18446744073709551616 ∧ z0 + 18446744073709551616 * z1 = m128 x0 x1 (18446744073709550833 + 18446744073709551616 * 21895) ∧
        Below w.heap.size ((w.setCell ⟨zb, zo, none⟩ (.int .u64 z0)).setCell ⟨zb, zo + 1, none⟩ (.int .u64 z1)) w' := by
  have hzb : zb < w.heap.size := block_lt_of_cell hz
  go_enter Tryz.func125, Tryz.ntmps125
  go_wp2_with (first | (go_at_call 144; go_in) | (go_at_call 143; refine (mul_fp128 zb zo zb zo _ _ x0 x1 18446744073709550833 21895 h0 h1 (by omega) (by omega) (by omega) _ (.int .u64 x0) (.int .u64 x1) (by go_simp) (by go_simp) (by go_simp) (by go_simp) (by go_simp) (by go_simp) (by go_simp) (by go_simp)).mono ?_; rintro e w' ⟨rfl, z0, z1, hz0, hz1, hm, hb⟩))
  go_end0
  refine ⟨rfl, z0, z1, hz0, hz1, hm, ?_⟩
  rw [World.setCell_alloc_past _ _ _ _ hzb, World.setCell_alloc_past _ _ _ _ (by simpa using hzb)] at hb
  exact ((Below.refl _ _).alloc (by simp) _).trans (hb.mono (by simp))

/-- (*fp128.Fp).SetUint64. -/
theorem setUint128 (zb zo : Nat) (x : Nat) (hx : x < 18446744073709551616) (w : World) (v v' : Value) (hz : w.cell? ⟨zb, zo, none⟩ = some v) (hz' : w.cell? ⟨zb, zo + 1, none⟩ = some v')
    (hf : w.frozen? ⟨zb, zo, none⟩ = false) (hf' : w.frozen? ⟨zb, zo + 1, none⟩ = false) :
    Calls Tryz.prog 97 #[.pointer (some ⟨zb, zo, none⟩), .int .u64 x] w fun e w' => e = .returned .nilIface ∧
      ∃ z0 z1 : Nat, z0 < 18446744073709551616 ∧ z1 < 18446744073709551616 ∧ z0 + 18446744073709551616 * z1 = m128 x 0 (18446744073709550833 + 18446744073709551616 * 21895) ∧
        Below w.heap.size ((w.setCell ⟨zb, zo, none⟩ (.int .u64 z0)).setCell ⟨zb, zo + 1, none⟩ (.int .u64 z1)) w' := by
  have hzb : zb < w.heap.size := block_lt_of_cell hz
  go_enter Tryz.func97, Tryz.ntmps97
  go_wp2_with (go_at_call 125; refine (toMont128 zb zo x 0 hx (by omega) _ (by go_simp) (by go_simp) (by go_simp) (by go_simp)).mono ?_; rintro e w' ⟨rfl, z0, z1, hz0, hz1, hm, hb⟩)
  go_ret
  refine ⟨rfl, z0, z1, hz0, hz1, hm, ?_⟩
  have e : (((w.setCell ⟨zb, zo, none⟩ (.int .u64 x)).setCell ⟨zb, zo + 1, none⟩ (.int .u64 0)).setCell ⟨zb, zo, none⟩ (.int .u64 z0)).setCell ⟨zb, zo + 1, none⟩ (.int .u64 z1) = (w.setCell ⟨zb, zo, none⟩ (.int .u64 z0)).setCell ⟨zb, zo + 1, none⟩ (.int .u64 z1) := by
    rw [setCell_swap (w.setCell ⟨zb, zo, none⟩ (.int .u64 x)) zb (zo + 1) zo _ _ (by omega), setCell_twice w, setCell_twice]
  rw [e] at hb
  simpa using hb
end Go.Proofs.YtlmmdldjfpdcfaaGreatDoor
namespace Go.Proofs.YtlmmdldjfpdcfaaGreatDoor
open Go.RowKit

theorem set64_any (zb zo : Nat) (x : Nat) (hx : x < 18446744069414584321) (w : World) (v : Value) (hz : w.cell? ⟨zb, zo, none⟩ = some v) (hf : w.frozen? ⟨zb, zo, none⟩ = false) :
    Calls Tryz.prog 86 #[.pointer (some ⟨zb, zo, none⟩), .int .u64 x] w fun e w' => e = .returned .nilIface ∧ ∃ z : Nat, Below w.heap.size (w.setCell ⟨zb, zo, none⟩ (.int .u64 z)) w' :=
  (setUint64 zb zo x hx w v hz hf).mono fun _ _ h => ⟨h.1, _, h.2⟩

theorem set128_any (zb zo : Nat) (x : Nat) (hx : x < 18446744073709551616) (w : World) (v v' : Value) (hz : w.cell? ⟨zb, zo, none⟩ = some v) (hz' : w.cell? ⟨zb, zo + 1, none⟩ = some v')
    (hf : w.frozen? ⟨zb, zo, none⟩ = false) (hf' : w.frozen? ⟨zb, zo + 1, none⟩ = false) :
    Calls Tryz.prog 97 #[.pointer (some ⟨zb, zo, none⟩), .int .u64 x] w fun e w' => e = .returned .nilIface ∧ ∃ z0 z1 : Nat, Below w.heap.size ((w.setCell ⟨zb, zo, none⟩ (.int .u64 z0)).setCell ⟨zb, zo + 1, none⟩ (.int .u64 z1)) w' :=
  (setUint128 zb zo x hx w v v' hz hz' hf hf').mono fun _ _ h => by obtain ⟨h1, z0, z1, _, _, _, h2⟩ := h; exact ⟨h1, z0, z1, h2⟩
end Go.Proofs.YtlmmdldjfpdcfaaGreatDoor
namespace Go.Proofs.YtlmmdldjfpdcfaaGreatDoor
open Go.RowKit

theorem below_drewN {B : Nat} {a w : World} (h : Below B a w) (n : Nat) : Below B a (w.drewN n) := ⟨h.os, h.tape, h.output, h.size, h.block⟩

abbrev fs3 (x n b q : Nat) : Array Value := #[.func (.func 89) #[.pointer (some ⟨x, 0, none⟩)] #[], .int .u64 q, .int .u64 ((n * b + q - 1) / q : Nat), .int .u64 (n * b : Nat), .int .u64 ((n * b + q - 1) / q : Nat), .int .u64 1, .int .u64 n, .int .u64 n, .int .u64 b, .int .u64 q]

set_option maxRecDepth 100000 in
set_option maxHeartbeats 1000000 in
theorem flp3_ok (w : World) (n b q : Nat) (hn0 : 0 < n) (hn : n < 1024) (hb0 : 0 < b) (hb : b ≤ 64) (hq : 0 < q) (hq2 : q < 65536) :
    Calls Tryz.prog 63 #[.int .u64 n, .int .u64 b, .int .u64 q] w fun e w' => e = .returned (.tuple #[.pointer (some ⟨w.heap.size, 0, none⟩), .nilIface]) ∧ w' = w.alloc (.cells (fs3 w.heap.size n b q) 215) := by
  have hm : n * b ≤ 65536 := Nat.le_trans (Nat.mul_le_mul (Nat.le_of_lt hn) hb) (by omega)
  have hm' : ((n * b : Nat) : Int) ≤ 65536 := by omega
  rw [Int.natCast_mul] at hm'
  have t1 : ((n : Int) == 0) = false := by simp; omega
  have t2 : ((b : Int) == 0 || decide ((64 : Int) < (b : Int))) = false := by simp; omega
  have t2' : ((b : Int) == 0) = false := by simp; omega
  have t3 : ((q : Int) == 0) = false := by simp; omega
  have hm0 : (0 : Int) ≤ (n : Int) * (b : Int) := Int.mul_nonneg (Int.natCast_nonneg _) (Int.natCast_nonneg _)
  go_enter Tryz.func63, Tryz.ntmps63
  go_wp2
  refine bodyPost_ret (results_tmp2 rfl _ _ _) rfl ⟨rfl, ?_⟩
  rw [← Int.natCast_mul, ceil_cast (n * b) q hq]

set_option maxRecDepth 100000 in
set_option maxHeartbeats 1000000 in
theorem flp3_bad (w : World) (n b q : Nat) (h : n = 0 ∨ b = 0 ∨ 64 < b ∨ q = 0) (t5 t6 t7 : TypeId) (v5 v6 v7 : Value) (g5 : w.cell? ⟨5, 0, none⟩ = some (.iface t5 v5)) (g6 : w.cell? ⟨6, 0, none⟩ = some (.iface t6 v6)) (g7 : w.cell? ⟨7, 0, none⟩ = some (.iface t7 v7)) :
    Calls Tryz.prog 63 #[.int .u64 n, .int .u64 b, .int .u64 q] w fun e w' => (∃ t v, e = .returned (.tuple #[.pointer none, .iface t v])) ∧ Below w.heap.size w w' := by
  by_cases h1 : n = 0
  · subst h1
    clear h
    go_enter Tryz.func63, Tryz.ntmps63
    go_wp2
    go_quiet (fail)
    go_wp2
    exact bodyPost_ret (results_tmp2 rfl _ _ _) rfl ⟨⟨_, _, rfl⟩, below_drewN (Below.refl _ _) _⟩
  have t1 : ((n : Int) == 0) = false := by simp; omega
  by_cases h2 : b = 0
  · subst h2
    clear h h1
    go_enter Tryz.func63, Tryz.ntmps63
    go_wp2
    go_quiet (fail)
    go_wp2
    exact bodyPost_ret (results_tmp2 rfl _ _ _) rfl ⟨⟨_, _, rfl⟩, below_drewN (Below.refl _ _) _⟩
  have t2' : ((b : Int) == 0) = false := by simp; omega
  by_cases h3 : 64 < b
  · have t2 : ((b : Int) == 0 || decide ((64 : Int) < (b : Int))) = true := by simp; omega
    clear h h1 h2
    go_enter Tryz.func63, Tryz.ntmps63
    go_wp2
    go_quiet (fail)
    go_wp2
    exact bodyPost_ret (results_tmp2 rfl _ _ _) rfl ⟨⟨_, _, rfl⟩, below_drewN (Below.refl _ _) _⟩
  have t2 : ((b : Int) == 0 || decide ((64 : Int) < (b : Int))) = false := by simp; omega
  have t4 : ((q : Int) == 0) = true := by simp; omega
  have hb : b ≤ 64 := by omega
  clear h h1 h2 h3
  go_enter Tryz.func63, Tryz.ntmps63
  go_wp2
  go_quiet (fail)
  go_wp2
  exact bodyPost_ret (results_tmp2 rfl _ _ _) rfl ⟨⟨_, _, rfl⟩, below_drewN (Below.refl _ _) _⟩
end Go.Proofs.YtlmmdldjfpdcfaaGreatDoor
