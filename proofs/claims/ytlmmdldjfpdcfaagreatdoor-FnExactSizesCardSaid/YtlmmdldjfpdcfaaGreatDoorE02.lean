/- What the walks lean on: arms for Add64 and Sub64, Mul64 by the shelf, the choice by a carry. The least power of two that is at least a number, as the package finds it. A field that takes no room lies where it lies. The lengths that a proof system tells: its accessors. -/
import Derived.Test.YtlmmdldjfpdcfaaGreatDoorE01
import Derived.WalkKit
import Derived.WalkSpells
import Derived.WalkLawsBesides
import Derived.Handy
import Derived.Deep.MidRow
import Derived.Lib.Hide
import Derived.Shelf.Spec.BitsCarry
import Derived.Deep.RegionHeld3
namespace Go.Proofs.YtlmmdldjfpdcfaaGreatDoor
open Go.RowKit

/-- Behind a call that writes one old cell. -/
theorem bcells {W w1 : World} {B : Nat} (hb : Below B W w1) : (∀ b o, b < B → w1.cell? ⟨b, o, none⟩ = W.cell? ⟨b, o, none⟩) ∧ (∀ b o, b < B → w1.frozen? ⟨b, o, none⟩ = W.frozen? ⟨b, o, none⟩) :=
  ⟨fun b o h => hb.cell (p := ⟨b, o, none⟩) h, fun b o h => hb.frozen (p := ⟨b, o, none⟩) h⟩

/-- A choice by a carry. -/
def sel (b x y : Nat) : Nat := if b = 0 then x else y

theorem cmov_bits (b x y : Nat) (hb : b ≤ 1) (hx : x < 18446744073709551616) (hy : y < 18446744073709551616) :
    bits .or .u64 (bits .andNot .u64 (x : Int) (IntKind.u64.wrap (-(b : Int)))) (bits .and .u64 (y : Int) (IntKind.u64.wrap (-(b : Int)))) = ((sel b x y : Nat) : Int) := by
  have : b = 0 ∨ b = 1 := by omega
  rcases this with rfl | rfl
  · have e : IntKind.u64.wrap (-((0 : Nat) : Int)) = ((0 : Nat) : Int) := by rw [IntKind.wrap_u64]; omega
    rw [e, u64_andNot_nat x 0 hx (by omega), bits_and_u64_nat y 0 hy (by omega)]
    have e1 : x &&& (18446744073709551615 - 0) = x := by
      have h := Nat.and_two_pow_sub_one_eq_mod x 64
      have : (2 ^ 64 - 1 : Nat) = 18446744073709551615 - 0 := by decide
      rw [this] at h; rw [h]; exact Nat.mod_eq_of_lt (by simpa using hx)
    rw [e1, Nat.and_zero, bits_or_u64_nat x 0 hx (by omega), Nat.or_zero]
    rfl
  · have e : IntKind.u64.wrap (-((1 : Nat) : Int)) = ((18446744073709551615 : Nat) : Int) := by rw [IntKind.wrap_u64]; omega
    rw [e, u64_andNot_nat x _ hx (by omega), bits_and_u64_nat y _ hy (by omega)]
    have e1 : y &&& 18446744073709551615 = y := by
      have h := Nat.and_two_pow_sub_one_eq_mod y 64
      have : (2 ^ 64 - 1 : Nat) = 18446744073709551615 := by decide
      rw [this] at h; rw [h]; exact Nat.mod_eq_of_lt (by simpa using hy)
    rw [e1, Nat.sub_self, Nat.and_zero, bits_or_u64_nat 0 y (by omega) hy, Nat.zero_or]
    rfl

theorem cmov64_any (z : Addr) (b x y : Nat) (hb : b ≤ 1) (hx : x < 18446744073709551616) (hy : y < 18446744073709551616) (w : World) (v : Value) (hc : w.cell? z = some v) (hf : w.frozen? z = false) :
    Calls Tryz.prog 146 #[.pointer (some z), .int .u64 b, .int .u64 x, .int .u64 y] w fun e w' => e = .returned (.tuple #[]) ∧ w' = w.setCell z (.int .u64 (sel b x y)) := by
  have E := Lib.hid (cmov_bits b x y hb hx hy)
  go_enter Tryz.func146, Tryz.ntmps146
  go_wp2
  go_end0
  exact ⟨rfl, by rw [E.out]⟩
theorem cmov128_any (z : Addr) (b x y : Nat) (hb : b ≤ 1) (hx : x < 18446744073709551616) (hy : y < 18446744073709551616) (w : World) (v : Value) (hc : w.cell? z = some v) (hf : w.frozen? z = false) :
    Calls Tryz.prog 153 #[.pointer (some z), .int .u64 b, .int .u64 x, .int .u64 y] w fun e w' => e = .returned (.tuple #[]) ∧ w' = w.setCell z (.int .u64 (sel b x y)) := by
  have E := Lib.hid (cmov_bits b x y hb hx hy)
  go_enter Tryz.func153, Tryz.ntmps153
  go_wp2
  go_end0
  exact ⟨rfl, by rw [E.out]⟩

variable {ops : Array Oper} {rest : List Oper} {o : Oper} {a : Act} {w : World} {Q : Exit → Act → World → Prop}

theorem add64_run (x y c : Nat) (hc : c ≤ 1) (w : World) :
    (callFunc 100 #[.int .u64 x, .int .u64 y, .int .u64 c]).run Tryz.prog w =
      .ok (.value (.tuple #[.int .u64 (((x + y + c) % 18446744073709551616 : Nat) : Int), .int .u64 (((x + y + c) / 18446744073709551616 : Nat) : Int)])) w := by
  rw [run_callFunc_extern Tryz.func100 (by kernel_rfl) (by kernel_rfl) (by kernel_rfl) (e := add64Entry) (by kernel_rfl), run_add64 x y c (by omega) (by omega) (by omega) (by omega)]
  simp only [Result.andThen]
  congr 5 <;> omega

theorem sub64_run (x y b : Nat) (hb : b ≤ 1) (w : World) :
    (callFunc 101 #[.int .u64 x, .int .u64 y, .int .u64 b]).run Tryz.prog w =
      .ok (.value (.tuple #[.int .u64 (((x + 18446744073709551616 - y - b) % 18446744073709551616 : Nat) : Int), .int .u64 ((if x < y + b then 1 else 0 : Nat) : Int)])) w := by
  rw [run_callFunc_extern Tryz.func101 (by kernel_rfl) (by kernel_rfl) (by kernel_rfl) (e := sub64Entry) (by kernel_rfl), run_sub64 x y b hb]
  rfl

theorem exec_call3 (ρ : Operand → Value) (f : FuncId) (x y c : Operand) (tys : Array TypeId) (X Y C : Value) (hf : ρ (.func f) = .func (.func f) #[] #[])
    (ho : o.op = .call ⟨.value (.func f), #[x, y, c], tys⟩) (hx : ρ x = X) (hy : ρ y = Y) (hc : ρ c = C) : (execOp ρ o).run Tryz.prog w = (callFunc f #[X, Y, C]).run Tryz.prog w := by
  unfold execOp
  simp [go_sem, ho, hx, hy, hc, hf]


theorem wpList_add64 (hgd : o.guard = none) (x y c : Operand) (tys : Array TypeId) (ho : o.op = .call ⟨.value (.func 100), #[x, y, c], tys⟩) (X Y C : Int)
    (hx : a.eval x = .int .u64 X) (hy : a.eval y = .int .u64 Y) (hc : a.eval c = .int .u64 C) (hX : 0 ≤ X ∧ X < 18446744073709551616) (hY : 0 ≤ Y ∧ Y < 18446744073709551616) (hC : 0 ≤ C ∧ C ≤ 1)
    (h : ∀ s k : Nat, s < 18446744073709551616 → k ≤ 1 → Hid (X + Y + C = k * 18446744073709551616 + s) → wpList Tryz.prog ops Q rest (a.put o.dst (.tuple #[.int .u64 s, .int .u64 k])) w) :
    wpList Tryz.prog ops Q (o :: rest) a w := by
  refine wpList_plain hgd fun K hK => ?_
  unfold Oper.wp
  obtain ⟨X, rfl⟩ := Int.eq_ofNat_of_zero_le hX.1
  obtain ⟨Y, rfl⟩ := Int.eq_ofNat_of_zero_le hY.1
  obtain ⟨C, rfl⟩ := Int.eq_ofNat_of_zero_le hC.1
  rw [exec_call3 a.eval 100 x y c tys _ _ _ rfl ho hx hy hc, add64_run X Y C (by omega) w]
  exact hK _ _ (h _ _ (by omega) (by omega) (by show _ = _; omega))

theorem wpList_sub64 (hgd : o.guard = none) (x y c : Operand) (tys : Array TypeId) (ho : o.op = .call ⟨.value (.func 101), #[x, y, c], tys⟩) (X Y C : Int)
    (hx : a.eval x = .int .u64 X) (hy : a.eval y = .int .u64 Y) (hc : a.eval c = .int .u64 C) (hX : 0 ≤ X ∧ X < 18446744073709551616) (hY : 0 ≤ Y ∧ Y < 18446744073709551616) (hC : 0 ≤ C ∧ C ≤ 1)
    (h : ∀ s k : Nat, s < 18446744073709551616 → k ≤ 1 → Hid (X + k * 18446744073709551616 = Y + C + s) → wpList Tryz.prog ops Q rest (a.put o.dst (.tuple #[.int .u64 s, .int .u64 k])) w) :
    wpList Tryz.prog ops Q (o :: rest) a w := by
  refine wpList_plain hgd fun K hK => ?_
  unfold Oper.wp
  obtain ⟨X, rfl⟩ := Int.eq_ofNat_of_zero_le hX.1
  obtain ⟨Y, rfl⟩ := Int.eq_ofNat_of_zero_le hY.1
  obtain ⟨C, rfl⟩ := Int.eq_ofNat_of_zero_le hC.1
  rw [exec_call3 a.eval 101 x y c tys _ _ _ rfl ho hx hy hc, sub64_run X Y C (by omega) w]
  refine hK _ _ (h _ _ (by omega) (by split <;> omega) (by show _ = _; split <;> omega))

theorem mul64_any (x y : Int) (hx : 0 ≤ x ∧ x < 18446744073709551616) (hy : 0 ≤ y ∧ y < 18446744073709551616) (w : World) :
    Calls Tryz.prog 147 #[.int .u64 x, .int .u64 y] w fun e w' => ∃ h l : Nat, e = .returned (.tuple #[.int .u64 h, .int .u64 l]) ∧ h < 18446744073709551615 ∧ l < 18446744073709551616 ∧ Hid (x * y = h * 18446744073709551616 + l) ∧ w = w' := by
  obtain ⟨x, rfl⟩ := Int.eq_ofNat_of_zero_le hx.1
  obtain ⟨y, rfl⟩ := Int.eq_ofNat_of_zero_le hy.1
  have hb : x * y ≤ 18446744073709551615 * 18446744073709551615 := Nat.mul_le_mul (by omega) (by omega)
  refine (Tryz.bits_Mul64 x y (by omega) (by omega) w).mono fun e w' ⟨h1, h2⟩ => ⟨_, _, h1, ?_, ?_, ?_, h2.symm⟩
  · omega
  · omega
  · show (x : Int) * y = _
    rw [← Int.natCast_mul]
    omega

theorem cmov64_int (z : Addr) (b x y : Int) (hb : 0 ≤ b ∧ b ≤ 1) (hx : 0 ≤ x ∧ x < 18446744073709551616) (hy : 0 ≤ y ∧ y < 18446744073709551616) (w : World) (v : Value) (hc : w.cell? z = some v) (hf : w.frozen? z = false) :
    Calls Tryz.prog 146 #[.pointer (some z), .int .u64 b, .int .u64 x, .int .u64 y] w fun e w' => ∃ r : Nat, e = .returned (.tuple #[]) ∧ r < 18446744073709551616 ∧ Hid (b = 0 ∧ (r : Int) = x ∨ b = 1 ∧ (r : Int) = y) ∧ w' = w.setCell z (.int .u64 r) := by
  obtain ⟨b, rfl⟩ := Int.eq_ofNat_of_zero_le hb.1
  obtain ⟨x, rfl⟩ := Int.eq_ofNat_of_zero_le hx.1
  obtain ⟨y, rfl⟩ := Int.eq_ofNat_of_zero_le hy.1
  refine (cmov64_any z b x y (by omega) (by omega) (by omega) w v hc hf).mono fun e w' ⟨h1, h2⟩ => ⟨sel b x y, h1, by unfold sel; split <;> omega, ?_, h2⟩
  show _ ∨ _
  unfold sel
  split <;> omega
theorem cmov128_int (z : Addr) (b x y : Int) (hb : 0 ≤ b ∧ b ≤ 1) (hx : 0 ≤ x ∧ x < 18446744073709551616) (hy : 0 ≤ y ∧ y < 18446744073709551616) (w : World) (v : Value) (hc : w.cell? z = some v) (hf : w.frozen? z = false) :
    Calls Tryz.prog 153 #[.pointer (some z), .int .u64 b, .int .u64 x, .int .u64 y] w fun e w' => ∃ r : Nat, e = .returned (.tuple #[]) ∧ r < 18446744073709551616 ∧ Hid (b = 0 ∧ (r : Int) = x ∨ b = 1 ∧ (r : Int) = y) ∧ w' = w.setCell z (.int .u64 r) := by
  obtain ⟨b, rfl⟩ := Int.eq_ofNat_of_zero_le hb.1
  obtain ⟨x, rfl⟩ := Int.eq_ofNat_of_zero_le hx.1
  obtain ⟨y, rfl⟩ := Int.eq_ofNat_of_zero_le hy.1
  refine (cmov128_any z b x y (by omega) (by omega) (by omega) w v hc hf).mono fun e w' ⟨h1, h2⟩ => ⟨sel b x y, h1, by unfold sel; split <;> omega, ?_, h2⟩
  show _ ∨ _
  unfold sel
  split <;> omega
end Go.Proofs.YtlmmdldjfpdcfaaGreatDoor
namespace Go.Proofs.YtlmmdldjfpdcfaaGreatDoor
open Go.RowKit

/-- The table math/bits.deBruijn64tab holds some bytes. -/
def TabOk (w : World) : Prop := ∀ j, j < 64 → ∃ m : Int, 0 ≤ m ∧ m < 256 ∧ w.cell? ⟨22, j, none⟩ = some (.int .u8 m)

theorem TabOk.below {w w' : World} {B : Nat} (h : TabOk w) (hb : Below B w w') (hB : 22 < B) : TabOk w' := fun j hj =>
  let ⟨m, h0, h1, hc⟩ := h j hj
  ⟨m, h0, h1, (hb.cell (p := ⟨22, j, none⟩) hB).trans hc⟩

set_option maxRecDepth 100000 in
set_option maxHeartbeats 400000 in
theorem tz_any (n : Nat) (hn : n < 65536) (h0 : 0 < n) (w : World) (hT : TabOk w) :
    Calls Tryz.prog 229 #[.int .u64 n] w fun e w' => ∃ k : Int, e = .returned (.int .i64 k) ∧ 0 ≤ k ∧ k < 256 ∧ w = w' := by
  obtain ⟨I, hI⟩ : ∃ I, I = (IntKind.u64.wrap (bits BinOp.and IntKind.u64 (↑n) (IntKind.u64.wrap (-↑n)) * 285870213051353865) / 288230376151711744) := ⟨_, rfl⟩
  have hb : 0 ≤ (IntKind.u64.wrap (bits BinOp.and IntKind.u64 (↑n) (IntKind.u64.wrap (-↑n)) * 285870213051353865) / 288230376151711744) ∧ (IntKind.u64.wrap (bits BinOp.and IntKind.u64 (↑n) (IntKind.u64.wrap (-↑n)) * 285870213051353865) / 288230376151711744) < 64 := by
    rw [IntKind.wrap_u64]; omega
  obtain ⟨m, hm0, hm1, hc⟩ := hT (IntKind.u64.wrap (bits BinOp.and IntKind.u64 (↑n) (IntKind.u64.wrap (-↑n)) * 285870213051353865) / 288230376151711744).toNat (by omega)
  clear hI I hT
  have hz : ((n : Int) == 0) = false := by simp; omega
  go_enter Tryz.func229, Tryz.ntmps229
  go_wp2
  go_ret
  exact ⟨m, rfl, hm0, hm1, rfl⟩

/-- How many bits of a number are one, by the steps of math/bits.OnesCount64. -/
def popI (n : Int) : Int :=
  let a := IntKind.u64.wrap (bits .and .u64 (n / 2) 6148914691236517205 + bits .and .u64 n 6148914691236517205)
  let b := IntKind.u64.wrap (bits .and .u64 (a / 4) 3689348814741910323 + bits .and .u64 a 3689348814741910323)
  let c := bits .and .u64 (IntKind.u64.wrap (b / 16 + b)) 1085102592571150095
  let d := IntKind.u64.wrap (c + c / 256)
  let e := IntKind.u64.wrap (d + d / 65536)
  let f := IntKind.u64.wrap (e + e / 4294967296)
  bits .and .i64 (wrap64 f) 127

set_option maxRecDepth 100000 in
set_option maxHeartbeats 400000 in
theorem ones_any (n : Nat) (w : World) :
    Calls Tryz.prog 228 #[.int .u64 n] w fun e w' => e = .returned (.int .i64 (popI n)) ∧ w = w' := by
  go_enter Tryz.func228, Tryz.ntmps228
  go_wp2
  go_ret
  exact ⟨rfl, rfl⟩

/-- The least power of two that is at least n (n from 1 to 1100). -/
def pw (n : Nat) : Nat := if n ≤ 1 then 1 else 2 ^ (Nat.log2 (n - 1) + 1)

def pwChk (n : Nat) : Bool := if popI n == 1 then pw n == n else (pw n == 2 ^ Lib.bitLen n && Nat.ble (Lib.bitLen n) 11)
theorem pw_table : (List.range 1100).all (fun n => n == 0 || pwChk n) = true := by kernel_rfl
theorem pw_chk (n : Nat) (h0 : 1 ≤ n) (h : n < 1100) : pwChk n = true := by
  have := List.all_eq_true.1 pw_table n (List.mem_range.2 h)
  simpa [show n ≠ 0 by omega] using this

theorem pw_uniq_table : (List.range 1100).all (fun n => (List.range 13).all fun l => n == 0 || Nat.blt (2 ^ l) n || Nat.ble (2 * n) (2 ^ l) || pw n == 2 ^ l) = true := by kernel_rfl
theorem pw_uniq (n l : Nat) (h0 : 1 ≤ n) (h : n < 1100) (hl : l < 13) (h1 : n ≤ 2 ^ l) (h2 : 2 ^ l < 2 * n) : pw n = 2 ^ l := by
  have := List.all_eq_true.1 (List.all_eq_true.1 pw_uniq_table n (List.mem_range.2 h)) l (List.mem_range.2 hl)
  have e1 : Nat.blt (2 ^ l) n = false := by rw [Bool.eq_false_iff]; intro hh; have := Nat.le_of_ble_eq_true hh; omega
  have e2 : Nat.ble (2 * n) (2 ^ l) = false := by rw [Bool.eq_false_iff]; intro hh; have := Nat.le_of_ble_eq_true hh; omega
  simpa [show n ≠ 0 by omega, e1, e2] using this

theorem pw_bounds_table : (List.range 1100).all (fun n => Nat.ble 1 (pw n) && Nat.ble (pw n) 2048) = true := by kernel_rfl
theorem pw_bounds (n : Nat) (h : n < 1100) : 1 ≤ pw n ∧ pw n ≤ 2048 := by
  have := List.all_eq_true.1 pw_bounds_table n (List.mem_range.2 h)
  simpa using this

set_option maxRecDepth 100000 in
set_option maxHeartbeats 400000 in
theorem next_any (n : Nat) (h0 : 1 ≤ n) (h : n < 1100) (w : World) (hT : TabOk w) :
    Calls Tryz.prog 227 #[.int .u64 n] w fun e w' => ∃ k : Int, e = .returned (.tuple #[.int .u64 (pw n : Nat), .int .u64 k]) ∧ w = w' := by
  have hc := pw_chk n h0 h
  unfold pwChk at hc
  by_cases hp : popI n = 1
  · have hp' : (popI n == 1) = true := by simp [hp]
    rw [if_pos hp'] at hc
    have HC := Lib.hid (beq_iff_eq.1 hc)
    clear hc hp
    have HT := Lib.hid hT
    clear hT
    go_enter Tryz.func227, Tryz.ntmps227
    go_wp2_with (first | (go_at_call 228; refine (ones_any n _).mono ?_; rintro e w' ⟨rfl, rfl⟩) | (go_at_call 229; refine (tz_any n (by omega) (by omega) _ HT.out).mono ?_; rintro e w' ⟨k, rfl, hk0, hk1, rfl⟩))
    go_ret2
    exact ⟨k, by rw [HC.out]; rfl, rfl⟩
  · have hp' : (popI n == 1) = false := by simp [hp]
    rw [if_neg (by simp [hp'])] at hc
    clear hp
    simp only [Bool.and_eq_true, beq_iff_eq, Nat.ble_eq] at hc
    obtain ⟨hc1, hc2⟩ := hc
    have HC := Lib.hid hc1
    clear hc1 hT
    go_enter Tryz.func227, Tryz.ntmps227
    go_wp2_with (first | (go_at_call 228; refine (ones_any n _).mono ?_; rintro e w' ⟨rfl, rfl⟩) | (go_at_call 230; refine (Tryz.bits_Len n _ (by omega) (by omega)).mono ?_; rintro e w' ⟨rfl, rfl⟩))
    go_ret2
    have e : IntKind.u64.wrap ((2 : Int) ^ Lib.bitLen n) = ((pw n : Nat) : Int) := by
      have hk : 2 ^ Lib.bitLen n ≤ 2 ^ 11 := Nat.pow_le_pow_right (by omega) hc2
      rw [HC.out, IntKind.wrap_u64, Int.natCast_pow]
      have : ((2 ^ Lib.bitLen n : Nat) : Int) = (2 : Int) ^ Lib.bitLen n := by rw [Int.natCast_pow]; rfl
      show (2 : Int) ^ Lib.bitLen n % 18446744073709551616 = (2 : Int) ^ Lib.bitLen n
      rw [← this]
      clear this HC
      generalize 2 ^ Lib.bitLen n = q at *
      omega
    exact ⟨_, by rw [← e]; rfl, rfl⟩
end Go.Proofs.YtlmmdldjfpdcfaaGreatDoor
namespace Go.Proofs.YtlmmdldjfpdcfaaGreatDoor
open Go.RowKit

theorem partAt_here {P : Program} {w : World} {b o : Nat} {cs : Array Value} {t : TypeId} {fr : Nat × Nat} {B : Nat} (hb : w.heap[b]? = some (.cells cs t fr)) (hs : P.cellsOf t ≠ 0)
    (hB : byteOfCell P P.depth t (o % P.cellsOf t) = some B) : (partAt ⟨b, o, none⟩ 0 0).run P w = .ok ⟨b, o, none⟩ w := by
  have hsh : w.shape? b = some (t, cs.size) := by simp [World.shape?, hb]
  have hby : (byteOf ⟨b, o, none⟩).run P w = .ok (o / P.cellsOf t * P.bytesOf t + B) w := by
    unfold byteOf
    have hnv : (noView ⟨b, o, none⟩).run P w = .ok () w := by
      unfold noView viewAt
      simp [go_sem, hsh]
    simp [go_sem, hnv, hsh, hs, hB]
  unfold partAt
  simp [Sem.run_bind, hby]
end Go.Proofs.YtlmmdldjfpdcfaaGreatDoor
namespace Go.Proofs.YtlmmdldjfpdcfaaGreatDoor
open Go.RowKit

/-- The four lengths as they lie in memory: of a measurement, of joint random numbers, of what is checked, of an output. -/
abbrev par4 (m j e o : Nat) : Array Value := #[.int .u64 m, .int .u64 j, .int .u64 e, .int .u64 o]

theorem par_eval (m j c o : Nat) (w : World) : Calls Tryz.prog 216 #[.agg (par4 m j c o)] w fun e w' => e = .returned (.int .u64 c) ∧ Below w.heap.size w w' := by
  go_enter Tryz.func216, Tryz.ntmps216
  go_wp2
  go_ret
  exact ⟨rfl, (Below.refl _ _).alloc (Nat.le_refl _) _⟩
theorem par_joint (m j c o : Nat) (w : World) : Calls Tryz.prog 217 #[.agg (par4 m j c o)] w fun e w' => e = .returned (.int .u64 j) ∧ Below w.heap.size w w' := by
  go_enter Tryz.func217, Tryz.ntmps217
  go_wp2
  go_ret
  exact ⟨rfl, (Below.refl _ _).alloc (Nat.le_refl _) _⟩
theorem par_meas (m j c o : Nat) (w : World) : Calls Tryz.prog 218 #[.agg (par4 m j c o)] w fun e w' => e = .returned (.int .u64 m) ∧ Below w.heap.size w w' := by
  go_enter Tryz.func218, Tryz.ntmps218
  go_wp2
  go_ret
  exact ⟨rfl, (Below.refl _ _).alloc (Nat.le_refl _) _⟩
theorem par_out (m j c o : Nat) (w : World) : Calls Tryz.prog 219 #[.agg (par4 m j c o)] w fun e w' => e = .returned (.int .u64 o) ∧ Below w.heap.size w w' := by
  go_enter Tryz.func219, Tryz.ntmps219
  go_wp2
  go_ret
  exact ⟨rfl, (Below.refl _ _).alloc (Nat.le_refl _) _⟩
theorem par_query (m j c o : Nat) (hc : c < 65536) (w : World) : Calls Tryz.prog 222 #[.agg (par4 m j c o)] w fun e w' => e = .returned (.int .u64 (1 + c : Nat)) ∧ Below w.heap.size w w' := by
  go_enter Tryz.func222, Tryz.ntmps222
  go_wp2
  go_ret
  exact ⟨by simp, (Below.refl _ _).alloc (Nat.le_refl _) _⟩


theorem byte191 : byteOfCell Tryz.prog Tryz.prog.depth 191 (1 % Tryz.prog.cellsOf 191) = some 8 := by kernel_rfl
theorem cells191 : Tryz.prog.cellsOf 191 ≠ 0 := by rw [show Tryz.prog.cellsOf 191 = 6 from by kernel_rfl]; decide

set_option maxRecDepth 100000 in
set_option maxHeartbeats 400000 in
/-- The gadget's polynomial of kind 1: how long it is. -/
theorem polyLen1 (b calls : Nat) (hcl : calls < 1099) (w : World) (cs : Array Value) (hb : w.heap[b]? = some (.cells cs 191 (0, 0))) (hc : w.cell? ⟨b, 1, none⟩ = some (.int .u64 calls)) (hT : TabOk w) :
    Calls Tryz.prog 225 #[.pointer (some ⟨b, 1, none⟩)] w fun e w' => e = .returned (.int .u64 (1 + 2 * (pw (1 + calls) - 1) : Nat)) ∧ Below w.heap.size w w' := by
  have HT := Lib.hid hT
  have hpa := partAt_here hb cells191 byte191
  obtain ⟨hp1, hp2⟩ := pw_bounds (1 + calls) (by omega)
  clear hT hb
  go_enter Tryz.func225, Tryz.ntmps225
  go_wp2_with (first | (go_at_call 227; refine (next_any (1 + calls) (by omega) (by omega) _ HT.out).mono ?_; rintro e w' ⟨k, rfl, rfl⟩) | (go_at_call 254; go_in))
  go_ret
  refine ⟨?_, (Below.refl _ _).alloc (Nat.le_refl _) _⟩
  show Ending.returned (.int .u64 (1 + 2 * ((pw (1 + calls) : Nat) - 1))) = _
  congr 2
  omega

set_option maxRecDepth 100000 in
set_option maxHeartbeats 400000 in
theorem proveRand1 (b : Nat) (w : World) (cs : Array Value) (hb : w.heap[b]? = some (.cells cs 191 (0, 0))) :
    Calls Tryz.prog 221 #[.pointer (some ⟨b, 1, none⟩)] w fun e w' => e = .returned (.int .u64 2) ∧ Below w.heap.size w w' := by
  have hpa := partAt_here hb cells191 byte191
  clear hb
  go_enter Tryz.func221, Tryz.ntmps221
  go_wp2_with (first | (go_at_call 253; go_in))
  go_ret
  exact ⟨rfl, (Below.refl _ _).alloc (Nat.le_refl _) _⟩

set_option maxRecDepth 100000 in
set_option maxHeartbeats 400000 in
theorem verifierLen1 (b : Nat) (w : World) (cs : Array Value) (hb : w.heap[b]? = some (.cells cs 191 (0, 0))) :
    Calls Tryz.prog 223 #[.pointer (some ⟨b, 1, none⟩)] w fun e w' => e = .returned (.int .u64 4) ∧ Below w.heap.size w w' := by
  have hpa := partAt_here hb cells191 byte191
  clear hb
  go_enter Tryz.func223, Tryz.ntmps223
  go_wp2_with (first | (go_at_call 253; go_in))
  go_ret
  exact ⟨rfl, (Below.refl _ _).alloc (Nat.le_refl _) _⟩

set_option maxRecDepth 100000 in
set_option maxHeartbeats 400000 in
theorem proofLen1 (b calls : Nat) (hcl : calls < 1099) (w : World) (cs : Array Value) (hb : w.heap[b]? = some (.cells cs 191 (0, 0))) (hc : w.cell? ⟨b, 1, none⟩ = some (.int .u64 calls)) (hT : TabOk w) (h22 : 22 < w.heap.size) :
    Calls Tryz.prog 220 #[.pointer (some ⟨b, 1, none⟩)] w fun e w' => e = .returned (.int .u64 (2 + (1 + 2 * (pw (1 + calls) - 1)) : Nat)) ∧ Below w.heap.size w w' := by
  have HT := Lib.hid (hT.below ((Below.refl _ _).alloc (Nat.le_refl _) (.cells #[] 181)) h22)
  have hpa := partAt_here hb cells191 byte191
  have HB := Lib.hid hb
  obtain ⟨hp1, hp2⟩ := pw_bounds (1 + calls) (by omega)
  have hbs : b < w.heap.size := block_lt_of_cell hc
  clear hT hb
  go_enter Tryz.func220, Tryz.ntmps220
  go_wp2_with (first | (go_at_call 253; go_in) | (go_at_call 225; refine (polyLen1 b calls hcl _ cs (by rw [Below.heap_alloc _ _ _ hbs]; exact HB.out) (by go_simp) HT.out).mono ?_; rintro e w' ⟨rfl, hw⟩))
  go_ret
  refine ⟨?_, ((Below.refl _ _).alloc (Nat.le_refl _) _).trans (hw.mono (by simp))⟩
  show Ending.returned (.int .u64 (2 + ((1 + 2 * (pw (1 + calls) - 1) : Nat) : Int))) = _
  congr 2

theorem byte203 : byteOfCell Tryz.prog Tryz.prog.depth 203 (1 % Tryz.prog.cellsOf 203) = some 8 := by kernel_rfl
theorem cells203 : Tryz.prog.cellsOf 203 ≠ 0 := by rw [show Tryz.prog.cellsOf 203 = 9 from by kernel_rfl]; decide

set_option maxRecDepth 100000 in
set_option maxHeartbeats 400000 in
/-- The gadget's polynomial of kind 2: how long it is. -/
theorem polyLen2 (b calls : Nat) (hcl : calls < 1099) (w : World) (cs : Array Value) (hb : w.heap[b]? = some (.cells cs 203 (0, 0))) (hc : w.cell? ⟨b, 1, none⟩ = some (.int .u64 calls)) (hT : TabOk w) :
    Calls Tryz.prog 242 #[.pointer (some ⟨b, 1, none⟩)] w fun e w' => e = .returned (.int .u64 (1 + 2 * (pw (1 + calls) - 1) : Nat)) ∧ Below w.heap.size w w' := by
  have HT := Lib.hid hT
  have hpa := partAt_here hb cells203 byte203
  obtain ⟨hp1, hp2⟩ := pw_bounds (1 + calls) (by omega)
  clear hT hb
  go_enter Tryz.func242, Tryz.ntmps242
  go_wp2_with (first | (go_at_call 227; refine (next_any (1 + calls) (by omega) (by omega) _ HT.out).mono ?_; rintro e w' ⟨k, rfl, rfl⟩) | (go_at_call 261; go_in))
  go_ret
  refine ⟨?_, (Below.refl _ _).alloc (Nat.le_refl _) _⟩
  show Ending.returned (.int .u64 (1 + 2 * ((pw (1 + calls) : Nat) - 1))) = _
  congr 2
  omega

set_option maxRecDepth 100000 in
set_option maxHeartbeats 400000 in
theorem proveRand2 (b : Nat) (w : World) (cs : Array Value) (hb : w.heap[b]? = some (.cells cs 203 (0, 0))) :
    Calls Tryz.prog 240 #[.pointer (some ⟨b, 1, none⟩)] w fun e w' => e = .returned (.int .u64 1) ∧ Below w.heap.size w w' := by
  have hpa := partAt_here hb cells203 byte203
  clear hb
  go_enter Tryz.func240, Tryz.ntmps240
  go_wp2_with (first | (go_at_call 260; go_in))
  go_ret
  exact ⟨rfl, (Below.refl _ _).alloc (Nat.le_refl _) _⟩

set_option maxRecDepth 100000 in
set_option maxHeartbeats 400000 in
theorem verifierLen2 (b : Nat) (w : World) (cs : Array Value) (hb : w.heap[b]? = some (.cells cs 203 (0, 0))) :
    Calls Tryz.prog 241 #[.pointer (some ⟨b, 1, none⟩)] w fun e w' => e = .returned (.int .u64 3) ∧ Below w.heap.size w w' := by
  have hpa := partAt_here hb cells203 byte203
  clear hb
  go_enter Tryz.func241, Tryz.ntmps241
  go_wp2_with (first | (go_at_call 260; go_in))
  go_ret
  exact ⟨rfl, (Below.refl _ _).alloc (Nat.le_refl _) _⟩

set_option maxRecDepth 100000 in
set_option maxHeartbeats 400000 in
theorem proofLen2 (b calls : Nat) (hcl : calls < 1099) (w : World) (cs : Array Value) (hb : w.heap[b]? = some (.cells cs 203 (0, 0))) (hc : w.cell? ⟨b, 1, none⟩ = some (.int .u64 calls)) (hT : TabOk w) (h22 : 22 < w.heap.size) :
    Calls Tryz.prog 239 #[.pointer (some ⟨b, 1, none⟩)] w fun e w' => e = .returned (.int .u64 (1 + (1 + 2 * (pw (1 + calls) - 1)) : Nat)) ∧ Below w.heap.size w w' := by
  have HT := Lib.hid (hT.below ((Below.refl _ _).alloc (Nat.le_refl _) (.cells #[] 197)) h22)
  have hpa := partAt_here hb cells203 byte203
  have HB := Lib.hid hb
  obtain ⟨hp1, hp2⟩ := pw_bounds (1 + calls) (by omega)
  have hbs : b < w.heap.size := block_lt_of_cell hc
  clear hT hb
  go_enter Tryz.func239, Tryz.ntmps239
  go_wp2_with (first | (go_at_call 260; go_in) | (go_at_call 242; refine (polyLen2 b calls hcl _ cs (by rw [Below.heap_alloc _ _ _ hbs]; exact HB.out) (by go_simp) HT.out).mono ?_; rintro e w' ⟨rfl, hw⟩))
  go_ret
  refine ⟨?_, ((Below.refl _ _).alloc (Nat.le_refl _) _).trans (hw.mono (by simp))⟩
  show Ending.returned (.int .u64 (1 + ((1 + 2 * (pw (1 + calls) - 1) : Nat) : Int))) = _
  congr 2
end Go.Proofs.YtlmmdldjfpdcfaaGreatDoor
