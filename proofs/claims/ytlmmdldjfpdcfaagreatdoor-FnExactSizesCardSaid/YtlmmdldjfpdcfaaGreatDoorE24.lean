/- New of the package of kind 4, where there is no such machine. The circuit of kind 5 is not made of nothing. New of the package of kind 5, where there is no such machine. The machine of large numbers, or nothing. The lengths of a machine, as ten numbers. -/
import Derived.Test.YtlmmdldjfpdcfaaGreatDoorE21
import Derived.Test.YtlmmdldjfpdcfaaGreatDoorE03
import Derived.Test.YtlmmdldjfpdcfaaGreatDoorE07
import Derived.BigQuiet
import Derived.Test.YtlmmdldjfpdcfaaGreatDoorE08
import Derived.Test.YtlmmdldjfpdcfaaGreatDoorE23
import Derived.Test.YtlmmdldjfpdcfaaGreatDoorE22
import Derived.Test.YtlmmdldjfpdcfaaGreatDoorE10
import Derived.Test.YtlmmdldjfpdcfaaGreatDoorE20
import Derived.Test.YtlmmdldjfpdcfaaGreatDoorE14
import Derived.Test.YtlmmdldjfpdcfaaGreatDoorE16
import Derived.Test.YtlmmdldjfpdcfaaGreatDoorE17
import Derived.Test.YtlmmdldjfpdcfaaGreatDoorE19
namespace Go.Proofs.YtlmmdldjfpdcfaaGreatDoor
open Go.RowKit

set_option maxRecDepth 100000 in
set_option maxHeartbeats 1000000 in
theorem pkg4_few (s : Nat) (len q : Nat) (ctx : Value) (hs : s < 2) (hl0 : 0 < len) (hl : len < 65536) (hq : 0 < q) (hq2 : q < 65536) (W : World) (t2 : TypeId) (v2 : Value) (g2 : W.cell? ⟨2, 0, none⟩ = some (.iface t2 v2)) :
    Calls Tryz.prog 42 #[.int .u8 s, .int .u64 len, .int .u64 q, ctx] W fun e w' => (∃ t v, e = .returned (.tuple #[.pointer none, .iface t v])) ∧ Below W.heap.size W w' := by
  have u1 : ((len : Int) == 0) = false := by simp; omega
  have u2 : ((q : Int) == 0) = false := by simp; omega
  go_enter Tryz.func42, Tryz.ntmps42
  go_wp2_with (first | (refine new_big 159 205 zok159 rfl rfl ?_; intro w1 hw1; have hB := Blk.new zok159 W; rw [← hw1] at hB; clear hw1) | (go_at_call 70; go_loud (refine (flp4 _ len q hl hq hq2).mono ?_; rintro e w2 ⟨rfl, hw2⟩; have hlow : Below w1.heap.size w1 w2 := (by rw [hw2]; exact (Below.refl _ _).alloc (Nat.le_refl _) _); have hB := hB.below hlow; clear hw2)) | (go_at_call 69; go_loud (refine (new4_bad _ ctx 4 s hs _ t2 v2 ((hB.low.cell (World.block_lt_of_cell? W _ g2)).trans g2)).mono ?_; rintro e w3 ⟨⟨cs, t, v, hc1, hc2, rfl⟩, hb3⟩; have hB := hB.below hb3)) | (refine store_part 157 _ _ hB cs rfl rfl rfl rfl size157 hc1 (by omega) hc2 ?_; intro w4 hw4; go_loud (have hB := hB.setCells cs.toList 0 _ (fun v hv => Array.all_eq_true_iff_forall_mem.1 hc2 v (by simpa using hv)); rw [← hw4] at hB; clear hw4)))
  exact bodyPost_ret (results_tmp2 rfl _ _ _) rfl ⟨⟨_, _, rfl⟩, hB.low⟩

set_option maxRecDepth 100000 in
set_option maxHeartbeats 1000000 in
theorem pkg4_nothing (s : Nat) (len q : Nat) (ctx : Value) (h : len = 0 ∨ q = 0) (W : World) (t0 t1 : TypeId) (v0 v1 : Value) (g0 : W.cell? ⟨0, 0, none⟩ = some (.iface t0 v0)) (g1 : W.cell? ⟨1, 0, none⟩ = some (.iface t1 v1)) :
    Calls Tryz.prog 42 #[.int .u8 s, .int .u64 len, .int .u64 q, ctx] W fun e w' => (∃ t v, e = .returned (.tuple #[.pointer none, .iface t v])) ∧ Below W.heap.size W w' := by
  by_cases h1 : len = 0
  · have u1 : ((len : Int) == 0) = true := by simp; omega
    clear h h1
    go_enter Tryz.func42, Tryz.ntmps42
    go_wp2
    go_quiet (fail)
    go_wp2
    exact bodyPost_ret (results_tmp2 rfl _ _ _) rfl ⟨⟨_, _, rfl⟩, ⟨rfl, rfl, rfl, Nat.le_refl _, fun _ _ => rfl⟩⟩
  have u1 : ((len : Int) == 0) = false := by simp; omega
  have u2 : ((q : Int) == 0) = true := by simp; omega
  clear h h1
  go_enter Tryz.func42, Tryz.ntmps42
  go_wp2
  go_quiet (fail)
  go_wp2
  exact bodyPost_ret (results_tmp2 rfl _ _ _) rfl ⟨⟨_, _, rfl⟩, ⟨rfl, rfl, rfl, Nat.le_refl _, fun _ _ => rfl⟩⟩
end Go.Proofs.YtlmmdldjfpdcfaaGreatDoor
namespace Go.Proofs.YtlmmdldjfpdcfaaGreatDoor
open Go.RowKit

set_option maxRecDepth 100000 in
set_option maxHeartbeats 1000000 in
theorem flp5_bad (w : World) (n x q : Nat) (h : n = 0 ∨ n < x ∨ q = 0) (t5 t6 t7 : TypeId) (v5 v6 v7 : Value) (g5 : w.cell? ⟨8, 0, none⟩ = some (.iface t5 v5)) (g6 : w.cell? ⟨9, 0, none⟩ = some (.iface t6 v6)) (g7 : w.cell? ⟨10, 0, none⟩ = some (.iface t7 v7)) :
    Calls Tryz.prog 73 #[.int .u64 n, .int .u64 x, .int .u64 q] w fun e w' => (∃ t v, e = .returned (.tuple #[.pointer none, .iface t v])) ∧ Below w.heap.size w w' := by
  by_cases h1 : n = 0
  · subst h1
    clear h
    go_enter Tryz.func73, Tryz.ntmps73
    go_wp2
    go_quiet (fail)
    go_wp2
    exact bodyPost_ret (results_tmp2 rfl _ _ _) rfl ⟨⟨_, _, rfl⟩, below_drewN (Below.refl _ _) _⟩
  have t1 : ((n : Int) == 0) = false := by simp; omega
  by_cases h2 : n < x
  · have t2 : decide ((n : Int) < (x : Int)) = true := by simp; omega
    clear h h1
    go_enter Tryz.func73, Tryz.ntmps73
    go_wp2
    go_quiet (fail)
    go_wp2
    exact bodyPost_ret (results_tmp2 rfl _ _ _) rfl ⟨⟨_, _, rfl⟩, below_drewN (Below.refl _ _) _⟩
  have t2 : decide ((n : Int) < (x : Int)) = false := by simp; omega
  have h2' : x ≤ n := by omega
  have t4 : ((q : Int) == 0) = true := by simp; omega
  clear h h1 h2
  go_enter Tryz.func73, Tryz.ntmps73
  go_wp2
  go_quiet (fail)
  go_wp2
  exact bodyPost_ret (results_tmp2 rfl _ _ _) rfl ⟨⟨_, _, rfl⟩, below_drewN (Below.refl _ _) _⟩
end Go.Proofs.YtlmmdldjfpdcfaaGreatDoor
namespace Go.Proofs.YtlmmdldjfpdcfaaGreatDoor
open Go.RowKit

set_option maxRecDepth 100000 in
set_option maxHeartbeats 1000000 in
theorem pkg5_few (s : Nat) (len x q : Nat) (ctx : Value) (hs : s < 2) (hl0 : 0 < len) (hl : len ≤ 16) (hx : x ≤ len) (hq : 0 < q) (hq2 : q < 65536) (W : World) (t2 : TypeId) (v2 : Value) (g2 : W.cell? ⟨2, 0, none⟩ = some (.iface t2 v2)) :
    Calls Tryz.prog 45 #[.int .u8 s, .int .u64 len, .int .u64 x, .int .u64 q, ctx] W fun e w' => (∃ t v, e = .returned (.tuple #[.pointer none, .iface t v])) ∧ Below W.heap.size W w' := by
  go_enter Tryz.func45, Tryz.ntmps45
  go_wp2_with (first | (go_at_call 73; go_loud (refine (flp5_ok _ len x q hl0 hl hx hq hq2).mono ?_; rintro e w2 ⟨bf, _, rfl, _, hlow⟩)) | (refine new_big 169 205 zok169 rfl rfl ?_; intro w1 hw1; have hB := Blk.new zok169 w2; rw [← hw1] at hB; clear hw1) | (go_at_call 74; go_loud (refine (new5_bad _ ctx 5 s hs _ t2 v2 ((hB.low.cell (Nat.lt_of_lt_of_le (World.block_lt_of_cell? W _ g2) hlow.size)).trans ((hlow.cell (World.block_lt_of_cell? W _ g2)).trans g2))).mono ?_; rintro e w3 ⟨⟨cs, t, v, hc1, hc2, rfl⟩, hb3⟩; have hB := hB.below hb3)) | (refine store_part 167 _ _ hB cs rfl rfl rfl rfl size167 hc1 (by omega) hc2 ?_; intro w4 hw4; go_loud (have hB := hB.setCells cs.toList 0 _ (fun v hv => Array.all_eq_true_iff_forall_mem.1 hc2 v (by simpa using hv)); rw [← hw4] at hB; clear hw4)))
  exact bodyPost_ret (results_tmp2 rfl _ _ _) rfl ⟨⟨_, _, rfl⟩, hlow.trans (hB.low.mono hlow.size)⟩

set_option maxRecDepth 100000 in
set_option maxHeartbeats 1000000 in
theorem pkg5_flp (s : Nat) (len x q : Nat) (ctx : Value) (h : len = 0 ∨ len < x ∨ q = 0) (W : World) (t8 : TypeId) (v8 : Value) (g8 : W.cell? ⟨8, 0, none⟩ = some (.iface t8 v8)) (t9 : TypeId) (v9 : Value) (g9 : W.cell? ⟨9, 0, none⟩ = some (.iface t9 v9)) (t10 : TypeId) (v10 : Value) (g10 : W.cell? ⟨10, 0, none⟩ = some (.iface t10 v10)) :
    Calls Tryz.prog 45 #[.int .u8 s, .int .u64 len, .int .u64 x, .int .u64 q, ctx] W fun e w' => (∃ t v, e = .returned (.tuple #[.pointer none, .iface t v])) ∧ Below W.heap.size W w' := by
  have hfl := flp5_bad W len x q h _ _ _ _ _ _ g8 g9 g10
  have HF := Lib.hid hfl
  clear hfl h
  go_enter Tryz.func45, Tryz.ntmps45
  go_wp2_with (go_at_call 73; go_loud (refine HF.out.mono ?_; rintro e w2 ⟨⟨t, v, rfl⟩, hlow⟩))
  exact bodyPost_ret (results_tmp2 rfl _ _ _) rfl ⟨⟨_, _, rfl⟩, hlow⟩
end Go.Proofs.YtlmmdldjfpdcfaaGreatDoor
namespace Go.Proofs.YtlmmdldjfpdcfaaGreatDoor
open Go.RowKit

set_option maxRecDepth 100000 in
set_option maxHeartbeats 1000000 in
theorem large3_ok (s len b q x n : Nat) (ctx : Value) (hn : n ≤ 4096) (hs : 2 ≤ s) (hs2 : s ≤ 255) (hl0 : 0 < len) (hl : len < 1024) (hb0 : 0 < b) (hb : b ≤ 64) (hq : 0 < q) (hq2 : q < 65536) (W : World) (hctx : CtxAt W ctx n) :
    Calls Tryz.prog 16 #[kindV 3 s len b q x ctx] W fun e w' => ∃ b1, e = .returned (.iface 78 (.pointer (some ⟨b1, 0, none⟩))) ∧ IsMach 147 215 b1 (64 * s) s (fun fs => ∃ y, fs = fs3 y len b q) w' ∧ Below W.heap.size W w' := by
  have HC := Lib.hid hctx
  clear hctx
  go_enter Tryz.func16, Tryz.ntmps16
  go_wp2_with (go_at_call 37; go_loud (refine (pkg3_ok s n len b q ctx hn hs hs2 hl0 hl hb0 hb hq hq2 _ (ctx_alloc HC.out _)).mono ?_; rintro e w1 ⟨b1, rfl, hM, hb⟩))
  exact bodyPost_ret (results_tmp rfl _ _ _) rfl ⟨b1, rfl, hM, ((Below.refl _ _).alloc (Nat.le_refl _) _).trans (hb.mono (by simp))⟩

set_option maxRecDepth 100000 in
set_option maxHeartbeats 1000000 in
theorem large3_few (s len b q x : Nat) (ctx : Value) (hs : s < 2) (hl0 : 0 < len) (hl : len < 1024) (hb0 : 0 < b) (hb : b ≤ 64) (hq : 0 < q) (hq2 : q < 65536) (W : World) (t2 : TypeId) (v2 : Value) (g2 : W.cell? ⟨2, 0, none⟩ = some (.iface t2 v2)) :
    Calls Tryz.prog 16 #[kindV 3 s len b q x ctx] W fun e w' => e = .returned .nilIface ∧ Below W.heap.size W w' := by
  have HN := fun o => pkg3_few s len b q ctx hs hl0 hl hb0 hb hq hq2 (W.alloc o) t2 v2 (g_alloc g2 o)
  go_enter Tryz.func16, Tryz.ntmps16
  go_wp2_with (go_at_call 37; go_loud (refine (HN _).mono ?_; rintro e w1 ⟨⟨t, v, rfl⟩, hb⟩))
  exact bodyPost_ret (results_tmp rfl _ _ _) rfl ⟨rfl, ((Below.refl _ _).alloc (Nat.le_refl _) _).trans (hb.mono (by simp))⟩

set_option maxRecDepth 100000 in
set_option maxHeartbeats 1000000 in
theorem large4_ok (s len b q x n : Nat) (ctx : Value) (hn : n ≤ 4096) (hs : 2 ≤ s) (hs2 : s ≤ 255) (hl0 : 0 < len) (hl : len < 65536) (hq : 0 < q) (hq2 : q < 65536) (W : World) (hctx : CtxAt W ctx n) :
    Calls Tryz.prog 16 #[kindV 4 s len b q x ctx] W fun e w' => ∃ b1, e = .returned (.iface 91 (.pointer (some ⟨b1, 0, none⟩))) ∧ IsMach 159 223 b1 (64 * s) s (fun fs => ∃ b, fs = fs4 b len q) w' ∧ Below W.heap.size W w' := by
  have HC := Lib.hid hctx
  clear hctx
  go_enter Tryz.func16, Tryz.ntmps16
  go_wp2_with (go_at_call 42; go_loud (refine (pkg4_ok s n len q ctx hn hs hs2 hl0 hl hq hq2 _ (ctx_alloc HC.out _)).mono ?_; rintro e w1 ⟨b1, rfl, hM, hb⟩))
  exact bodyPost_ret (results_tmp rfl _ _ _) rfl ⟨b1, rfl, hM, ((Below.refl _ _).alloc (Nat.le_refl _) _).trans (hb.mono (by simp))⟩

set_option maxRecDepth 100000 in
set_option maxHeartbeats 1000000 in
theorem large4_few (s len b q x : Nat) (ctx : Value) (hs : s < 2) (hl0 : 0 < len) (hl : len < 65536) (hq : 0 < q) (hq2 : q < 65536) (W : World) (t2 : TypeId) (v2 : Value) (g2 : W.cell? ⟨2, 0, none⟩ = some (.iface t2 v2)) :
    Calls Tryz.prog 16 #[kindV 4 s len b q x ctx] W fun e w' => e = .returned .nilIface ∧ Below W.heap.size W w' := by
  have HN := fun o => pkg4_few s len q ctx hs hl0 hl hq hq2 (W.alloc o) t2 v2 (g_alloc g2 o)
  go_enter Tryz.func16, Tryz.ntmps16
  go_wp2_with (go_at_call 42; go_loud (refine (HN _).mono ?_; rintro e w1 ⟨⟨t, v, rfl⟩, hb⟩))
  exact bodyPost_ret (results_tmp rfl _ _ _) rfl ⟨rfl, ((Below.refl _ _).alloc (Nat.le_refl _) _).trans (hb.mono (by simp))⟩

set_option maxRecDepth 100000 in
set_option maxHeartbeats 1000000 in
theorem large5_ok (s len b q x n : Nat) (ctx : Value) (hn : n ≤ 4096) (hs : 2 ≤ s) (hs2 : s ≤ 255) (hl0 : 0 < len) (hl : len ≤ 16) (hx : x ≤ len) (hq : 0 < q) (hq2 : q < 65536) (W : World) (hctx : CtxAt W ctx n) :
    Calls Tryz.prog 16 #[kindV 5 s len b q x ctx] W fun e w' => ∃ b1, e = .returned (.iface 94 (.pointer (some ⟨b1, 0, none⟩))) ∧ IsMach 169 228 b1 (64 * s) s (fun fs => ∃ b z0 z1, fs = fs5 b len q (Lib.bitLen x) z0 z1) w' ∧ Below W.heap.size W w' := by
  have HC := Lib.hid hctx
  clear hctx
  go_enter Tryz.func16, Tryz.ntmps16
  go_wp2_with (go_at_call 45; go_loud (refine (pkg5_ok s n len x q ctx hn hs hs2 hl0 hl hx hq hq2 _ (ctx_alloc HC.out _)).mono ?_; rintro e w1 ⟨b1, rfl, hM, hb⟩))
  exact bodyPost_ret (results_tmp rfl _ _ _) rfl ⟨b1, rfl, hM, ((Below.refl _ _).alloc (Nat.le_refl _) _).trans (hb.mono (by simp))⟩

set_option maxRecDepth 100000 in
set_option maxHeartbeats 1000000 in
theorem large5_few (s len b q x : Nat) (ctx : Value) (hs : s < 2) (hl0 : 0 < len) (hl : len ≤ 16) (hx : x ≤ len) (hq : 0 < q) (hq2 : q < 65536) (W : World) (t2 : TypeId) (v2 : Value) (g2 : W.cell? ⟨2, 0, none⟩ = some (.iface t2 v2)) :
    Calls Tryz.prog 16 #[kindV 5 s len b q x ctx] W fun e w' => e = .returned .nilIface ∧ Below W.heap.size W w' := by
  have HN := fun o => pkg5_few s len x q ctx hs hl0 hl hx hq hq2 (W.alloc o) t2 v2 (g_alloc g2 o)
  go_enter Tryz.func16, Tryz.ntmps16
  go_wp2_with (go_at_call 45; go_loud (refine (HN _).mono ?_; rintro e w1 ⟨⟨t, v, rfl⟩, hb⟩))
  exact bodyPost_ret (results_tmp rfl _ _ _) rfl ⟨rfl, ((Below.refl _ _).alloc (Nat.le_refl _) _).trans (hb.mono (by simp))⟩

set_option maxRecDepth 100000 in
set_option maxHeartbeats 1000000 in
theorem large3_flp (s len b q x : Nat) (ctx : Value) (hs : s ≤ 255) (hl : len < 65536) (hbb : b < 65536) (hq : q < 65536) (h : len = 0 ∨ b = 0 ∨ 64 < b ∨ q = 0) (W : World) (t5 : TypeId) (v5 : Value) (g5 : W.cell? ⟨5, 0, none⟩ = some (.iface t5 v5)) (t6 : TypeId) (v6 : Value) (g6 : W.cell? ⟨6, 0, none⟩ = some (.iface t6 v6)) (t7 : TypeId) (v7 : Value) (g7 : W.cell? ⟨7, 0, none⟩ = some (.iface t7 v7)) :
    Calls Tryz.prog 16 #[kindV 3 s len b q x ctx] W fun e w' => e = .returned .nilIface ∧ Below W.heap.size W w' := by
  have HN := fun o => pkg3_flp s len b q ctx h (W.alloc o) t5 v5 (g_alloc g5 o) t6 v6 (g_alloc g6 o) t7 v7 (g_alloc g7 o)
  go_enter Tryz.func16, Tryz.ntmps16
  go_wp2_with (go_at_call 37; go_loud (refine (HN _).mono ?_; rintro e w1 ⟨⟨t, v, rfl⟩, hb⟩))
  exact bodyPost_ret (results_tmp rfl _ _ _) rfl ⟨rfl, ((Below.refl _ _).alloc (Nat.le_refl _) _).trans (hb.mono (by simp))⟩

set_option maxRecDepth 100000 in
set_option maxHeartbeats 1000000 in
theorem large5_flp (s len b q x : Nat) (ctx : Value) (hs : s ≤ 255) (hl : len < 65536) (hq : q < 65536) (h : len = 0 ∨ len < x ∨ q = 0) (W : World) (t8 : TypeId) (v8 : Value) (g8 : W.cell? ⟨8, 0, none⟩ = some (.iface t8 v8)) (t9 : TypeId) (v9 : Value) (g9 : W.cell? ⟨9, 0, none⟩ = some (.iface t9 v9)) (t10 : TypeId) (v10 : Value) (g10 : W.cell? ⟨10, 0, none⟩ = some (.iface t10 v10)) :
    Calls Tryz.prog 16 #[kindV 5 s len b q x ctx] W fun e w' => e = .returned .nilIface ∧ Below W.heap.size W w' := by
  have HN := fun o => pkg5_flp s len x q ctx h (W.alloc o) t8 v8 (g_alloc g8 o) t9 v9 (g_alloc g9 o) t10 v10 (g_alloc g10 o)
  go_enter Tryz.func16, Tryz.ntmps16
  go_wp2_with (go_at_call 45; go_loud (refine (HN _).mono ?_; rintro e w1 ⟨⟨t, v, rfl⟩, hb⟩))
  exact bodyPost_ret (results_tmp rfl _ _ _) rfl ⟨rfl, ((Below.refl _ _).alloc (Nat.le_refl _) _).trans (hb.mono (by simp))⟩

set_option maxRecDepth 100000 in
set_option maxHeartbeats 1000000 in
theorem large4_nothing (s len b q x : Nat) (ctx : Value) (hs : s ≤ 255) (hl : len < 65536) (hq : q < 65536) (h : len = 0 ∨ q = 0) (W : World) (t0 : TypeId) (v0 : Value) (g0 : W.cell? ⟨0, 0, none⟩ = some (.iface t0 v0)) (t1 : TypeId) (v1 : Value) (g1 : W.cell? ⟨1, 0, none⟩ = some (.iface t1 v1)) :
    Calls Tryz.prog 16 #[kindV 4 s len b q x ctx] W fun e w' => e = .returned .nilIface ∧ Below W.heap.size W w' := by
  have HN := fun o => pkg4_nothing s len q ctx h (W.alloc o) t0 t1 v0 v1 (g_alloc g0 o) (g_alloc g1 o)
  go_enter Tryz.func16, Tryz.ntmps16
  go_wp2_with (go_at_call 42; go_loud (refine (HN _).mono ?_; rintro e w1 ⟨⟨t, v, rfl⟩, hb⟩))
  exact bodyPost_ret (results_tmp rfl _ _ _) rfl ⟨rfl, ((Below.refl _ _).alloc (Nat.le_refl _) _).trans (hb.mono (by simp))⟩

set_option maxRecDepth 100000 in
set_option maxHeartbeats 1000000 in
theorem large_none (kd : Int) (s len b q x : Nat) (ctx : Value) (h3 : kd ≠ 3) (h4 : kd ≠ 4) (h5 : kd ≠ 5) (W : World) :
    Calls Tryz.prog 16 #[kindV kd s len b q x ctx] W fun e w' => e = .returned .nilIface ∧ Below W.heap.size W w' := by
  have t3 : (kd == 3) = false := by simpa using h3
  have t4 : (kd == 4) = false := by simpa using h4
  have t5 : (kd == 5) = false := by simpa using h5
  go_enter Tryz.func16, Tryz.ntmps16
  go_wp2
  go_ret
  exact ⟨rfl, (Below.refl _ _).alloc (Nat.le_refl _) _⟩
end Go.Proofs.YtlmmdldjfpdcfaaGreatDoor
namespace Go.Proofs.YtlmmdldjfpdcfaaGreatDoor
open Go.RowKit

/-- Ten numbers, as parameters hold them. -/
abbrev ten (a : Fin 10 → Nat) : Array Value := #[.int .u64 (a 0), .int .u64 (a 1), .int .u64 (a 2), .int .u64 (a 3), .int .u64 (a 4), .int .u64 (a 5), .int .u64 (a 6), .int .u64 (a 7), .int .u64 (a 8), .int .u8 (a 9)]

theorem gen10 {f : FuncId} {args : Array Value} {w : World} (v0 v1 v2 v3 v4 v5 v6 v7 v8 v9 : Nat)
    (h : Calls Tryz.prog f args w fun e w' => e = .returned (.agg #[.int .u64 v0, .int .u64 v1, .int .u64 v2, .int .u64 v3, .int .u64 v4, .int .u64 v5, .int .u64 v6, .int .u64 v7, .int .u64 v8, .int .u8 v9]) ∧ Below w.heap.size w w')
    (hv : (v0 < 1048576 ∧ v1 < 1048576 ∧ v2 < 1048576 ∧ v3 < 1048576 ∧ v4 < 1048576) ∧ (v5 < 1048576 ∧ v6 < 1048576 ∧ v7 < 1048576 ∧ v8 < 1048576 ∧ v9 < 256)) :
    Calls Tryz.prog f args w fun e w' => ∃ a0 a1 a2 a3 a4 a5 a6 a7 a8 a9 : Nat, e = .returned (.agg #[.int .u64 a0, .int .u64 a1, .int .u64 a2, .int .u64 a3, .int .u64 a4, .int .u64 a5, .int .u64 a6, .int .u64 a7, .int .u64 a8, .int .u8 a9]) ∧
      ((a0 < 1048576 ∧ a1 < 1048576 ∧ a2 < 1048576 ∧ a3 < 1048576 ∧ a4 < 1048576) ∧ (a5 < 1048576 ∧ a6 < 1048576 ∧ a7 < 1048576 ∧ a8 < 1048576 ∧ a9 < 256)) ∧
      Hid ((a0 = v0 ∧ a1 = v1 ∧ a2 = v2 ∧ a3 = v3 ∧ a4 = v4) ∧ (a5 = v5 ∧ a6 = v6 ∧ a7 = v7 ∧ a8 = v8 ∧ a9 = v9)) ∧ Below w.heap.size w w' :=
  h.mono fun _ _ ⟨he, hb⟩ => ⟨v0, v1, v2, v3, v4, v5, v6, v7, v8, v9, he, hv, Lib.hid ⟨⟨rfl, rfl, rfl, rfl, rfl⟩, rfl, rfl, rfl, rfl, rfl⟩, hb⟩

/-- Numbers, as a row of them lies. -/
def Ints (w : World) (b : Nat) (zs : List Int) : Prop := ∀ j, j < zs.length → w.cell? ⟨b, j, none⟩ = some (.int .i64 (zs.getD j 0))
end Go.Proofs.YtlmmdldjfpdcfaaGreatDoor
