/- New of the package of kind 2, where there is no such machine. The machine of small numbers, or nothing. What the statement takes as small, and as a kind. What the statement takes as a kind. -/
import Derived.Test.YtlmmdldjfpdcfaaGreatDoorE09
import Derived.Test.YtlmmdldjfpdcfaaGreatDoorE07
import Derived.BigQuiet
namespace Go.Proofs.YtlmmdldjfpdcfaaGreatDoor
open Go.RowKit

set_option maxRecDepth 100000 in
set_option maxHeartbeats 1000000 in
theorem pkg2_few (s : Nat) (x : Nat) (ctx : Value) (hs : s < 2) (hx : x < 9223372036854775808) (W : World) (t2 : TypeId) (v2 : Value) (g2 : W.cell? ⟨2, 0, none⟩ = some (.iface t2 v2)) :
    Calls Tryz.prog 34 #[.int .u8 s, .int .u64 x, ctx] W fun e w' => (∃ t v, e = .returned (.tuple #[.pointer none, .iface t v])) ∧ Below W.heap.size W w' := by
  go_enter Tryz.func34, Tryz.ntmps34
  go_wp2_with (first | (go_at_call 59; go_loud (refine (flp2_ok _ x hx).mono ?_; rintro e w2 ⟨rfl, _, hlow⟩)) | (refine new_big 137 205 zok137 rfl rfl ?_; intro w1 hw1; have hB := Blk.new zok137 w2; rw [← hw1] at hB; clear hw1) | (go_at_call 60; go_loud (refine (new2_bad _ ctx 2 s hs _ t2 v2 ((hB.low.cell (Nat.lt_of_lt_of_le (World.block_lt_of_cell? W _ g2) hlow.size)).trans ((hlow.cell (World.block_lt_of_cell? W _ g2)).trans g2))).mono ?_; rintro e w3 ⟨⟨cs, t, v, hc1, hc2, rfl⟩, hb3⟩; have hB := hB.below hb3)) | (refine store_part 135 _ _ hB cs rfl rfl rfl rfl size135 hc1 (by omega) hc2 ?_; intro w4 hw4; go_loud (have hB := hB.setCells cs.toList 0 _ (fun v hv => Array.all_eq_true_iff_forall_mem.1 hc2 v (by simpa using hv)); rw [← hw4] at hB; clear hw4)))
  exact bodyPost_ret (results_tmp2 rfl _ _ _) rfl ⟨⟨_, _, rfl⟩, hlow.trans (hB.low.mono hlow.size)⟩

set_option maxRecDepth 100000 in
set_option maxHeartbeats 1000000 in
theorem pkg2_flp (s : Nat) (x : Nat) (ctx : Value) (h : 9223372036854775808 ≤ x) (W : World) (t4 : TypeId) (v4 : Value) (g4 : W.cell? ⟨4, 0, none⟩ = some (.iface t4 v4)) :
    Calls Tryz.prog 34 #[.int .u8 s, .int .u64 x, ctx] W fun e w' => (∃ t v, e = .returned (.tuple #[.pointer none, .iface t v])) ∧ Below W.heap.size W w' := by
  have hfl := flp2_bad W x h t4 v4 g4
  have HF := Lib.hid hfl
  clear hfl h
  go_enter Tryz.func34, Tryz.ntmps34
  go_wp2_with (go_at_call 59; go_loud (refine HF.out.mono ?_; rintro e w2 ⟨⟨t, v, rfl⟩, hlow⟩))
  exact bodyPost_ret (results_tmp2 rfl _ _ _) rfl ⟨⟨_, _, rfl⟩, hlow⟩
end Go.Proofs.YtlmmdldjfpdcfaaGreatDoor
namespace Go.Proofs.YtlmmdldjfpdcfaaGreatDoor
open Go.RowKit

/-- A kind, as it lies. -/
abbrev kindV (kd : Int) (s len b q x : Nat) (ctx : Value) : Value := .agg #[.int .i64 kd, .int .i64 s, .int .i64 len, .int .i64 b, .int .i64 q, .int .u64 x, ctx]

theorem ctx_alloc {W : World} {v : Value} {n : Nat} (h : CtxAt W v n) (o : Obj) : CtxAt (W.alloc o) v n := h.low ((Below.refl _ _).alloc (Nat.le_refl _) o)

theorem g_alloc {W : World} {i : Nat} {v : Value} (h : W.cell? ⟨i, 0, none⟩ = some v) (o : Obj) : (W.alloc o).cell? ⟨i, 0, none⟩ = some v :=
  (((Below.refl W.heap.size W).alloc (Nat.le_refl _) o).cell (World.block_lt_of_cell? W _ h)).trans h

set_option maxRecDepth 100000 in
set_option maxHeartbeats 1000000 in
theorem small1_ok (s len b q x n : Nat) (ctx : Value) (hn : n ≤ 4096) (hs : 2 ≤ s) (hs2 : s ≤ 255) (W : World) (hctx : CtxAt W ctx n) :
    Calls Tryz.prog 15 #[kindV 1 s len b q x ctx] W fun e w' => ∃ b1, e = .returned (.iface 59 (.pointer (some ⟨b1, 0, none⟩))) ∧ IsMach 120 191 b1 (32 * s) s (fun fs => ∃ b, fs = fs1 b) w' ∧ Below W.heap.size W w' := by
  have HC := Lib.hid hctx
  clear hctx
  go_enter Tryz.func15, Tryz.ntmps15
  go_wp2_with (go_at_call 29; go_loud (refine (pkg1_ok s n ctx hn hs hs2 _ (ctx_alloc HC.out _)).mono ?_; rintro e w1 ⟨b1, rfl, hM, hb⟩))
  exact bodyPost_ret (results_tmp rfl _ _ _) rfl ⟨b1, rfl, hM, ((Below.refl _ _).alloc (Nat.le_refl _) _).trans (hb.mono (by simp))⟩

set_option maxRecDepth 100000 in
set_option maxHeartbeats 1000000 in
theorem small1_few (s len b q x : Nat) (ctx : Value) (hs : s < 2) (W : World) (t2 : TypeId) (v2 : Value) (g2 : W.cell? ⟨2, 0, none⟩ = some (.iface t2 v2)) :
    Calls Tryz.prog 15 #[kindV 1 s len b q x ctx] W fun e w' => e = .returned .nilIface ∧ Below W.heap.size W w' := by
  have HN := fun o => pkg1_few s ctx hs (W.alloc o) t2 v2 (g_alloc g2 o)
  go_enter Tryz.func15, Tryz.ntmps15
  go_wp2_with (go_at_call 29; go_loud (refine (HN _).mono ?_; rintro e w1 ⟨⟨t, v, rfl⟩, hb⟩))
  exact bodyPost_ret (results_tmp rfl _ _ _) rfl ⟨rfl, ((Below.refl _ _).alloc (Nat.le_refl _) _).trans (hb.mono (by simp))⟩

set_option maxRecDepth 100000 in
set_option maxHeartbeats 1000000 in
theorem small2_ok (s len b q x n : Nat) (ctx : Value) (hn : n ≤ 4096) (hs : 2 ≤ s) (hs2 : s ≤ 255) (hx : x < 9223372036854775808) (W : World) (hctx : CtxAt W ctx n) :
    Calls Tryz.prog 15 #[kindV 2 s len b q x ctx] W fun e w' => ∃ b1, e = .returned (.iface 75 (.pointer (some ⟨b1, 0, none⟩))) ∧ IsMach 137 203 b1 (32 * s) s (fun fs => ∃ b z, fs = fs2 b x (Lib.bitLen x) z) w' ∧ Below W.heap.size W w' := by
  have HC := Lib.hid hctx
  clear hctx
  go_enter Tryz.func15, Tryz.ntmps15
  go_wp2_with (go_at_call 34; go_loud (refine (pkg2_ok s n x ctx hn hs hs2 hx _ (ctx_alloc HC.out _)).mono ?_; rintro e w1 ⟨b1, rfl, hM, hb⟩))
  exact bodyPost_ret (results_tmp rfl _ _ _) rfl ⟨b1, rfl, hM, ((Below.refl _ _).alloc (Nat.le_refl _) _).trans (hb.mono (by simp))⟩

set_option maxRecDepth 100000 in
set_option maxHeartbeats 1000000 in
theorem small2_few (s len b q x : Nat) (ctx : Value) (hs : s < 2) (hx : x < 9223372036854775808) (W : World) (t2 : TypeId) (v2 : Value) (g2 : W.cell? ⟨2, 0, none⟩ = some (.iface t2 v2)) :
    Calls Tryz.prog 15 #[kindV 2 s len b q x ctx] W fun e w' => e = .returned .nilIface ∧ Below W.heap.size W w' := by
  have HN := fun o => pkg2_few s x ctx hs hx (W.alloc o) t2 v2 (g_alloc g2 o)
  go_enter Tryz.func15, Tryz.ntmps15
  go_wp2_with (go_at_call 34; go_loud (refine (HN _).mono ?_; rintro e w1 ⟨⟨t, v, rfl⟩, hb⟩))
  exact bodyPost_ret (results_tmp rfl _ _ _) rfl ⟨rfl, ((Below.refl _ _).alloc (Nat.le_refl _) _).trans (hb.mono (by simp))⟩

set_option maxRecDepth 100000 in
set_option maxHeartbeats 1000000 in
theorem small2_flp (s len b q x : Nat) (ctx : Value) (hs : s ≤ 255) (h : 9223372036854775808 ≤ x) (W : World) (t4 : TypeId) (v4 : Value) (g4 : W.cell? ⟨4, 0, none⟩ = some (.iface t4 v4)) :
    Calls Tryz.prog 15 #[kindV 2 s len b q x ctx] W fun e w' => e = .returned .nilIface ∧ Below W.heap.size W w' := by
  have HN := fun o => pkg2_flp s x ctx h (W.alloc o) t4 v4 (g_alloc g4 o)
  go_enter Tryz.func15, Tryz.ntmps15
  go_wp2_with (go_at_call 34; go_loud (refine (HN _).mono ?_; rintro e w1 ⟨⟨t, v, rfl⟩, hb⟩))
  exact bodyPost_ret (results_tmp rfl _ _ _) rfl ⟨rfl, ((Below.refl _ _).alloc (Nat.le_refl _) _).trans (hb.mono (by simp))⟩

set_option maxRecDepth 100000 in
set_option maxHeartbeats 1000000 in
theorem small_none (kd : Int) (s len b q x : Nat) (ctx : Value) (h1 : kd ≠ 1) (h2 : kd ≠ 2) (W : World) :
    Calls Tryz.prog 15 #[kindV kd s len b q x ctx] W fun e w' => e = .returned .nilIface ∧ Below W.heap.size W w' := by
  have t1 : (kd == 1) = false := by simpa using h1
  have t2 : (kd == 2) = false := by simpa using h2
  go_enter Tryz.func15, Tryz.ntmps15
  go_wp2
  go_ret
  exact ⟨rfl, (Below.refl _ _).alloc (Nat.le_refl _) _⟩
end Go.Proofs.YtlmmdldjfpdcfaaGreatDoor
namespace Go.Proofs.YtlmmdldjfpdcfaaGreatDoor
open Go.RowKit

set_option maxRecDepth 100000 in
set_option maxHeartbeats 1000000 in
theorem fits_yes (kd s len b q x : Int) (n : Nat) (ctx : Value) (hn : n ≤ 2147483647) (W : World) (hc : CtxAt W ctx n) :
    Calls Tryz.prog 5 #[.agg #[.int .i64 kd, .int .i64 s, .int .i64 len, .int .i64 b, .int .i64 q, .int .u64 x, ctx]] W fun e w' => e = .returned (.bool true) ∧ Below W.heap.size W w' := by
  rcases hc with ⟨rfl, rfl⟩ | ⟨ad, c, news, rfl, h2, h3, h4⟩
  · go_enter Tryz.func5, Tryz.ntmps5
    go_wp2
    go_ret
    exact ⟨rfl, (Below.refl _ _).alloc (Nat.le_refl _) _⟩
  · have t : decide ((2147483647 : Int) < (n : Int)) = false := by simp; omega
    clear h2 h3 h4
    go_enter Tryz.func5, Tryz.ntmps5
    go_wp2
    go_ret
    exact ⟨rfl, (Below.refl _ _).alloc (Nat.le_refl _) _⟩

set_option maxRecDepth 100000 in
set_option maxHeartbeats 1000000 in
theorem fits_no (kd s len b q x : Int) (n : Nat) (ctx : Value) (hn : 2147483647 < n) (W : World) (hc : CtxAt W ctx n) :
    Calls Tryz.prog 5 #[.agg #[.int .i64 kd, .int .i64 s, .int .i64 len, .int .i64 b, .int .i64 q, .int .u64 x, ctx]] W fun e w' => e = .returned (.bool false) ∧ Below W.heap.size W w' := by
  rcases hc with ⟨rfl, rfl⟩ | ⟨ad, c, news, rfl, h2, h3, h4⟩
  · omega
  · have t : decide ((2147483647 : Int) < (n : Int)) = true := by simp; omega
    clear h2 h3 h4
    go_enter Tryz.func5, Tryz.ntmps5
    go_wp2
    go_ret
    exact ⟨rfl, (Below.refl _ _).alloc (Nat.le_refl _) _⟩

set_option maxRecDepth 100000 in
set_option maxHeartbeats 2000000 in
theorem small_no (kd s len b q x : Int) (n : Nat) (ctx : Value) (h : ¬ (0 ≤ s ∧ s ≤ 255 ∧ 0 ≤ len ∧ len ≤ 16 ∧ 0 ≤ b ∧ b ≤ 80 ∧ 0 ≤ q ∧ q ≤ 16 ∧ n ≤ 4096)) (W : World) (hc : CtxAt W ctx n) :
    Calls Tryz.prog 6 #[.agg #[.int .i64 kd, .int .i64 s, .int .i64 len, .int .i64 b, .int .i64 q, .int .u64 x, ctx]] W fun e w' => e = .returned (.bool false) ∧ Below W.heap.size W w' := by
  rcases hc with ⟨rfl, rfl⟩ | ⟨ad, c, news, rfl, h2, h3, h4⟩
  · have H := Lib.hid h
    clear h
    go_enter Tryz.func6, Tryz.ntmps6
    go_wp2
    all_goals refine bodyPost_ret (results_tmp rfl _ _ _) rfl ⟨?_, (Below.refl _ _).alloc (Nat.le_refl _) _⟩
    all_goals have h := H.out
    all_goals clear H
    all_goals simp at h ⊢
    all_goals omega
  · have H := Lib.hid h
    clear h h2 h3 h4
    go_enter Tryz.func6, Tryz.ntmps6
    go_wp2
    all_goals refine bodyPost_ret (results_tmp rfl _ _ _) rfl ⟨?_, (Below.refl _ _).alloc (Nat.le_refl _) _⟩
    all_goals have h := H.out
    all_goals clear H
    all_goals simp at h ⊢
    all_goals omega

set_option maxRecDepth 100000 in
set_option maxHeartbeats 2000000 in
theorem small_yes (kd : Int) (s len b q x n : Nat) (ctx : Value) (hs : s ≤ 255) (hl : len ≤ 16) (hb : b ≤ 80) (hq : q ≤ 16) (hn : n ≤ 4096) (W : World) (hc : CtxAt W ctx n) :
    Calls Tryz.prog 6 #[kindV kd s len b q x ctx] W fun e w' => e = .returned (.bool true) ∧ Below W.heap.size W w' := by
  have t1 : decide ((s : Int) ≤ 255) = true := by simp; omega
  have t2 : decide ((len : Int) ≤ 16) = true := by simp; omega
  have t3 : decide ((b : Int) ≤ 80) = true := by simp; omega
  have t4 : decide ((q : Int) ≤ 16) = true := by simp; omega
  have t5 : decide ((n : Int) ≤ 4096) = true := by simp; omega
  rcases hc with ⟨rfl, rfl⟩ | ⟨ad, c, news, rfl, h2, h3, h4⟩
  · go_enter Tryz.func6, Tryz.ntmps6
    go_wp2
    all_goals exact bodyPost_ret (results_tmp rfl _ _ _) rfl ⟨rfl, (Below.refl _ _).alloc (Nat.le_refl _) _⟩
  · clear h2 h3 h4
    go_enter Tryz.func6, Tryz.ntmps6
    go_wp2
    all_goals exact bodyPost_ret (results_tmp rfl _ _ _) rfl ⟨rfl, (Below.refl _ _).alloc (Nat.le_refl _) _⟩
end Go.Proofs.YtlmmdldjfpdcfaaGreatDoor
namespace Go.Proofs.YtlmmdldjfpdcfaaGreatDoor
open Go.RowKit

/-- A kind that is one. -/
def Valid (kd : Int) (s len b q x : Nat) : Prop :=
  2 ≤ s ∧ (kd = 1 ∨ (kd = 2 ∧ x < 9223372036854775808) ∨ (kd = 3 ∧ 1 ≤ len ∧ 1 ≤ b ∧ b ≤ 64 ∧ 1 ≤ q) ∨ (kd = 4 ∧ 1 ≤ len ∧ 1 ≤ q) ∨ (kd = 5 ∧ 1 ≤ len ∧ 1 ≤ q ∧ x ≤ len))

set_option maxRecDepth 100000 in
set_option maxHeartbeats 4000000 in
theorem kind_is (y : Bool) (kd : Int) (s len b q x n : Nat) (ctx : Value) (hs : s ≤ 255) (hl : len ≤ 16) (hb : b ≤ 80) (hq : q ≤ 16) (hn : n ≤ 4096) (h : Valid kd s len b q x ↔ y = true) (W : World) (hc : CtxAt W ctx n) :
    Calls Tryz.prog 8 #[kindV kd s len b q x ctx] W fun e w' => e = .returned (.bool y) ∧ Below W.heap.size W w' := by
  rcases hc with ⟨rfl, rfl⟩ | ⟨ad, c, news, rfl, h2, h3, h4⟩
  · have H := Lib.hid h
    clear h
    go_enter Tryz.func8, Tryz.ntmps8
    go_wp2
    all_goals refine bodyPost_ret (results_tmp rfl _ _ _) rfl ⟨?_, (Below.refl _ _).alloc (Nat.le_refl _) _⟩
    all_goals have h := H.out
    all_goals clear H
    all_goals unfold Valid at h
    all_goals cases y
    all_goals simp at *
    all_goals omega
  · have H := Lib.hid h
    clear h h2 h3 h4
    go_enter Tryz.func8, Tryz.ntmps8
    go_wp2
    all_goals refine bodyPost_ret (results_tmp rfl _ _ _) rfl ⟨?_, (Below.refl _ _).alloc (Nat.le_refl _) _⟩
    all_goals have h := H.out
    all_goals clear H
    all_goals unfold Valid at h
    all_goals cases y
    all_goals simp at *
    all_goals omega
end Go.Proofs.YtlmmdldjfpdcfaaGreatDoor
