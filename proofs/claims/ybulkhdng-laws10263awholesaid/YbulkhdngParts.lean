import Derived.Test.YbulkhdngRows
import Derived.WalkKit
import Derived.WalkSpells
import Derived.WalkLawsBesides
import Derived.Outline
import Derived.Deep.RegionWith
import Derived.Deep.DeepCutAuto
import Derived.Deep.QuietTactic
namespace Go.Proofs.Ybulkhdng
open Go.RowKit

theorem hide_of {p : Prop} (h : p) : Hid p := h

theorem sh_neg {x : Int} {m : Nat} (h : x < 0) : ¬ 2 ≤ x / 2 ^ m := by
  have hp : (0 : Int) < 2 ^ m := Int.pow_pos (by omega)
  have := Int.ediv_neg_of_neg_of_pos h hp
  omega

theorem sh_iff {x : Int} {m : Nat} : 2 ≤ x / 2 ^ m ↔ ((2 ^ (m + 1) : Nat) : Int) ≤ x := by
  have hp : (0 : Int) < 2 ^ m := Int.pow_pos (by omega)
  rw [Int.le_ediv_iff_mul_le hp]
  have : ((2 ^ (m + 1) : Nat) : Int) = 2 * 2 ^ m := by rw [Nat.pow_succ]; simp [Int.mul_comm]
  rw [this]

theorem sh_far {x : Int} {k : Nat} (hk : 62 ≤ k) (hx : x < 9223372036854775808) : ¬ 2 ≤ x / 2 ^ min k 64 := by
  rw [sh_iff]
  have : 2 ^ 63 ≤ 2 ^ (min k 64 + 1) := Nat.pow_le_pow_right (by omega) (by omega)
  omega

set_option maxRecDepth 100000 in
set_option maxHeartbeats 800000 in
theorem zz_any (x : Int) (k : Nat) (hx : x < 9223372036854775808) (hk : k ≤ 255) (w : World) :
    Calls Yba.prog 5 #[.int .i64 x, .int .i64 k] w fun e w' => e = .returned (.bool (decide (2 ≤ x / 2 ^ min k 64))) ∧ w' = w := by
  by_cases h0 : x < 0
  · go_enter Yba.func5, Yba.ntmps5
    go_wp2
    go_ret
    exact ⟨by rw [decide_eq_false (sh_neg h0)]; rfl, rfl⟩
  · by_cases h1 : 62 ≤ k
    · go_enter Yba.func5, Yba.ntmps5
      go_wp2
      go_ret
      exact ⟨by rw [decide_eq_false (sh_far h1 hx)]; rfl, rfl⟩
    · go_enter Yba.func5, Yba.ntmps5
      go_wp2
      go_loopw [5, 6] (fun p i wr => ∃ j P : Nat, j ≤ k ∧ i = .int .i64 j ∧ p = .int .i64 P ∧ Hid (P = 2 ^ (j + 1)) ∧ wr = w) (fun _ i _ => k - (intOf i).toNat)
      case atStart => exact ⟨0, 2, Nat.zero_le _, rfl, rfl, rfl, rfl⟩
      case round =>
        obtain ⟨j, P, hj, rfl, rfl, HP, rfl⟩ := hrel
        by_cases hlt : j < k
        · have hP : P ≤ 2305843009213693952 := by
            rw [HP.out]
            exact Nat.pow_le_pow_right (n := 2) (by omega) (show j + 1 ≤ 61 by omega)
          go_wp2
          go_roundw
          case rel => exact ⟨j + 1, P * 2, by omega, by go_num, by go_num, by rw [HP.out]; exact (Nat.pow_succ ..).symm, by first | trivial | rfl⟩
          case measure => simp [intOf]; omega
        · obtain rfl : k = j := by omega
          go_wp2
          go_ret
          refine ⟨?_, rfl⟩
          rw [show min k 64 = k by omega]
          simp only [sh_iff]
          rw [← HP.out]
          rfl

/-- What the Node's cells hold, as far as unheard reads them. -/
structure NodeAt (w : World) (N : Nat) (id delta par hops since ph co est acks sent : Int) (k : Nat) : Prop where
  c0 : w.cell? ⟨N, 0, none⟩ = some (.int .i64 id)
  c4 : w.cell? ⟨N, 4, none⟩ = some (.int .i64 delta)
  c10 : w.cell? ⟨N, 10, none⟩ = some (.int .i64 1)
  c11 : w.cell? ⟨N, 11, none⟩ = some (.int .i64 id)
  c13 : w.cell? ⟨N, 13, none⟩ = some (.int .i64 par)
  c14 : w.cell? ⟨N, 14, none⟩ = some (.int .i64 hops)
  c15 : w.cell? ⟨N, 15, none⟩ = some (.int .i64 since)
  c19 : w.cell? ⟨N, 19, none⟩ = some (.int .i64 ph)
  c20 : w.cell? ⟨N, 20, none⟩ = some (.int .i64 co)
  c22 : w.cell? ⟨N, 22, none⟩ = some (.int .i64 est)
  c28 : w.cell? ⟨N, 28, none⟩ = some (.int .i64 acks)
  c35 : w.cell? ⟨N, 35, none⟩ = some (.int .i64 sent)
  c37 : w.cell? ⟨N, 37, none⟩ = some (.int .i64 k)

theorem NodeAt.drewN {w : World} {N : Nat} {id delta par hops since ph co est acks sent : Int} {k : Nat} (h : NodeAt w N id delta par hops since ph co est acks sent k) (q : Nat) : NodeAt (w.drewN q) N id delta par hops since ph co est acks sent k :=
  ⟨h.c0, h.c4, h.c10, h.c11, h.c13, h.c14, h.c15, h.c19, h.c20, h.c22, h.c28, h.c35, h.c37⟩

set_option maxRecDepth 100000 in
set_option maxHeartbeats 800000 in
theorem held_any (N : Nat) (id delta par hops since ph co est acks sent : Int) (k : Nat) (w : World) (h : NodeAt w N id delta par hops since ph co est acks sent k) :
    Calls Yba.prog 6 #[.pointer (some ⟨N, 0, none⟩)] w fun e w' => e = .returned (.pointer (some ⟨N, if ph = 1 ∧ co = id then 27 else 21, none⟩)) ∧ ∃ m, w' = w.drewN m := by
  obtain ⟨c0, c4, c10, c11, c13, c14, c15, c19, c20, c22, c28, c35, c37⟩ := h
  clear c0 c4 c13 c14 c15 c22 c28 c35 c37
  by_cases hh : ph = 1 ∧ co = id
  · obtain ⟨rfl, rfl⟩ := hh
    go_enter Yba.func6, Yba.ntmps6
    go_wp2_with fail
    go_region
    go_wp2
    go_ret
    exact ⟨by simp, 1, rfl⟩
  · rw [if_neg hh]
    by_cases h1 : ph = 1
    · have h2 : ¬ co = id := fun e => hh ⟨h1, e⟩
      clear hh
      go_enter Yba.func6, Yba.ntmps6
      go_wp2_with fail
      go_region
      go_wp2
      go_ret
      exact ⟨rfl, 1, rfl⟩
    · clear hh
      go_enter Yba.func6, Yba.ntmps6
      go_wp2_with fail
      go_region
      go_wp2
      go_ret
      exact ⟨rfl, 1, rfl⟩

set_option maxRecDepth 100000 in
set_option maxHeartbeats 800000 in
theorem holding_any (N : Nat) (id delta par hops since ph co est acks sent now : Int) (k : Nat) (w : World) (h : NodeAt w N id delta par hops since ph co est acks sent k) :
    Calls Yba.prog 7 #[.pointer (some ⟨N, 0, none⟩), .int .i64 now] w fun e w' => e = .returned (.bool (decide (wrap64 ((wrap64 (now - since)).tdiv 2) < wrap64 (delta - hops)))) ∧ ∃ m, w' = w.drewN m := by
  obtain ⟨c0, c4, c10, c11, c13, c14, c15, c19, c20, c22, c28, c35, c37⟩ := h
  clear c0 c10 c11 c13 c19 c20 c22 c28 c35 c37
  go_enter Yba.func7, Yba.ntmps7
  go_wp2_with fail
  go_region
  go_wp2
  go_ret
  exact ⟨rfl, 1, rfl⟩

/-- Unheard, plainly. -/
def unh (id delta par hops since un sent now : Int) (k : Nat) : Bool :=
  if par = id then false else if un = 0 then false else decide (2 ≤ wrap64 (now - sent) / 2 ^ min k 64) && !decide (wrap64 ((wrap64 (wrap64 (now - 2) - since)).tdiv 2) < wrap64 (delta - hops))

set_option maxRecDepth 100000 in
set_option maxHeartbeats 1600000 in
theorem unheard_any (N : Nat) (id delta par hops since ph co est acks sent now un : Int) (k : Nat) (w : World) (h : NodeAt w N id delta par hops since ph co est acks sent k) (hu : un = if ph = 1 ∧ co = id then acks else est) :
    Calls Yba.prog 4 #[.pointer (some ⟨N, 0, none⟩), .int .i64 now] w fun e w' => e = .returned (.bool (unh id delta par hops since un sent now k)) ∧ ∃ q, w' = w.drewN q := by
  have HN := hide_of h
  obtain ⟨c0, c4, c10, c11, c13, c14, c15, c19, c20, c22, c28, c35, c37⟩ := h
  clear c4 c10 c11 c14 c15 c19 c20
  obtain ⟨off, hoff, hcell⟩ : ∃ off, off = (if ph = 1 ∧ co = id then 27 else 21) ∧ w.cell? ⟨N, off + 1, none⟩ = some (.int .i64 un) := by
    by_cases hh : ph = 1 ∧ co = id
    · exact ⟨27, by rw [if_pos hh], by rw [hu, if_pos hh]; exact c28⟩
    · exact ⟨21, by rw [if_neg hh], by rw [hu, if_neg hh]; exact c22⟩
  have HH : Hid (∀ n, Calls Yba.prog 6 #[.pointer (some ⟨N, 0, none⟩)] (w.drewN n) fun e w' => e = .returned (.pointer (some ⟨N, off, none⟩)) ∧ ∃ m, w' = (w.drewN n).drewN m) := fun n => by
    rw [hoff]
    exact held_any N id delta par hops since ph co est acks sent k _ (HN.out.drewN n)
  have HL : Hid (∀ q n x, Calls Yba.prog 7 #[.pointer (some ⟨N, 0, none⟩), .int .i64 x] ((w.drewN q).drewN n) fun e w' => e = .returned (.bool (decide (wrap64 ((wrap64 (x - since)).tdiv 2) < wrap64 (delta - hops)))) ∧ ∃ m, w' = ((w.drewN q).drewN n).drewN m) := fun q n x =>
    holding_any N id delta par hops since ph co est acks sent x k _ ((HN.out.drewN q).drewN n)
  clear hu c22 c28 hoff HN
  by_cases hp : par = id
  · subst hp
    go_enter Yba.func4, Yba.ntmps4
    go_wp2_with fail
    go_quiet (fail)
    go_wp2_with fail
    go_ret
    exact ⟨by simp [unh], _, rfl⟩
  · by_cases hz : un = 0
    · subst hz
      go_enter Yba.func4, Yba.ntmps4
      go_wp2_with fail
      go_quiet ((go_at_call 6; exact Calls.quiet_of (HH.out _)))
      go_wp2_with fail
      go_ret
      exact ⟨by simp [unh], _, rfl⟩
    · go_enter Yba.func4, Yba.ntmps4
      go_wp2_with fail
      go_quiet ((go_at_call 6; exact Calls.quiet_of (HH.out _)))
      go_wp2_with fail
      · rename_i hx
        simp [hp, hz] at hx
      · obtain ⟨W2, hW2⟩ : ∃ W2, W2 = w.drewN nq := ⟨_, rfl⟩
        have d35 : W2.cell? ⟨N, 35, none⟩ = some (.int .i64 sent) := by rw [hW2]; exact c35
        have d37 : W2.cell? ⟨N, 37, none⟩ = some (.int .i64 k) := by rw [hW2]; exact c37
        have HL2 : Hid (∀ n x, Calls Yba.prog 7 #[.pointer (some ⟨N, 0, none⟩), .int .i64 x] (W2.drewN n) fun e w' => e = .returned (.bool (decide (wrap64 ((wrap64 (x - since)).tdiv 2) < wrap64 (delta - hops)))) ∧ ∃ m, w' = (W2.drewN n).drewN m) := fun n x => by
          rw [hW2]
          exact HL.out nq n x
        have HW : Hid (W2 = w.drewN nq) := hW2
        rw [← hW2]
        clear hW2 HL HH c0 c13 c35 c37 hcell
        by_cases hL : 2 ≤ IntKind.i64.wrap (now - sent) / 2 ^ min k 64
        · go_quiet ((go_at_call 7; exact Calls.quiet_of (HL2.out _ _)))
          go_wp2_with fail
          go_ret
          refine ⟨?_, _, by rw [HW.out, World.drewN_drewN]⟩
          rw [IntWalk.i64_left] at hL
          unfold unh
          rw [if_neg hp, if_neg hz, decide_eq_true hL, Bool.true_and, ← IntWalk.i64_left (now - 2)]
          rfl
        · go_quiet (fail)
          go_wp2_with fail
          go_ret
          refine ⟨?_, _, by rw [HW.out, World.drewN_drewN]⟩
          rw [IntWalk.i64_left] at hL
          unfold unh
          rw [if_neg hp, if_neg hz, decide_eq_false (by omega), Bool.false_and]
          rfl
end Go.Proofs.Ybulkhdng
