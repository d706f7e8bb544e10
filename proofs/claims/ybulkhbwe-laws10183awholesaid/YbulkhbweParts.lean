import Derived.Test.YbulkhbweRows
import Derived.WalkKit
import Derived.WalkSpells
import Derived.WalkLawsBesides
namespace Go.Proofs.Ybulkhbwe
open Go.RowKit

/-- A slice of int64 as the walk wants it: it has 'len' elements zs; where there is one, they lie at an address. -/
def Rd (w : World) (a : Option Addr) (len : Nat) (zs : List Int) : Prop :=
  zs.length = len ∧ (0 < len → ∃ b o, a = some ⟨b, o, none⟩ ∧ ∀ i, i < len → w.cell? ⟨b, o + i, none⟩ = some (.int .i64 (zs.getD i 0)))

def sumI : List Int → Int
  | [] => 0
  | x :: xs => x + sumI xs

theorem sumI_append (a b : List Int) : sumI (a ++ b) = sumI a + sumI b := by
  induction a with
  | nil => simp [sumI]
  | cons x xs ih => simp [sumI, ih]; omega

def S (zs : List Int) : Int := wrap64 (sumI zs)

theorem S_nil : S [] = 0 := by simp [S, sumI, wrap64]

theorem S_step (zs : List Int) (k : Nat) (h : k < zs.length) : S (zs.take (k + 1)) = wrap64 (S (zs.take k) + zs[k]?.getD 0) := by
  unfold S
  rw [List.take_succ_eq_append_getElem h, sumI_append]
  simp only [sumI, List.getElem?_eq_getElem h, Option.getD_some]
  unfold wrap64
  omega

theorem ret_int {k : IntKind} {a b : Int} (h : a = b) : Ending.returned (.int k a) = .returned (.int k b) := by rw [h]

set_option maxHeartbeats 400000 in
theorem count_some (fb b o len cap : Nat) (zs : List Int) (w : World) (hl : len ≤ 1048576) (hz : zs.length = len)
    (h2 : w.cell? ⟨fb, 2, none⟩ = some (.slice (some ⟨b, o, none⟩) len cap))
    (hc : ∀ i, i < len → w.cell? ⟨b, o + i, none⟩ = some (.int .i64 (zs.getD i 0))) :
    Calls Yba.prog 4 #[.pointer (some ⟨fb, 0, none⟩)] w fun e w' => e = .returned (.int .i64 (S zs)) ∧ w' = w := by
  go_enter Yba.func4, Yba.ntmps4
  go_wp2
  go_loop [3, 11] (fun n i => ∃ k : Nat, k ≤ len ∧ i = .int .i64 k ∧ n = .int .i64 (S (zs.take k))) (fun _ i => len - (intOf i).toNat)
  case atStart => exact ⟨0, Nat.zero_le _, rfl, by rw [List.take_zero, S_nil]⟩
  case round =>
    obtain ⟨k, hk, rfl, rfl⟩ := hrel
    by_cases hlt : k < len
    · have hcell := hc k hlt
      have HS : Hid (S (zs.take (k + 1)) = wrap64 (S (zs.take k) + zs[k]?.getD 0)) := S_step zs k (by omega)
      go_wp2
      go_round
      case rel => exact ⟨k + 1, by omega, by go_num, by rw [HS.out]; simp [show k < zs.length by omega]⟩
      case measure => simp [intOf]; omega
    · go_wp2
      go_ret
      exact ⟨ret_int (by rw [List.take_of_length_le (by omega)]), rfl⟩

set_option maxHeartbeats 400000 in
theorem count_none (fb cap : Nat) (a : Option Addr) (w : World) (h2 : w.cell? ⟨fb, 2, none⟩ = some (.slice a 0 cap)) :
    Calls Yba.prog 4 #[.pointer (some ⟨fb, 0, none⟩)] w fun e w' => e = .returned (.int .i64 (S [])) ∧ w' = w := by
  go_enter Yba.func4, Yba.ntmps4
  go_wp2
  refine wp_loop_rounds 1 ?_
  rw [rounds_succ]
  go_wp2
  go_ret
  exact ⟨ret_int S_nil.symm, rfl⟩

theorem count_any (fb len cap : Nat) (a : Option Addr) (zs : List Int) (w : World) (hl : len ≤ 1048576)
    (h2 : w.cell? ⟨fb, 2, none⟩ = some (.slice a len cap)) (hr : Rd w a len zs) :
    Calls Yba.prog 4 #[.pointer (some ⟨fb, 0, none⟩)] w fun e w' => e = .returned (.int .i64 (S zs)) ∧ w' = w := by
  obtain ⟨hz, hp⟩ := hr
  by_cases h0 : 0 < len
  · obtain ⟨b, o, rfl, hc⟩ := hp h0
    exact count_some fb b o len cap zs w hl hz h2 hc
  · obtain rfl : len = 0 := by omega
    obtain rfl : zs = [] := List.eq_nil_of_length_eq_zero hz
    exact count_none fb cap a w h2

set_option maxHeartbeats 400000 in
theorem eq_some (b o len cap b' o' cap' : Nat) (zs : List Int) (w : World) (hl : len ≤ 1048576)
    (hc : ∀ i, i < len → w.cell? ⟨b, o + i, none⟩ = some (.int .i64 (zs.getD i 0)))
    (hc' : ∀ i, i < len → w.cell? ⟨b', o' + i, none⟩ = some (.int .i64 (zs.getD i 0))) :
    Calls Yba.prog 5 #[.slice (some ⟨b, o, none⟩) len cap, .slice (some ⟨b', o', none⟩) len cap'] w fun e w' => e = .returned (.bool true) ∧ ∃ n, w' = w.drewN n := by
  have hq := @Lib.run_eql_slice_nil Yba.prog
  go_enter Yba.func5, Yba.ntmps5
  go_wp2
  go_loopw [5] (fun i wr => ∃ k n : Nat, k ≤ len ∧ i = .int .i64 k ∧ wr = w.drewN n) (fun i _ => len - (intOf i).toNat)
  case atStart => exact ⟨0, 0, Nat.zero_le _, rfl, rfl⟩
  case round =>
    obtain ⟨k, n, hk, rfl, rfl⟩ := hrel
    by_cases hlt : k < len
    · have hcell := hc k hlt
      have hcell' := hc' k hlt
      go_wp2
      go_region
      go_wp2
      go_roundw
      case rel => exact ⟨k + 1, _, by omega, by go_num, rfl⟩
      case measure => simp [intOf]; omega
    · go_wp2
      go_ret
      exact ⟨rfl, _, rfl⟩

set_option maxHeartbeats 400000 in
theorem eq_none (a a' : Option Addr) (cap cap' : Nat) (w : World) (hn : (a.isNone != a'.isNone) = false) :
    Calls Yba.prog 5 #[.slice a 0 cap, .slice a' 0 cap'] w fun e w' => e = .returned (.bool true) ∧ ∃ n, w' = w.drewN n := by
  have hq := @Lib.run_eql_slice_nil Yba.prog
  cases a <;> cases a' <;> simp at hn
  all_goals
    go_enter Yba.func5, Yba.ntmps5
    go_wp2
    refine wp_loop_rounds 1 ?_
    rw [rounds_succ]
    go_wp2
    go_ret
    exact ⟨rfl, 0, rfl⟩

theorem eq_any (a a' : Option Addr) (len cap cap' : Nat) (zs : List Int) (w : World) (hl : len ≤ 1048576) (hn : (a.isNone != a'.isNone) = false)
    (h : Rd w a len zs) (h' : Rd w a' len zs) :
    Calls Yba.prog 5 #[.slice a len cap, .slice a' len cap'] w fun e w' => e = .returned (.bool true) ∧ ∃ n, w' = w.drewN n := by
  by_cases h0 : 0 < len
  · obtain ⟨b, o, rfl, hc⟩ := h.2 h0
    obtain ⟨b', o', rfl, hc'⟩ := h'.2 h0
    exact eq_some b o len cap b' o' cap' zs w hl hc hc'
  · obtain rfl : len = 0 := by omega
    exact eq_none a a' cap cap' w hn
end Go.Proofs.Ybulkhbwe
