import Derived.Test.YbulkhczuB2
namespace Go.Proofs.Ybulkhczu
open Go.RowKit Go.MuLone
open Go.ChangeMaps (setBlock)

/-- How many of the first k are marked. -/
def cm (md : Nat → Bool) (k : Nat) : Nat := ((List.range k).filter md).length
theorem cm_succ (md : Nat → Bool) (k : Nat) : cm md (k + 1) = cm md k + if md k then 1 else 0 := by
  unfold cm
  rw [List.range_succ, List.filter_append]
  by_cases h : md k = true <;> simp [h]
theorem cm_le (md : Nat → Bool) (k : Nat) : cm md k ≤ k := by
  unfold cm
  have := List.length_filter_le md (List.range k)
  simpa using this

theorem WN.look_ok {w : World} {mo : Option Nat} {f : List (Nat × Value)} (h : WN w mo f) {b : Nat} (hb : IsCells w b) :
    ∀ W : World, W.heap = w.heap → (Instr.lookup 69 (.map mo) (.pointer (some ⟨b, 0, none⟩)) true).run Yba.prog W = .ok (.tuple #[(lookF b f).getD (.bool false), .bool (lookF b f).isSome]) W := by
  obtain ⟨j63, hj63, hs63⟩ := info63
  cases mo with
  | none =>
    intro W _
    rw [h.2 rfl]
    simp [Instr.lookup, run_underlying Yba.underlying69, run_checkKey_ptr Yba.underlying58, Instr.findKey, run_underlying Yba.underlying58, Instr.findNow, Yba.zeroValue4, lookF]
  | some m => exact (h.1 m rfl).look_ok Yba.underlying69 Yba.underlying58 hj63 hs63 hb Yba.zeroValue4

theorem WN.len {w : World} {mo : Option Nat} {f : List (Nat × Value)} (h : WN w mo f) :
    ∀ W : World, W.heap = w.heap → (Builtin.len_ #[69] 3 #[.map mo]).run Yba.prog W = .ok (.int .i64 f.length) W := by
  cases mo with
  | none =>
    intro W _
    rw [h.2 rfl]
    simp [Builtin.len_, run_underlying Yba.underlying69, goInt]
  | some m => exact (h.1 m rfl).len Yba.underlying69 3

theorem mark_val (md : Bool) : ((if md then some (Value.bool true) else none).getD (.bool false) = .bool md) ∧ (if md then some (Value.bool true) else none).isSome = md := by
  cases md <;> exact ⟨rfl, rfl⟩

set_option maxRecDepth 100000 in
set_option maxHeartbeats 1600000 in
theorem check_any (sb pb mb fb : Nat) (mo : Option Nat) (f : List (Nat × Value)) (bk : Nat → Nat) (md : Nat → Bool) (mg ho en : Value) (w : World)
    (hst : w.heap[sb]? = some (.cells (stCells mg ho 0 en mo) 71 (0, 0))) (hwn : WN w mo f) (hpool : ∀ i, i < 6 → w.cell? ⟨pb, i, none⟩ = some (.pointer (some ⟨bk i, 0, none⟩))) (hmod : ∀ i, i < 6 → w.cell? ⟨mb, i, none⟩ = some (.bool (md i)))
    (hic : ∀ i, i < 6 → IsCells w (bk i)) (hfc : IsCells w fb) (hl : ∀ i, i < 6 → lookF (bk i) f = if md i then some (.bool true) else none) (hlf : lookF fb f = none) (hlen : f.length = cm md 6) :
    Calls Yba.prog 10 #[.pointer (some ⟨sb, 0, none⟩), .pointer (some ⟨pb, 0, none⟩), .pointer (some ⟨mb, 0, none⟩), .pointer (some ⟨fb, 0, none⟩)] w fun e w' => e = .returned (.bool true) ∧ ∃ q, w' = w.drewN q := by
  have c7 : w.cell? ⟨sb, 7, none⟩ = some (.map mo) := (st_cell hst).2.1
  have HL := hide_of hl
  have HLF := hide_of hlf
  have HLEN := hide_of hlen
  have HIC := hide_of hic
  have HPO := hide_of hpool
  have HMO := hide_of hmod
  clear hl hlf hlen hic hpool hmod
  go_enter Yba.func10, Yba.ntmps10
  go_wp2_with fail
  go_loopw [9, 10] (fun c i wr => ∃ k q : Nat, k ≤ 6 ∧ i = .int .i64 k ∧ c = .int .i64 (cm md k) ∧ wr = w.drewN q) (fun _ i _ => 6 - (intOf i).toNat)
  case atStart => exact ⟨0, 0, by omega, rfl, rfl, rfl⟩
  case round =>
    obtain ⟨k, q, hk, rfl, rfl, rfl⟩ := hrel
    by_cases hlt : k < 6
    · have cp := HPO.out k hlt
      have cmd := HMO.out k hlt
      have hlook := hwn.look_ok (HIC.out k hlt) (w.drewN (q + 1)) rfl
      rw [HL.out k hlt, (mark_val (md k)).1, (mark_val (md k)).2] at hlook
      have hcl := cm_le md k
      go_wp2_with fail
      go_region
      go_wp2
      · have hm : md k = true := by assumption
        go_roundw
        case rel => exact ⟨k + 1, _, by omega, by go_num, by rw [cm_succ, if_pos hm]; go_num, rfl⟩
        case measure => simp [intOf]; omega
      · have hm : md k = false := by assumption
        go_roundw
        case rel => exact ⟨k + 1, _, by omega, by go_num, by rw [cm_succ, if_neg (by rw [hm]; simp)]; go_num, rfl⟩
        case measure => simp [intOf]; omega
    · obtain rfl : k = 6 := by omega
      have hlook := hwn.look_ok hfc (w.drewN q) rfl
      rw [HLF.out] at hlook
      have hln := hwn.len (w.drewN q) rfl
      rw [HLEN.out] at hln
      have hcl := cm_le md 6
      simp only [Option.getD_none, Option.isSome_none] at hlook
      go_wp2_with fail
      go_ret
      exact ⟨by simp, q, rfl⟩
end Go.Proofs.Ybulkhczu
