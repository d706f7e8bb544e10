import Derived.Test.YbulkhdngParts
import Derived.BigQuiet
import Derived.BigRegion
namespace Go.Proofs.Ybulkhdng
open Go.RowKit

/-- Each operation's bonds lead to earlier ones. -/
def topoB (md : Region.Mode) (ops : Array Oper) : Bool :=
  (List.range ops.size).all fun i => ((ops[i]?).map (·.after.all fun e => !Region.binds md e || decide (e.on < i))).getD false
/-- Each later operation is bound to the earlier one, or stands apart of it. -/
def apartB (md : Region.Mode) (ops : Array Oper) : Bool :=
  (List.range ops.size).all fun i => match ops[i]? with
    | none => false
    | some oi => (List.range ops.size).all fun j => decide (j ≤ i) || match ops[j]? with
      | some oj => oj.after.any (fun e => Region.binds md e && e.on == i) || oi.apart ops oj
      | none => true

theorem lexFrom_of {md : Region.Mode} {ops : Array Oper} (h2 : topoB md ops = true) (h3 : apartB md ops = true) : ∀ (fuel k : Nat) (listed : Array Bool), k + fuel = ops.size → (∀ i, i < ops.size → listed[i]? = some (decide (i < k))) → Region.lexFrom md ops fuel k listed = true
  | 0, k, listed, hk, hl => by
    unfold Region.lexFrom Region.ready
    rw [List.isEmpty_iff, List.filter_eq_nil_iff]
    intro i hi
    have hi' : i < ops.size := by simpa using hi
    have : listed.getD i true = true := by rw [Array.getD_eq_getD_getElem?, hl i hi']; simp; omega
    simp [this]
  | fuel + 1, k, listed, hk, hl => by
    have hkn : k < ops.size := by omega
    obtain ⟨o, ho⟩ : ∃ o, ops[k]? = some o := ⟨_, Array.getElem?_eq_getElem hkn⟩
    have hself : listed.getD k true = false := by rw [Array.getD_eq_getD_getElem?, hl k hkn]; simp
    have ht := List.all_eq_true.1 h2 k (by simpa using hkn)
    have hp := List.all_eq_true.1 h3 k (by simpa using hkn)
    rw [ho] at ht
    simp only [ho] at hp
    have hr : (Region.ready md ops listed).contains k = true := by
      rw [List.contains_iff_mem]
      unfold Region.ready
      rw [List.mem_filter]
      refine ⟨by simpa using hkn, ?_⟩
      rw [hself, ho]
      simp only [Bool.not_false, Bool.true_and, Option.map_some, Option.getD_some]
      simp only [Option.map_some, Option.getD_some] at ht
      rw [Array.all_eq_true_iff_forall_mem] at ht ⊢
      intro e he
      have h := ht e he
      rcases Bool.or_eq_true_iff.1 h with h | h
      · rw [h]; rfl
      · have hlt : e.on < k := of_decide_eq_true h
        have : listed.getD e.on false = true := by rw [Array.getD_eq_getD_getElem?, hl e.on (by omega)]; simpa using hlt
        rw [this, Bool.or_true]
    have hf : Region.free md ops listed k = true := by
      unfold Region.free
      rw [ho]
      simp only
      rw [List.all_eq_true] at hp ⊢
      intro j hj
      have hj' : j < ops.size := by simpa using hj
      have h := hp j hj
      rcases Bool.or_eq_true_iff.1 h with h | h
      · have hle : j ≤ k := of_decide_eq_true h
        by_cases e : j = k
        · simp [e]
        · have : listed.getD j true = true := by rw [Array.getD_eq_getD_getElem?, hl j hj']; simp; omega
          simp [this]
      · obtain ⟨oj, hoj⟩ : ∃ oj, ops[j]? = some oj := ⟨_, Array.getElem?_eq_getElem hj'⟩
        simp only [hoj] at h ⊢
        rw [h, Bool.or_true]
    unfold Region.lexFrom
    rw [hr, hf, Bool.true_and, Bool.true_and]
    refine lexFrom_of h2 h3 fuel (k + 1) _ (by omega) (fun i hi => ?_)
    by_cases e : k = i
    · subst e
      rw [Array.getElem?_setIfInBounds]
      have hsz : k < listed.size := by
        have := hl k hkn
        exact (Array.getElem?_eq_some_iff.1 this).1
      simp [hsz]
    · rw [Array.getElem?_setIfInBounds, if_neg e, hl i hi]
      congr 1
      rw [decide_eq_decide]
      omega

theorem lexB_of {ops : Array Oper} (h1 : Region.noSelect ops = true) (h2 : topoB .any ops = true) (h3 : apartB .any ops = true) : Region.lexB .any ops = true := by
  unfold Region.lexB
  rw [h1, Bool.true_and]
  exact lexFrom_of h2 h3 _ _ _ (by omega) (fun i hi => by simp [hi])
end Go.Proofs.Ybulkhdng
