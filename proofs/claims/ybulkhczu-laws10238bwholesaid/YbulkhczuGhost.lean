import Derived.Test.YbulkhczuFr
namespace Go.Proofs.Ybulkhczu

/-- The map's entries f hold just G: no key twice; at each block what G says. -/
def Gm (f : List (Nat × Value)) (G : Nat → Option Value) : Prop := (f.map (·.1)).Nodup ∧ ∀ b, lookF b f = G b

theorem gm_nil : Gm [] (fun _ => none) := ⟨by simp, fun _ => rfl⟩

theorem look_mem (b : Nat) : ∀ (f : List (Nat × Value)), (lookF b f).isSome = true ↔ b ∈ f.map (·.1)
  | [] => by simp [lookF]
  | p :: r => by
    unfold lookF
    by_cases h : p.1 = b
    · simp [h]
    · rw [if_neg h, look_mem b r]
      simp only [List.map_cons, List.mem_cons]
      constructor
      · exact Or.inr
      · rintro (h1 | h1)
        · exact absurd h1.symm h
        · exact h1

theorem look_upd (b c : Nat) (v : Value) : ∀ (f : List (Nat × Value)), lookF c (updF b v f) = if c = b then some v else lookF c f
  | [] => by
    unfold updF lookF
    by_cases h : c = b
    · simp [h]
    · simp [h, Ne.symm h, lookF]
  | p :: r => by
    unfold updF
    by_cases h : p.1 = b
    · rw [if_pos h]
      unfold lookF
      by_cases hc : c = b
      · simp [hc]
      · have hbc : b ≠ c := fun e => hc e.symm
        simp [hc, hbc, h]
    · rw [if_neg h]
      unfold lookF
      by_cases hp : p.1 = c
      · have hcb : c ≠ b := fun e => h (hp.trans e)
        simp [hp, hcb]
      · simp [hp, look_upd b c v r]

theorem keys_upd (b : Nat) (v : Value) : ∀ (f : List (Nat × Value)), (updF b v f).map (·.1) = if b ∈ f.map (·.1) then f.map (·.1) else f.map (·.1) ++ [b]
  | [] => by simp [updF]
  | p :: r => by
    unfold updF
    by_cases h : p.1 = b
    · simp [h]
    · rw [if_neg h]
      simp only [List.map_cons, keys_upd b v r, List.mem_cons]
      have hb : b ≠ p.1 := fun e => h e.symm
      by_cases hm : b ∈ r.map (·.1)
      · simp [hm]
      · simp [hm, hb]

theorem keys_del (b : Nat) : ∀ (f : List (Nat × Value)), (delF b f).map (·.1) = (f.map (·.1)).erase b
  | [] => by simp [delF]
  | p :: r => by
    unfold delF
    by_cases h : p.1 = b
    · simp [h]
    · rw [if_neg h]
      simp only [List.map_cons, keys_del b r]
      rw [List.erase_cons_tail (by simpa using h)]

theorem Gm.upd {f : List (Nat × Value)} {G : Nat → Option Value} (h : Gm f G) (b : Nat) (v : Value) : Gm (updF b v f) (fun c => if c = b then some v else G c) := by
  refine ⟨?_, fun c => ?_⟩
  · rw [keys_upd]
    split
    · exact h.1
    · rename_i hm
      rw [List.nodup_append]
      refine ⟨h.1, by simp, ?_⟩
      intro a ha c hc
      simp at hc
      subst hc
      rintro rfl
      exact hm ha
  · rw [look_upd, h.2]

theorem look_del_ne (b c : Nat) (hcb : c ≠ b) : ∀ (f : List (Nat × Value)), lookF c (delF b f) = lookF c f
  | [] => rfl
  | p :: r => by
    unfold delF
    by_cases h : p.1 = b
    · rw [if_pos h]
      have : p.1 ≠ c := fun e => hcb (e.symm.trans h)
      simp [lookF, this]
    · rw [if_neg h]
      unfold lookF
      simp [look_del_ne b c hcb r]

theorem Gm.del {f : List (Nat × Value)} {G : Nat → Option Value} (h : Gm f G) (b : Nat) : Gm (delF b f) (fun c => if c = b then none else G c) := by
  have hn : ((delF b f).map (·.1)).Nodup := by rw [keys_del]; exact h.1.erase _
  refine ⟨hn, fun c => ?_⟩
  by_cases hc : c = b
  · subst hc
    have : ¬ (lookF c (delF c f)).isSome = true := by
      rw [look_mem, keys_del]
      exact List.Nodup.not_mem_erase h.1
    simpa using this
  · simp only [hc, if_false]
    rw [look_del_ne b c hc, h.2]

theorem nodup_filter {α : Type} {p : α → Bool} {l : List α} (h : l.Nodup) : (l.filter p).Nodup := List.Pairwise.filter p h

theorem nodup_map_on (bk : Nat → Nat) : ∀ (l : List Nat), l.Nodup → (∀ a ∈ l, ∀ b ∈ l, bk a = bk b → a = b) → (l.map bk).Nodup
  | [], _, _ => by simp
  | x :: l, hn, hi => by
    rw [List.nodup_cons] at hn
    rw [List.map_cons, List.nodup_cons]
    refine ⟨?_, nodup_map_on bk l hn.2 (fun a ha b hb => hi a (List.mem_cons_of_mem _ ha) b (List.mem_cons_of_mem _ hb))⟩
    intro hm
    obtain ⟨y, hy, e⟩ := List.mem_map.1 hm
    have := hi y (List.mem_cons_of_mem _ hy) x (List.mem_cons_self ..) e
    exact hn.1 (this ▸ hy)

/-- How many entries: as many as numbers i below n whose block bk i is a key. -/
theorem Gm.length {f : List (Nat × Value)} {G : Nat → Option Value} (h : Gm f G) {n : Nat} {bk : Nat → Nat} {sel : Nat → Bool} (inj : ∀ i j, i < n → j < n → bk i = bk j → i = j)
    (hs : ∀ b, (G b).isSome = true ↔ ∃ i, i < n ∧ sel i = true ∧ bk i = b) : f.length = ((List.range n).filter sel).length := by
  have hp : (f.map (·.1)).Perm (((List.range n).filter sel).map bk) := by
    rw [List.perm_ext_iff_of_nodup h.1]
    · intro b
      rw [← look_mem, h.2, hs]
      simp only [List.mem_map, List.mem_filter, List.mem_range]
      exact ⟨fun ⟨i, a, c, d⟩ => ⟨i, ⟨a, c⟩, d⟩, fun ⟨i, ⟨a, c⟩, d⟩ => ⟨i, a, c, d⟩⟩
    · refine nodup_map_on bk _ (nodup_filter List.nodup_range) ?_
      intro a ha b hb e
      exact inj a b (List.mem_range.1 (List.mem_filter.1 ha).1) (List.mem_range.1 (List.mem_filter.1 hb).1) e
  have := hp.length_eq
  simpa using this
end Go.Proofs.Ybulkhczu
