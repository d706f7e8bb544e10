import Derived.Test.YbulkhczuA4
namespace Go.Proofs.Ybulkhczu
open Go.RowKit
open Go.ChangeMaps (setBlock)

theorem len_chan {W : World} {c : Nat} (h : W.heap[c]? = some (.chan 1 #[] false 0 0 false)) : (Builtin.len_ #[41] 3 #[.chan (some c)]).run Yba.prog W = .ok (.int .i64 0) W := by
  have hg : (getObj c).run Yba.prog W = .ok (.chan 1 #[] false 0 0 false) W := by simp [getObj, Sem.run, h]
  simp [Builtin.len_, run_underlying Yba.underlying41, hg, goInt]

theorem neq_ptr26 (W : World) (b : Nat) : (binOp .neq 26 (.pointer (some ⟨b, 0, none⟩)) (.pointer (some ⟨b, 0, none⟩))).run Yba.prog W = .ok (.bool false) W := by
  obtain ⟨j30, hj30, _⟩ := info30
  have h : ∀ d : Nat, (Op.equalIn (d + 1) 26 (.pointer (some ⟨b, 0, none⟩)) (.pointer (some ⟨b, 0, none⟩))).run Yba.prog W = .ok true W := fun d => by
    simp [Op.equalIn, run_underlying Yba.underlying26, sizeOf, typeInfo, hj30, run_sameAddr_same]
  simp only [binOp]
  simp [Op.equal, Op.maxDepth, h 9999]

section
variable {B L n : Nat} {st : Nat → Bool} {code : Nat → Int} {aw re : Int} {idx : Nat → Nat} {len1 k : Nat} {w wr wr' : World}

theorem watch_A {H N : Nat} {mo : Option Nat} {f0 f1 : List (Nat × Value)} (h : P4 B L n st code aw re idx len1 k H N mo 0 w wr) (hf : PMap wr L f1) (hwm : WM wr mo f0) (hmo : mo = none ∨ mo = some (N + 4)) (hidx : ∀ j, j < k → idx j < n) (hk : k ≤ 1048576) :
    Calls Yba.prog 6 #[.pointer (some ⟨N + 3, 0, none⟩), .pointer (some ⟨L + 2, 0, none⟩), .slice (some ⟨L + 4, 0, none⟩) k len1] wr fun e w' => e = .returned (.tuple #[]) ∧
      ∃ m, P4 B L n st code aw re idx len1 k H N (some m) 0 w w' ∧ PMap w' m (updF (L + 2) (.bool true) f0) ∧ PMap w' L (leftTo (fun j => B + 1 + idx j) (fun j => st (idx j)) f1 k) := by
  have eL := h.pb.eL
  have hH := h.hH
  have hN := h.hN
  have hs := h.size
  refine (watch_some (N + 3) (L + 2) L (L + 4) 0 k len1 mo (.int .i64 3) (.string ⟨#[104]⟩) (.int .i64 0) f0 f1 (fun j => B + 1 + idx j) (fun j => st (idx j)) wr h.sto hwm.1 hwm.2 (blk_isCells h.pb.rw) (cell_of_blk h.pb.rw rfl) hf ?_ (by omega) (by omega) hk ?_ ?_).mono ?_
  · rcases hmo with h1 | h1 <;> rw [h1]
    · simp
    · simp; omega
  · intro i hi
    rw [Nat.zero_add]
    exact h.pb.argCell hi
  · intro i hi
    have hin := hidx i hi
    exact ⟨by omega, blk_isCells (h.pb.sess _ hin), cell_of_blk (h.pb.sess _ hin) rfl⟩
  · rintro e w' ⟨rfl, m, hm, hst, hpm, hpl, hfr⟩
    refine ⟨rfl, m, h.fr hfr ?_ hst, hpm, hpl⟩
    intro s hs1
    simp at hs1
    rcases hs1 with h1 | h1 | h1
    · exact Or.inr (by omega)
    · exact Or.inl h1
    · refine Or.inr ?_
      rcases hm with h2 | ⟨_, h2⟩
      · rcases hmo with h3 | h3
        · rw [h3] at h2; cases h2
        · rw [h3] at h2; cases h2; omega
      · omega

/-- What 'left' holds at last. -/
def GF (B n : Nat) (st : Nat → Bool) (code : Nat → Int) (idx : Nat → Nat) (k b : Nat) : Option Value :=
  if B + 1 ≤ b ∧ b < B + 1 + n then (if pickedB idx k (b - (B + 1)) && st (b - (B + 1)) then some (.pointer none) else cv (B + 1 + n) (code (b - (B + 1)))) else none

theorem GF_zero (B n : Nat) (st : Nat → Bool) (code : Nat → Int) (idx : Nat → Nat) (b : Nat) : GF B n st code idx 0 b = GL B n code n b := by
  unfold GF GL
  simp [pickedB]

theorem GF_succ (B n : Nat) (st : Nat → Bool) (code : Nat → Int) (idx : Nat → Nat) (k b : Nat) (hk : idx k < n) :
    GF B n st code idx (k + 1) b = if st (idx k) then (if b = B + 1 + idx k then some (.pointer none) else GF B n st code idx k b) else GF B n st code idx k b := by
  unfold GF
  rw [picked_succ]
  by_cases hb : b = B + 1 + idx k
  · subst hb
    have e1 : B + 1 + idx k - (B + 1) = idx k := by omega
    rw [if_pos (by omega), e1]
    by_cases hs : st (idx k) = true
    · simp [hs]
    · have hs' : st (idx k) = false := by simpa using hs
      simp [hs']
      intro h1
      omega
  · by_cases hr : B + 1 ≤ b ∧ b < B + 1 + n
    · have hne : (idx k == b - (B + 1)) = false := by
        rw [beq_eq_false_iff_ne]; omega
      rw [if_pos hr, hne, Bool.or_false]
      by_cases hs : st (idx k) = true
      · simp [hs, hb, hr]
      · simp [hs, hr]
    · rw [if_neg hr]
      by_cases hs : st (idx k) = true
      · simp [hs, hb, hr]
      · simp [hs, hr]

theorem gm_left {f1 : List (Nat × Value)} (hg : Gm f1 (GL B n code n)) : ∀ (k : Nat), (∀ j, j < k → idx j < n) → Gm (leftTo (fun j => B + 1 + idx j) (fun j => st (idx j)) f1 k) (GF B n st code idx k)
  | 0, _ => ⟨hg.1, fun b => by rw [GF_zero]; exact hg.2 b⟩
  | k + 1, hi => by
    have ih := gm_left hg k (fun j hj => hi j (by omega))
    have hk := hi k (by omega)
    unfold leftTo
    by_cases hs : st (idx k) = true
    · rw [if_pos hs]
      have hu := ih.upd (B + 1 + idx k) (.pointer none)
      exact ⟨hu.1, fun b => by rw [hu.2, GF_succ B n st code idx k b hk, if_pos hs]⟩
    · rw [if_neg hs]
      exact ⟨ih.1, fun b => by rw [ih.2, GF_succ B n st code idx k b hk, if_neg hs]⟩

theorem GF_at (B n : Nat) (st : Nat → Bool) (code : Nat → Int) (idx : Nat → Nat) (k : Nat) {i : Nat} (hi : i < n) :
    GF B n st code idx k (B + 1 + i) = if pickedB idx k i && st i then some (.pointer none) else cv (B + 1 + n) (code i) := by
  unfold GF
  rw [if_pos (by omega), show B + 1 + i - (B + 1) = i from by omega]

/-- Is session i in 'left' at last? -/
def okB (st : Nat → Bool) (code : Nat → Int) (idx : Nat → Nat) (k i : Nat) : Bool := (pickedB idx k i && st i) || (code i == 1) || (code i == 2)

theorem GF_some (B n : Nat) (st : Nat → Bool) (code : Nat → Int) (idx : Nat → Nat) (k b : Nat) : (GF B n st code idx k b).isSome = true ↔ ∃ i, i < n ∧ okB st code idx k i = true ∧ B + 1 + i = b := by
  constructor
  · intro h
    unfold GF at h
    split at h
    · rename_i hr
      refine ⟨b - (B + 1), by omega, ?_, by omega⟩
      unfold okB
      generalize b - (B + 1) = i at h
      by_cases hp : (pickedB idx k i && st i) = true
      · simp [hp]
      · rw [if_neg hp] at h
        unfold cv at h
        by_cases h1 : code i = 1
        · simp [h1]
        · rw [if_neg h1] at h
          by_cases h2 : code i = 2
          · simp [h2]
          · rw [if_neg h2] at h; cases h
    · cases h
  · rintro ⟨i, hi, ho, rfl⟩
    rw [GF_at B n st code idx k hi]
    unfold okB at ho
    by_cases hp : (pickedB idx k i && st i) = true
    · simp [hp]
    · rw [if_neg hp]
      unfold cv
      by_cases h1 : code i = 1
      · simp [h1]
      · rw [if_neg h1]
        by_cases h2 : code i = 2
        · simp [h2]
        · simp [h1, h2] at ho
          simp [ho] at hp

theorem len_left {f : List (Nat × Value)} (hg : Gm f (GF B n st code idx k)) : f.length = ((List.range n).filter (okB st code idx k)).length :=
  hg.length (bk := fun i => B + 1 + i) (fun i j _ _ e => by omega) (fun b => GF_some B n st code idx k b)

/-- How many of the first k sessions are in 'left'. -/
def cnt (st : Nat → Bool) (code : Nat → Int) (idx : Nat → Nat) (k i : Nat) : Nat := ((List.range i).filter (okB st code idx k)).length

theorem cnt_succ (st : Nat → Bool) (code : Nat → Int) (idx : Nat → Nat) (k i : Nat) : cnt st code idx k (i + 1) = cnt st code idx k i + if okB st code idx k i then 1 else 0 := by
  unfold cnt
  rw [List.range_succ, List.filter_append]
  by_cases h : okB st code idx k i = true
  · simp [h]
  · simp [h]

theorem cnt_le (st : Nat → Bool) (code : Nat → Int) (idx : Nat → Nat) (k i : Nat) : cnt st code idx k i ≤ i := by
  unfold cnt
  have := List.length_filter_le (okB st code idx k) (List.range i)
  simpa using this

/-- The peer that session i is awaited on at last. -/
def expP (B n : Nat) (st : Nat → Bool) (code : Nat → Int) (idx : Nat → Nat) (k i : Nat) : Option Addr :=
  if pickedB idx k i && st i then none else if code i = 2 then some ⟨B + 1 + n, 0, none⟩ else none

theorem GF_val (B n : Nat) (st : Nat → Bool) (code : Nat → Int) (idx : Nat → Nat) (k : Nat) {i : Nat} (hi : i < n) :
    (GF B n st code idx k (B + 1 + i)).getD (.pointer none) = .pointer (expP B n st code idx k i) ∧ (GF B n st code idx k (B + 1 + i)).isSome = okB st code idx k i := by
  rw [GF_at B n st code idx k hi]
  unfold expP okB cv
  by_cases hp : (pickedB idx k i && st i) = true
  · simp [hp]
  · have hp' : (pickedB idx k i && st i) = false := by simpa using hp
    rw [hp']
    by_cases h1 : code i = 1
    · simp [h1]
    · by_cases h2 : code i = 2
      · simp [h2]
      · simp [h1, h2]

theorem no_pick {st : Nat → Bool} {idx : Nat → Nat} {k i : Nat} (h : pickedB idx k i = false ∨ st i = false) : (pickedB idx k i && st i) = false := by
  rcases h with h | h <;> simp [h]

theorem exA {B n : Nat} {st : Nat → Bool} {code : Nat → Int} {idx : Nat → Nat} {k i : Nat} (h : pickedB idx k i = true ∧ st i = true) : okB st code idx k i = true ∧ expP B n st code idx k i = none := by
  unfold okB expP; simp [h.1, h.2]
theorem exB {B n : Nat} {st : Nat → Bool} {code : Nat → Int} {idx : Nat → Nat} {k i : Nat} (h : pickedB idx k i = false ∨ st i = false) (h1 : (code i == 1) = true) : okB st code idx k i = true ∧ expP B n st code idx k i = none := by
  have e : code i = 1 := by simpa using h1
  unfold okB expP; rw [no_pick h, e]; simp
theorem exC {B n : Nat} {st : Nat → Bool} {code : Nat → Int} {idx : Nat → Nat} {k i : Nat} (h : pickedB idx k i = false ∨ st i = false) (h2 : (code i == 2) = true) : okB st code idx k i = true ∧ expP B n st code idx k i = some ⟨B + 1 + n, 0, none⟩ := by
  have e : code i = 2 := by simpa using h2
  unfold okB expP; rw [no_pick h, e]; simp
theorem exD {B n : Nat} {st : Nat → Bool} {code : Nat → Int} {idx : Nat → Nat} {k i : Nat} (h : pickedB idx k i = false ∨ st i = false) (h1 : (code i == 1) = false) (h2 : (code i == 2) = false) : okB st code idx k i = false ∧ expP B n st code idx k i = none := by
  have e : ¬ code i = 2 := by simpa using h2
  unfold okB expP; rw [no_pick h, h1, h2]; simp [e]

theorem neq_ptr27 (W : World) (p : Option Addr) : (binOp .neq 27 (.pointer p) (.pointer p)).run Yba.prog W = .ok (.bool false) W := by
  obtain ⟨j57, hj57⟩ : ∃ j, Yba.prog.info? 57 = some j := by
    have h : (Yba.prog.info? 57).isSome = true := by kernel_rfl
    exact Option.isSome_iff_exists.1 h
  cases p with
  | none =>
    have h : ∀ d : Nat, (Op.equalIn (d + 1) 27 (.pointer none) (.pointer none)).run Yba.prog W = .ok true W := fun d => by
      simp [Op.equalIn, run_underlying Yba.underlying27]
    simp only [binOp]
    simp [Op.equal, Op.maxDepth, h 9999]
  | some a =>
    have h : ∀ d : Nat, (Op.equalIn (d + 1) 27 (.pointer (some a)) (.pointer (some a))).run Yba.prog W = .ok true W := fun d => by
      simp [Op.equalIn, run_underlying Yba.underlying27, sizeOf, typeInfo, hj57, run_sameAddr_same]
    simp only [binOp]
    simp [Op.equal, Op.maxDepth, h 9999]

theorem watches_len {N L : Nat} {f0 : List (Nat × Value)} {sel : Int} (hN : L + 6 < N) (h : f0 = if sel = 2 then [(N + 2, .bool true)] else []) :
    (sel = 2 → (updF (L + 2) (.bool true) f0).length = 2 ∧ lookF (N + 2) (updF (L + 2) (.bool true) f0) = some (.bool true)) ∧ (sel ≠ 2 → (updF (L + 2) (.bool true) f0).length = 1) := by
  constructor
  · intro hs
    rw [if_pos hs] at h
    subst h
    have h1 : ¬ N = L := by omega
    simp [updF, lookF, h1]
  · intro hs
    rw [if_neg hs] at h
    subst h
    rfl
end
end Go.Proofs.Ybulkhczu
