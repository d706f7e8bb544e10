import Derived.Test.YbulkhdaiModel
namespace Go.Proofs.Ybulkhdai
open Go.RowKit

theorem Yba.info27 : (Yba.prog.info? 27).map (fun i => (i.zero, i.size, i.bytes)) = some (some (.agg #[.string ⟨#[]⟩, .string ⟨#[]⟩, .slice none 0 0, .string ⟨#[]⟩, .int .i64 0, .int .i64 0, .int .i64 0]), 7, 96) := by kernel_rfl

def Rsp.zero : Rsp := ⟨⟨#[]⟩, ⟨#[]⟩, none, 0, 0, ⟨#[]⟩, 0, 0, 0⟩
def rcell (d : Rsp) (c : Nat) : Value := if c = 0 then .string d.tx else if c = 1 then .string d.rf else if c = 2 then .slice d.ta d.tl d.tc else if c = 3 then .string d.fi else if c = 4 then .int .i64 d.u0 else if c = 5 then .int .i64 d.u1 else .int .i64 d.u2
def cpV (E : Nat → Rsp) (k x : Nat) : Value := if x / 7 < k then rcell (E (x / 7)) (x % 7) else rcell Rsp.zero (x % 7)

theorem seven {c : Nat} (h : c < 7) : c = 0 ∨ c = 1 ∨ c = 2 ∨ c = 3 ∨ c = 4 ∨ c = 5 ∨ c = 6 := by omega

theorem made7 (n : Nat) : madeCells (rcells Rsp.zero) n = rowF n (fun x => rcell Rsp.zero (x % 7)) := by
  apply Array.ext
  · simp [rowF, madeCells]
  · intro j h1 h2
    simp [rowF, madeCells, rcells]
    rcases seven (show j % 7 < 7 by omega) with h | h | h | h | h | h | h <;> simp [h, rcell]

theorem make22 (n : Nat) (hn : n ≤ 65536) (w : World) : (Instr.makeSlice 22 (.int .i64 n) (.int .i64 n)).run Yba.prog w = .ok (.slice (some ⟨w.heap.size, 0, none⟩) n n) (w.alloc (.cells (rowF (n * 7) (cpV (fun _ => Rsp.zero) 0)) 27)) := by
  obtain ⟨i27, hi, hz, hs, hb⟩ := info_parts Yba.info27
  have := run_make (P := Yba.prog) w 22 27 i27 _ Yba.underlying22 hi hz .i64 .i64 (n : Int) (n : Int) (by omega) (by omega) (by rw [hb]; omega) (by omega)
  rw [this, hs]
  have e : madeCells (Value.agg (rcells Rsp.zero)).cells (n * 7) = rowF (n * 7) (cpV (fun _ => Rsp.zero) 0) := by
    rw [show (Value.agg (rcells Rsp.zero)).cells = rcells Rsp.zero from rfl, made7]
    apply rowF_congr
    intro i _
    simp [cpV]
  simp only [rcells, Rsp.zero] at e
  simp [e]
  rfl

theorem cpV_step (E : Nat → Rsp) (k x : Nat) (d : Rsp) (a : Option Addr) (c : Nat) :
    (if x = k * 7 + 2 then Value.slice a d.tl c else if x = k * 7 + 6 then .int .i64 d.u2 else if x = k * 7 + 5 then .int .i64 d.u1 else if x = k * 7 + 4 then .int .i64 d.u0 else if x = k * 7 + 3 then .string d.fi else if x = k * 7 + 2 then .slice d.ta d.tl d.tc else if x = k * 7 + 1 then .string d.rf else if x = k * 7 then .string d.tx else cpV E k x) = cpV (fun j => if j = k then { d with ta := a, tc := c } else E j) (k + 1) x := by
  by_cases h2 : x / 7 = k
  · obtain ⟨c', hc, rfl⟩ : ∃ c', c' < 7 ∧ x = k * 7 + c' := ⟨x % 7, by omega, by omega⟩
    have e1 : (k * 7 + c') / 7 = k := by omega
    have e2 : (k * 7 + c') % 7 = c' := by omega
    unfold cpV
    rw [e1, e2]
    rcases seven hc with rfl | rfl | rfl | rfl | rfl | rfl | rfl <;> simp [rcell]
  · rw [if_neg (by omega), if_neg (by omega), if_neg (by omega), if_neg (by omega), if_neg (by omega), if_neg (by omega), if_neg (by omega), if_neg (by omega)]
    unfold cpV
    by_cases h1 : x / 7 < k
    · rw [if_pos h1, if_pos (show x / 7 < k + 1 by omega)]
      simp only [if_neg h2]
    · rw [if_neg h1, if_neg (show ¬ x / 7 < k + 1 by omega)]

theorem RdT.frS {w w' : World} {S : List Nat} {a : Option Addr} {len : Nat} {T : Nat → Nat → ByteArray} (h : RdT w a len T) (f : Fr S w w') (hS : ∀ b o, a = some ⟨b, o, none⟩ → b ∉ S) : RdT w' a len T := by
  intro h0
  obtain ⟨b, o, ha, hc⟩ := h h0
  exact ⟨b, o, ha, fun j hj c hcc => f.cell (hc j hj c hcc) (hS b o ha)⟩

/-- The copies: their row, and what each leads to. -/
structure Cp (n : Nat) (D : Nat → Rsp) (T : Nat → Nat → Nat → ByteArray) (X k : Nat) (E : Nat → Rsp) (wr : World) : Prop where
  row : wr.heap[X]? = some (.cells (rowF (n * 7) (cpV E k)) 27 (0, 0))
  ent : ∀ i, i < k → ∃ a' c', E i = { D i with ta := a', tc := c' } ∧ RdT wr a' (D i).tl (T i) ∧ ∀ b o, a' = some ⟨b, o, none⟩ → b ≠ X

theorem Cp.fr {n : Nat} {D : Nat → Rsp} {T : Nat → Nat → Nat → ByteArray} {X k : Nat} {E : Nat → Rsp} {w w' : World} (h : Cp n D T X k E w) (f : Fr [] w w') : Cp n D T X k E w' :=
  ⟨f.block h.row (by simp), fun i hi => by obtain ⟨a', c', e1, e2, e3⟩ := h.ent i hi; exact ⟨a', c', e1, e2.fr f, e3⟩⟩

def put7 (wr : World) (X k : Nat) (d : Rsp) : World :=
  ((((((wr.setCell ⟨X, k * 7, none⟩ (.string d.tx)).setCell ⟨X, k * 7 + 1, none⟩ (.string d.rf)).setCell ⟨X, k * 7 + 2, none⟩ (.slice d.ta d.tl d.tc)).setCell ⟨X, k * 7 + 3, none⟩ (.string d.fi)).setCell ⟨X, k * 7 + 4, none⟩ (.int .i64 d.u0)).setCell ⟨X, k * 7 + 5, none⟩ (.int .i64 d.u1)).setCell ⟨X, k * 7 + 6, none⟩ (.int .i64 d.u2)

theorem put7_fr (wr : World) (X k : Nat) (d : Rsp) : Fr [X] wr (put7 wr X k d) :=
  (((((((Fr.refl _ _).setCell (by simp) _).setCell (by simp) _).setCell (by simp) _).setCell (by simp) _).setCell (by simp) _).setCell (by simp) _).setCell (by simp) _

theorem put7_blk {wr : World} {X k : Nat} {c : Array Value} (d : Rsp) (h : wr.heap[X]? = some (.cells c 27 (0, 0))) : ∃ c', (put7 wr X k d).heap[X]? = some (.cells c' 27 (0, 0)) ∧ c'.size = c.size := by
  refine ⟨_, blk_setCell (blk_setCell (blk_setCell (blk_setCell (blk_setCell (blk_setCell (blk_setCell h _) _) _) _) _) _) _, ?_⟩
  simp

theorem row_set {w : World} {X n i : Nat} {v : Nat → Value} (h : w.heap[X]? = some (.cells (rowF n v) 27 (0, 0))) (x : Value) : (w.setCell ⟨X, i, none⟩ x).heap[X]? = some (.cells (rowF n (fun j => if j = i then x else v j)) 27 (0, 0)) := by
  rw [blk_setCell h, rowF_set]

theorem Cp.step {n : Nat} {D : Nat → Rsp} {T : Nat → Nat → Nat → ByteArray} {X k : Nat} {E : Nat → Rsp} {wr w1 : World} {a' : Option Addr} {c' : Nat} (h : Cp n D T X k E wr) (hf : Fr [] (put7 wr X k (D k)) w1) (hr : RdT w1 a' (D k).tl (T k)) (ha : ∀ b o, a' = some ⟨b, o, none⟩ → (put7 wr X k (D k)).heap.size ≤ b) :
    Cp n D T X (k + 1) (fun j => if j = k then { D k with ta := a', tc := c' } else E j) (w1.setCell ⟨X, k * 7 + 2, none⟩ (.slice a' (D k).tl c')) ∧ Fr [X] wr (w1.setCell ⟨X, k * 7 + 2, none⟩ (.slice a' (D k).tl c')) := by
  have f0 := put7_fr wr X k (D k)
  have f1 : Fr [X] wr w1 := f0.trans (hf.mono (by simp))
  have f2 : Fr [X] w1 (w1.setCell ⟨X, k * 7 + 2, none⟩ (.slice a' (D k).tl c')) := (Fr.refl _ _).setCell (by simp) _
  have hXl : X < wr.heap.size := lt_of_block h.row
  have hs0 := f0.size
  refine ⟨⟨?_, fun i hi => ?_⟩, f1.trans f2⟩
  · have h7 := row_set (row_set (row_set (row_set (row_set (row_set (row_set (i := k * 7) h.row (.string (D k).tx)) (i := k * 7 + 1) (.string (D k).rf)) (i := k * 7 + 2) (.slice (D k).ta (D k).tl (D k).tc)) (i := k * 7 + 3) (.string (D k).fi)) (i := k * 7 + 4) (.int .i64 (D k).u0)) (i := k * 7 + 5) (.int .i64 (D k).u1)) (i := k * 7 + 6) (.int .i64 (D k).u2)
    have h8 := row_set (i := k * 7 + 2) (hf.block h7 (by simp)) (.slice a' (D k).tl c')
    refine h8.trans ?_
    rw [rowF_congr (fun x _ => cpV_step E k x (D k) a' c')]
  · by_cases hik : i = k
    · subst hik
      refine ⟨a', c', by simp, hr.frS f2 (fun b o e => ?_), fun b o e => ?_⟩
      · have := ha b o e; simp; omega
      · have := ha b o e; omega
    · obtain ⟨a2, c2, e1, e2, e3⟩ := h.ent i (by omega)
      exact ⟨a2, c2, by simp only [if_neg hik]; exact e1, e2.frS (f1.trans f2) (fun b o e => by have := e3 b o e; simpa using this), e3⟩

/-- Reading the copies' row. -/
theorem Cp.cells {n : Nat} {D : Nat → Rsp} {T : Nat → Nat → Nat → ByteArray} {X : Nat} {E : Nat → Rsp} {w : World} (h : Cp n D T X n E w) {k : Nat} (hk : k < n) : Cells7 w X (k * 7) (E k) := by
  have g : ∀ c, c < 7 → w.cell? ⟨X, k * 7 + c, none⟩ = some (rcell (E k) c) := fun c hc => by
    have := cell_of_blk h.row (rowF_get (v := cpV E n) (i := k * 7 + c) (by omega))
    rw [this]
    unfold cpV
    rw [show (k * 7 + c) / 7 = k by omega, show (k * 7 + c) % 7 = c by omega, if_pos hk]
  exact ⟨g 0 (by omega), g 1 (by omega), g 2 (by omega), g 3 (by omega), g 4 (by omega), g 5 (by omega), g 6 (by omega)⟩

theorem run_equalIn_fn (W : World) (d : Nat) (f : Fn) (fs cs : Array Value) : (Op.equalIn (d + 1) 52 (.func f fs cs) .nilFunc).run Yba.prog W = .ok false W := by
  simp [Op.equalIn, run_underlying Yba.underlying52]

theorem run_eql_fn (W : World) (f : Fn) (fs cs : Array Value) : (binOp .eql 52 (.func f fs cs) .nilFunc).run Yba.prog W = .ok (.bool false) W := by
  simp only [binOp]
  simp [Op.equal, Op.maxDepth, run_equalIn_fn W 9999 f fs cs]
end Go.Proofs.Ybulkhdai
