import Derived.Test.YbulkhczuA1
namespace Go.Proofs.Ybulkhczu
open Go.RowKit
open Go.ChangeMaps (setBlock)

theorem Yba.info26 : (Yba.prog.info? 26).map (fun i => (i.zero, i.size, i.bytes)) = some (some (.pointer none), 1, 8) := by kernel_rfl
theorem Yba.info3 : (Yba.prog.info? 3).map (fun i => (i.zero, i.size, i.bytes)) = some (some (.int .i64 0), 1, 8) := by kernel_rfl
theorem Yba.info4 : (Yba.prog.info? 4).map (fun i => (i.zero, i.size, i.bytes)) = some (some (.bool false), 1, 1) := by kernel_rfl

def sessCells (b : Bool) : Array Value := #[.string ⟨#[115]⟩, .string ⟨#[]⟩, .bool false, .string ⟨#[]⟩, .string ⟨#[]⟩, .pointer none, .slice none 0 0, .bool false, .bool b, .bool false]

/-- The i-th session's pointer, of the first k; nil behind. -/
def ssV (B k : Nat) (i : Nat) : Value := if i < k then .pointer (some ⟨B + 1 + i, 0, none⟩) else .pointer none

structure P1 (B n : Nat) (st : Nat → Bool) (k : Nat) (w wr : World) : Prop where
  size : wr.heap.size = B + 1 + k
  row : wr.heap[B]? = some (.cells (rowF n (ssV B k)) 26 (0, 0))
  sess : ∀ i, i < k → wr.heap[B + 1 + i]? = some (.cells (sessCells (st i)) 30 (0, 0))
  bel : Below B w wr

theorem P1.start (n : Nat) (st : Nat → Bool) (w : World) : P1 w.heap.size n st 0 w (w.alloc (.cells (rowF n (fun _ => .pointer none)) 26)) :=
  ⟨by simp, by rw [blk_new]; congr 2, fun i hi => by omega, (Below.refl _ _).alloc (Nat.le_refl _) _⟩

theorem P1.step {B n : Nat} {st : Nat → Bool} {k : Nat} {w wr : World} (h : P1 B n st k w wr) :
    P1 B n st (k + 1) w ((wr.setCell ⟨B, k, none⟩ (.pointer (some ⟨wr.heap.size, 0, none⟩))).alloc (.cells (sessCells (st k)) 30)) := by
  have hs := h.size
  refine ⟨by simp; omega, ?_, fun i hi => ?_, (h.bel.setCell (Nat.le_refl _) _).alloc (by rw [size_setCell]; omega) _⟩
  · rw [Below.heap_alloc _ _ _ (by rw [size_setCell]; omega), blk_setCell h.row, rowF_set]
    congr 2
    apply rowF_congr
    intro i _
    unfold ssV
    by_cases hi : i = k
    · subst hi; simp [hs]
    · by_cases hik : i < k
      · simp [hi, hik, show i < k + 1 by omega]
      · simp [hi, hik, show ¬ i < k + 1 by omega]
  · by_cases hik : i < k
    · rw [Below.heap_alloc _ _ _ (by rw [size_setCell]; omega), Below.heap_setCell _ _ _ _ (by simp; omega)]
      exact h.sess i hik
    · obtain rfl : i = k := by omega
      have := blk_new (wr.setCell ⟨B, i, none⟩ (.pointer (some ⟨wr.heap.size, 0, none⟩))) (.cells (sessCells (st i)) 30)
      rw [size_setCell, hs] at this
      rw [hs]
      exact this

theorem new_at (w : World) (N : Nat) (hN : w.heap.size = N) : Calls Yba.prog 5 #[] w fun e w' => e = .returned (.pointer (some ⟨N + 2, 0, none⟩)) ∧
    w'.heap.size = N + 3 ∧ Fr [] w w' ∧ PMap w' N [] ∧ w'.heap[N + 1]? = some (.chan 1 #[] false 0 0 false) ∧ w'.heap[N + 2]? = some (.cells (rwCells N (N + 1) 0 0) 63 (0, 0)) := by
  subst hN
  exact new_any w

def peerCells : Array Value := #[.pointer none, .nilIface, .string ⟨#[]⟩, .string ⟨#[112]⟩, .bool false, .int .u64 0, .int .i64 0, .pointer none, .int .u64 0, .int .i64 0, .pointer none, .int .i64 0, .map none, .chan none, .chan none, .int .i32 0, .int .u32 0, .map none, .int .u64 0, .int .i64 0, .pointer none, .pointer none, .chan none, .nilIface]

/-- What is laid at a session by its code. -/
def cv (p : Nat) (c : Int) : Option Value := if c = 1 then some (.pointer none) else if c = 2 then some (.pointer (some ⟨p, 0, none⟩)) else none

/-- What 'left' holds at block b when the first k sessions have been laid by their codes. -/
def GL (B n : Nat) (code : Nat → Int) (k b : Nat) : Option Value := if B + 1 ≤ b ∧ b < B + 1 + k then cv (B + 1 + n) (code (b - (B + 1))) else none

def codeV (code : Nat → Int) (k i : Nat) : Value := .int .i64 (if i < k then code i else 0)

structure P2 (B L n : Nat) (st : Nat → Bool) (code : Nat → Int) (aw re : Int) (kc kl : Nat) (w wr : World) : Prop where
  eL : L = B + 2 + n
  size : wr.heap.size = L + 4
  row : wr.heap[B]? = some (.cells (rowF n (ssV B n)) 26 (0, 0))
  sess : ∀ i, i < n → wr.heap[B + 1 + i]? = some (.cells (sessCells (st i)) 30 (0, 0))
  peer : wr.heap[B + 1 + n]? = some (.cells peerCells 57 (0, 0))
  left : ∃ f, PMap wr L f ∧ Gm f (GL B n code kl)
  chan : wr.heap[L + 1]? = some (.chan 1 #[] false 0 0 false)
  rw : wr.heap[L + 2]? = some (.cells (rwCells L (L + 1) aw re) 63 (0, 0))
  codes : wr.heap[L + 3]? = some (.cells (rowF n (codeV code kc)) 3 (0, 0))
  bel : Below B w wr

theorem P2.start {B L n : Nat} {st : Nat → Bool} {code : Nat → Int} {aw re : Int} {w wr w2 : World} (eL : L = B + 2 + n) (h : P1 B n st n w wr) (hs2 : w2.heap.size = L + 3) (hf2 : Fr [] (wr.alloc (.cells peerCells 57)) w2) (hm2 : PMap w2 L [])
    (hch2 : w2.heap[L + 1]? = some (.chan 1 #[] false 0 0 false)) (hrw2 : w2.heap[L + 2]? = some (.cells (rwCells L (L + 1) 0 0) 63 (0, 0))) :
    P2 B L n st code aw re 0 0 w (((w2.setCell ⟨L + 2, 1, none⟩ (.int .i64 aw)).setCell ⟨L + 2, 2, none⟩ (.int .i64 re)).alloc (.cells (rowF n (fun _ => .int .i64 0)) 3)) := by
  have hs := h.size
  have hp := blk_new wr (.cells peerCells 57)
  have f1 : Fr [L + 2] w2 (((w2.setCell ⟨L + 2, 1, none⟩ (.int .i64 aw)).setCell ⟨L + 2, 2, none⟩ (.int .i64 re)).alloc (.cells (rowF n (fun _ => .int .i64 0)) 3)) :=
    (((Fr.refl _ _).setCell (by simp) _).setCell (by simp) _).alloc _
  have f0 : Fr [L + 2] wr (((w2.setCell ⟨L + 2, 1, none⟩ (.int .i64 aw)).setCell ⟨L + 2, 2, none⟩ (.int .i64 re)).alloc (.cells (rowF n (fun _ => .int .i64 0)) 3)) :=
    (((Fr.refl _ _).alloc _).trans (hf2.mono (by simp))).trans f1
  have e2 : ((w2.setCell ⟨L + 2, 1, none⟩ (.int .i64 aw)).setCell ⟨L + 2, 2, none⟩ (.int .i64 re)).heap.size = L + 3 := by rw [size_setCell, size_setCell, hs2]
  refine ⟨eL, by simp [hs2], f0.block h.row (by simp; omega), fun i hi => f0.block (h.sess i hi) (by simp; omega), ?_, ⟨[], hm2.fr f1 (by simp), ?_⟩, f1.block hch2 (by simp), ?_, ?_, h.bel.trans (f0.below (by omega) (by simp; omega))⟩
  · exact f1.block (hf2.block (by rw [hs] at hp; exact hp) (by simp)) (by simp; omega)
  · refine ⟨by simp, fun b => ?_⟩
    unfold GL
    rw [if_neg (by omega)]
    rfl
  · rw [Below.heap_alloc _ _ _ (by omega), blk_setCell (blk_setCell hrw2 _) _]
    rfl
  · have := blk_new ((w2.setCell ⟨L + 2, 1, none⟩ (.int .i64 aw)).setCell ⟨L + 2, 2, none⟩ (.int .i64 re)) (.cells (rowF n (fun _ => .int .i64 0)) 3)
    rw [e2] at this
    rw [this]
    congr 2

theorem P2.code {B L n : Nat} {st : Nat → Bool} {code : Nat → Int} {aw re : Int} {k : Nat} {w wr : World} (h : P2 B L n st code aw re k k w wr) :
    P2 B L n st code aw re (k + 1) k w (wr.setCell ⟨L + 3, k, none⟩ (.int .i64 (code k))) := by
  have eL := h.eL
  have f1 : Fr [L + 3] wr (wr.setCell ⟨L + 3, k, none⟩ (.int .i64 (code k))) := (Fr.refl _ _).setCell (by simp) _
  have hs := h.size
  obtain ⟨f, hf, hg⟩ := h.left
  refine ⟨eL, by rw [size_setCell]; exact hs, f1.block h.row (by simp; omega), fun i hi => f1.block (h.sess i hi) (by simp; omega), f1.block h.peer (by simp; omega), ⟨f, hf.fr f1 (by simp), hg⟩, f1.block h.chan (by simp), f1.block h.rw (by simp), ?_, h.bel.trans (f1.below (by omega) (by simp; omega))⟩
  rw [blk_setCell h.codes, rowF_set]
  congr 2
  apply rowF_congr
  intro i _
  unfold codeV
  by_cases hi : i = k
  · subst hi; simp
  · by_cases hik : i < k
    · simp [hi, hik, show i < k + 1 by omega]
    · simp [hi, hik, show ¬ i < k + 1 by omega]

theorem GL_step (B n : Nat) (code : Nat → Int) (k b : Nat) : GL B n code (k + 1) b = if b = B + 1 + k then cv (B + 1 + n) (code k) else GL B n code k b := by
  unfold GL
  by_cases hb : b = B + 1 + k
  · subst hb
    rw [if_pos (by omega), if_pos rfl]
    congr 2
    omega
  · rw [if_neg hb]
    by_cases h1 : B + 1 ≤ b ∧ b < B + 1 + k
    · rw [if_pos h1, if_pos (by omega)]
    · rw [if_neg h1, if_neg (by omega)]

theorem GL_at (B n : Nat) (code : Nat → Int) (k : Nat) : GL B n code k (B + 1 + k) = none := by
  unfold GL; rw [if_neg (by omega)]

theorem P2.skip {B L n : Nat} {st : Nat → Bool} {code : Nat → Int} {aw re : Int} {k : Nat} {w wr : World} (h : P2 B L n st code aw re (k + 1) k w wr) (hc : cv (B + 1 + n) (code k) = none) :
    P2 B L n st code aw re (k + 1) (k + 1) w wr := by
  obtain ⟨f, hf, hg⟩ := h.left
  refine ⟨h.eL, h.size, h.row, h.sess, h.peer, ⟨f, hf, hg.1, fun b => ?_⟩, h.chan, h.rw, h.codes, h.bel⟩
  rw [hg.2, GL_step]
  by_cases hb : b = B + 1 + k
  · rw [if_pos hb, hb, GL_at, hc]
  · rw [if_neg hb]

theorem P2.put {B L n : Nat} {st : Nat → Bool} {code : Nat → Int} {aw re : Int} {k : Nat} {w wr : World} (h : P2 B L n st code aw re (k + 1) k w wr) {v : Value} (hc : cv (B + 1 + n) (code k) = some v) {f : List (Nat × Value)} (hf : PMap wr L f) (hg : Gm f (GL B n code k))
    {es : Array MapEntry} {c : Nat} {W : World} (hW : W.heap = wr.heap) (hWo : W.os = wr.os) (hWt : W.tape = wr.tape) (hWp : W.output = wr.output) (hp : PMap (setBlock W L (.map es c)) L (updF (B + 1 + k) v f)) :
    P2 B L n st code aw re (k + 1) (k + 1) w (setBlock W L (.map es c)) := by
  have eL := h.eL
  have f0 : Fr [L] wr W := ⟨hWo, hWt, hWp, by rw [hW]; exact Nat.le_refl _, fun _ _ _ => by rw [hW], fun _ hk => hk.heap hW⟩
  have hfW : PMap W L f := by
    obtain ⟨es0, c0, h1, h2⟩ := hf
    exact ⟨es0, c0, by rw [hW]; exact h1, h2.heap hW⟩
  have f1 : Fr [L] wr (setBlock W L (.map es c)) := f0.setMap (by simp) hfW es c
  refine ⟨eL, ?_, f1.block h.row (by simp; omega), fun i hi => f1.block (h.sess i hi) (by simp; omega), f1.block h.peer (by simp; omega), ⟨_, hp, ?_⟩, f1.block h.chan (by simp), f1.block h.rw (by simp), f1.block h.codes (by simp), h.bel.trans (f1.below (by have := h.size; omega) (by simp; omega))⟩
  · simp [setBlock, hW, h.size]
  · have hu := hg.upd (B + 1 + k) v
    refine ⟨hu.1, fun b => ?_⟩
    rw [hu.2, GL_step, hc]

end Go.Proofs.Ybulkhczu
