import Derived.Test.YbulkhczuB3
import Derived.Test.YbulkhczuA1
namespace Go.Proofs.Ybulkhczu
open Go.RowKit Go.MuLone
open Go.ChangeMaps (setBlock)

/-- A watch as newReleaseWatch made it, from block N on. -/
def Wt (w : World) (N : Nat) : Prop := PMap w N [] ∧ w.heap[N + 1]? = some (.chan 1 #[] false 0 0 false) ∧ w.heap[N + 2]? = some (.cells (rwCells N (N + 1) 0 0) 63 (0, 0))

theorem Wt.fr {S : List Nat} {w w' : World} {N : Nat} (h : Wt w N) (f : Fr S w w') (hS : ∀ s ∈ S, s < N ∨ N + 3 ≤ s) : Wt w' N :=
  ⟨h.1.fr f (fun hm => by have := hS _ hm; omega), f.block h.2.1 (fun hm => by have := hS _ hm; omega), f.block h.2.2 (fun hm => by have := hS _ hm; omega)⟩

theorem new_wt (w : World) (N : Nat) (hN : w.heap.size = N) : Calls Yba.prog 5 #[] w fun e w' => e = .returned (.pointer (some ⟨N + 2, 0, none⟩)) ∧ w'.heap.size = N + 3 ∧ Fr [] w w' ∧ Wt w' N := by
  subst hN
  refine (new_any w).mono ?_
  rintro e w' ⟨rfl, h1, h2, h3, h4, h5⟩
  exact ⟨rfl, h1, h2, h3, h4, h5⟩

def poolV (B k i : Nat) : Value := if i < k then .pointer (some ⟨B + 4 + 3 * i, 0, none⟩) else .pointer none

structure Q1 (B : Nat) (mg ho en : Value) (k : Nat) (w wr : World) : Prop where
  size : wr.heap.size = B + 2 + 3 * k
  st : wr.heap[B]? = some (.cells (stCells mg ho 0 en none) 71 (0, 0))
  pool : wr.heap[B + 1]? = some (.cells (rowF 6 (poolV B k)) 76 (0, 0))
  ws : ∀ i, i < k → Wt wr (B + 2 + 3 * i)
  bel : Below B w wr

theorem Q1.start (mg ho en : Value) (w : World) : Q1 w.heap.size mg ho en 0 w ((w.alloc (.cells (stCells mg ho 0 en none) 71)).alloc (.cells #[.pointer none, .pointer none, .pointer none, .pointer none, .pointer none, .pointer none] 76)) := by
  have b1 := blk_new w (.cells (stCells mg ho 0 en none) 71)
  have b2 := blk_new (w.alloc (.cells (stCells mg ho 0 en none) 71)) (.cells #[.pointer none, .pointer none, .pointer none, .pointer none, .pointer none, .pointer none] 76)
  rw [show (w.alloc (.cells (stCells mg ho 0 en none) 71)).heap.size = w.heap.size + 1 by simp] at b2
  refine ⟨by simp, ?_, ?_, fun i hi => by omega, ((Below.refl _ _).alloc (Nat.le_refl _) _).alloc (by simp) _⟩
  · rw [Below.heap_alloc _ _ _ (by simp)]; exact b1
  · rw [b2]; rfl

theorem Q1.step {B : Nat} {mg ho en : Value} {k : Nat} {w wr w1 : World} (h : Q1 B mg ho en k w wr) (hs : w1.heap.size = B + 2 + 3 * k + 3) (hf : Fr [] wr w1) (hw : Wt w1 (B + 2 + 3 * k)) :
    Q1 B mg ho en (k + 1) w (w1.setCell ⟨B + 1, k, none⟩ (.pointer (some ⟨B + 2 + 3 * k + 2, 0, none⟩))) := by
  have hz := h.size
  have f1 : Fr [B + 1] w1 (w1.setCell ⟨B + 1, k, none⟩ (.pointer (some ⟨B + 2 + 3 * k + 2, 0, none⟩))) := (Fr.refl _ _).setCell (by simp) _
  have fa := (hf.mono (S' := [B + 1]) (by simp)).trans f1
  refine ⟨by rw [size_setCell, hs]; omega, fa.block h.st (by simp), ?_, fun i hi => ?_, h.bel.trans (fa.below (by omega) (by simp))⟩
  · rw [blk_setCell (hf.block h.pool (by simp)), rowF_set]
    congr 2
    apply rowF_congr
    intro i _
    unfold poolV
    by_cases hi : i = k
    · subst hi
      simp
    · by_cases hik : i < k
      · simp [hi, hik, show i < k + 1 by omega]
      · simp [hi, hik, show ¬ i < k + 1 by omega]
  · by_cases hik : i < k
    · exact (h.ws i hik).fr fa (by simp; omega)
    · obtain rfl : i = k := by omega
      exact hw.fr f1 (by simp; omega)

/-- What the store's watches hold, by the model. -/
def GB (B : Nat) (md : Nat → Bool) (b : Nat) : Option Value := if (B + 4 ≤ b ∧ b < B + 22 ∧ (b - (B + 4)) % 3 = 0) ∧ md ((b - (B + 4)) / 3) = true then some (.bool true) else none

def updM (md : Nat → Bool) (i : Nat) (v : Bool) (j : Nat) : Bool := if j = i then v else md j

theorem GB_at (B : Nat) (md : Nat → Bool) {i : Nat} (hi : i < 6) : GB B md (B + 4 + 3 * i) = if md i then some (.bool true) else none := by
  unfold GB
  have e : (B + 4 + 3 * i - (B + 4)) / 3 = i := by omega
  rw [e]
  by_cases h : md i = true
  · rw [if_pos ⟨by omega, h⟩, if_pos h]
  · rw [if_neg (fun hc => h hc.2), if_neg h]

theorem GB_fresh (B : Nat) (md : Nat → Bool) : GB B md (B + 23) = none := by
  unfold GB; rw [if_neg (fun hc => by omega)]

theorem GB_upd (B : Nat) (md : Nat → Bool) {i : Nat} (hi : i < 6) (v : Bool) (c : Nat) : GB B (updM md i v) c = if c = B + 4 + 3 * i then (if v then some (.bool true) else none) else GB B md c := by
  by_cases hc : c = B + 4 + 3 * i
  · subst hc
    rw [GB_at B _ hi, if_pos rfl]
    simp [updM]
  · rw [if_neg hc]
    unfold GB
    by_cases hr : B + 4 ≤ c ∧ c < B + 22 ∧ (c - (B + 4)) % 3 = 0
    · have hne : (c - (B + 4)) / 3 ≠ i := by omega
      simp [updM, hne]
    · rw [if_neg (fun h => hr h.1), if_neg (fun h => hr h.1)]

theorem GB_some (B : Nat) (md : Nat → Bool) (b : Nat) : (GB B md b).isSome = true ↔ ∃ i, i < 6 ∧ md i = true ∧ B + 4 + 3 * i = b := by
  constructor
  · intro h
    unfold GB at h
    split at h
    · rename_i hr
      exact ⟨(b - (B + 4)) / 3, by omega, hr.2, by omega⟩
    · cases h
  · rintro ⟨i, hi, hm, rfl⟩
    rw [GB_at B md hi, if_pos hm]
    rfl

theorem len_GB {B : Nat} {md : Nat → Bool} {f : List (Nat × Value)} (hg : Gm f (GB B md)) : f.length = cm md 6 :=
  hg.length (bk := fun i => B + 4 + 3 * i) (fun i j _ _ e => by omega) (fun b => GB_some B md b)

structure Q2 (B : Nat) (mg ho en : Value) (mo : Option Nat) (lk : Int) (f : List (Nat × Value)) (md : Nat → Bool) (w wr : World) : Prop where
  size : B + 24 ≤ wr.heap.size
  st : wr.heap[B]? = some (.cells (stCells mg ho lk en mo) 71 (0, 0))
  pool : wr.heap[B + 1]? = some (.cells (rowF 6 (poolV B 6)) 76 (0, 0))
  model : wr.heap[B + 20]? = some (.cells (rowF 6 (fun i => .bool (md i))) 77 (0, 0))
  ws : ∀ i, i < 6 → Wt wr (B + 2 + 3 * i)
  fresh : Wt wr (B + 21)
  wn : WN wr mo f
  big : ∀ m, mo = some m → B + 24 ≤ m
  gm : Gm f (GB B md)
  bel : Below B w wr

theorem Q2.start {B : Nat} {mg ho en : Value} {w wr w1 : World} (h : Q1 B mg ho en 6 w wr) (hs : w1.heap.size = B + 21 + 3) (hf : Fr [] (wr.alloc (.cells #[.bool false, .bool false, .bool false, .bool false, .bool false, .bool false] 77)) w1) (hw : Wt w1 (B + 21)) :
    Q2 B mg ho en none 0 [] (fun _ => false) w w1 := by
  have hz := h.size
  have b1 := blk_new wr (.cells #[.bool false, .bool false, .bool false, .bool false, .bool false, .bool false] 77)
  rw [hz] at b1
  have fa : Fr [] wr w1 := ((Fr.refl _ _).alloc _).trans hf
  refine ⟨by omega, fa.block h.st (by simp), fa.block h.pool (by simp), ?_, fun i hi => (h.ws i hi).fr fa (by simp), hw, ⟨fun m hm => (by cases hm), fun _ => rfl⟩, fun m hm => (by cases hm), ⟨by simp, fun b => ?_⟩, h.bel.trans (fa.below (by omega) (by simp))⟩
  · rw [hf.block b1 (by simp)]; rfl
  · unfold GB; simp [lookF]

theorem Q2.watched {B : Nat} {mg ho en : Value} {mo : Option Nat} {f : List (Nat × Value)} {md : Nat → Bool} {w wr w1 : World} {i : Nat} (hi : i < 6) (h : Q2 B mg ho en mo 0 f md w wr) (hw : WatchedNil B (B + 4 + 3 * i) mg ho en mo f wr w1) :
    ∃ m, Q2 B mg ho en (some m) 0 (updF (B + 4 + 3 * i) (.bool true) f) (updM md i true) w (w1.setCell ⟨B + 20, i, none⟩ (.bool true)) := by
  obtain ⟨m, hm, hst, hpm, hfr⟩ := hw
  have hs := h.size
  have hmb : B + 24 ≤ m := by
    rcases hm with h1 | ⟨_, h1⟩
    · exact h.big m h1
    · omega
  have f1 : Fr [B + 20] w1 (w1.setCell ⟨B + 20, i, none⟩ (.bool true)) := (Fr.refl _ _).setCell (by simp) _
  have fa : Fr [B, m, B + 20] wr (w1.setCell ⟨B + 20, i, none⟩ (.bool true)) := (hfr.mono (by simp)).trans (f1.mono (by simp))
  refine ⟨m, Nat.le_trans hs fa.size, f1.block hst (by simp), fa.block h.pool (by simp; omega), ?_, fun j hj => (h.ws j hj).fr fa (by simp; omega), h.fresh.fr fa (by simp; omega), ⟨fun m' hm' => ?_, fun hm' => (by cases hm')⟩, fun m' hm' => (by cases hm'; exact hmb), ?_, h.bel.trans (fa.below (by omega) (by simp; omega))⟩
  · rw [blk_setCell (hfr.block h.model (by simp; omega)), rowF_set]
    congr 2
    apply rowF_congr
    intro j _
    unfold updM
    by_cases hj : j = i <;> simp [hj]
  · cases hm'
    exact hpm.fr f1 (by simp; omega)
  · have hu := h.gm.upd (B + 4 + 3 * i) (.bool true)
    exact ⟨hu.1, fun b => by rw [hu.2, GB_upd B md hi]; rfl⟩

theorem Q2.unwatched {B : Nat} {mg ho en : Value} {mo : Option Nat} {f : List (Nat × Value)} {md : Nat → Bool} {w wr w1 : World} {i : Nat} (hi : i < 6) (h : Q2 B mg ho en mo 0 f md w wr) (hw : Unwatched B (B + 4 + 3 * i) mg ho en mo f wr w1) :
    Q2 B mg ho en mo 0 (delF (B + 4 + 3 * i) f) (updM md i false) w (w1.setCell ⟨B + 20, i, none⟩ (.bool false)) := by
  obtain ⟨hst, hwn, hfr⟩ := hw
  have hs := h.size
  have hbig := h.big
  have hmm : ∀ m ∈ mo.toList, B + 24 ≤ m := fun m hm => hbig m (by simpa using hm)
  have f1 : Fr [B + 20] w1 (w1.setCell ⟨B + 20, i, none⟩ (.bool false)) := (Fr.refl _ _).setCell (by simp) _
  have fa : Fr (B :: (B + 20) :: mo.toList) wr (w1.setCell ⟨B + 20, i, none⟩ (.bool false)) := (hfr.mono (by simp; exact fun k hk => Or.inr (Or.inr hk))).trans (f1.mono (by simp))
  have hS : ∀ s ∈ B :: (B + 20) :: mo.toList, s = B ∨ s = B + 20 ∨ B + 24 ≤ s := by
    intro s hs1
    simp only [List.mem_cons] at hs1
    rcases hs1 with h1 | h1 | h1
    · exact Or.inl h1
    · exact Or.inr (Or.inl h1)
    · exact Or.inr (Or.inr (hmm s h1))
  have hn : ∀ b, b ≠ B → b ≠ B + 20 → b < B + 24 → b ∉ B :: (B + 20) :: mo.toList := fun b h1 h2 h3 hm => by rcases hS b hm with h4 | h4 | h4 <;> omega
  have hn2 : ∀ b, b ≠ B → b < B + 24 → b ∉ B :: mo.toList := fun b h1 h3 hm => by
    simp only [List.mem_cons] at hm
    rcases hm with h4 | h4
    · exact h1 h4
    · have := hmm b h4; omega
  refine ⟨Nat.le_trans hs fa.size, f1.block hst (by simp), fa.block h.pool (hn _ (by omega) (by omega) (by omega)), ?_, fun j hj => (h.ws j hj).fr fa (fun s hs1 => by have := hS s hs1; omega), h.fresh.fr fa (fun s hs1 => by have := hS s hs1; omega), ⟨fun m' hm' => ?_, hwn.2⟩, hbig, ?_, h.bel.trans (fa.below (by omega) (fun s hs1 => by have := hS s hs1; omega))⟩
  · rw [blk_setCell (hfr.block h.model (hn2 _ (by omega) (by omega))), rowF_set]
    congr 2
    apply rowF_congr
    intro j _
    unfold updM
    by_cases hj : j = i <;> simp [hj]
  · exact (hwn.1 m' hm').fr f1 (by have := hbig m' hm'; simp; omega)
  · have hu := h.gm.del (B + 4 + 3 * i)
    exact ⟨hu.1, fun b => by rw [hu.2, GB_upd B md hi]; rfl⟩

theorem Q2.unfresh {B : Nat} {mg ho en : Value} {mo : Option Nat} {f : List (Nat × Value)} {md : Nat → Bool} {w wr w1 : World} (h : Q2 B mg ho en mo 0 f md w wr) (hw : Unwatched B (B + 23) mg ho en mo f wr w1) :
    Q2 B mg ho en mo 0 (delF (B + 23) f) md w w1 := by
  obtain ⟨hst, hwn, hfr⟩ := hw
  have hs := h.size
  have hbig := h.big
  have hmm : ∀ m ∈ mo.toList, B + 24 ≤ m := fun m hm => hbig m (by simpa using hm)
  have hS : ∀ s ∈ B :: mo.toList, s = B ∨ B + 24 ≤ s := by
    intro s hs1
    simp only [List.mem_cons] at hs1
    rcases hs1 with h1 | h1
    · exact Or.inl h1
    · exact Or.inr (hmm s h1)
  have hn : ∀ b, b ≠ B → b < B + 24 → b ∉ B :: mo.toList := fun b h1 h3 hm => by rcases hS b hm with h4 | h4 <;> omega
  refine ⟨Nat.le_trans hs hfr.size, hst, hfr.block h.pool (hn _ (by omega) (by omega)), hfr.block h.model (hn _ (by omega) (by omega)), fun j hj => (h.ws j hj).fr hfr (fun s hs1 => by have := hS s hs1; omega), h.fresh.fr hfr (fun s hs1 => by have := hS s hs1; omega), hwn, hbig, ?_, h.bel.trans (hfr.below (by omega) (fun s hs1 => by have := hS s hs1; omega))⟩
  have hu := h.gm.del (B + 23)
  refine ⟨hu.1, fun b => ?_⟩
  rw [hu.2]
  show (if b = B + 23 then none else GB B md b) = _
  by_cases hb : b = B + 23
  · rw [if_pos hb, hb, GB_fresh]
  · rw [if_neg hb]

theorem Q2.lock {B : Nat} {mg ho en : Value} {mo : Option Nat} {lk lk' : Int} {f : List (Nat × Value)} {md : Nat → Bool} {w wr w1 : World} (h : Q2 B mg ho en mo lk f md w wr) (hst : w1.heap[B]? = some (.cells (stCells mg ho lk' en mo) 71 (0, 0))) (hfr : Fr [B] wr w1) :
    Q2 B mg ho en mo lk' f md w w1 := by
  have hs := h.size
  refine ⟨Nat.le_trans hs hfr.size, hst, hfr.block h.pool (by simp), hfr.block h.model (by simp), fun j hj => (h.ws j hj).fr hfr (fun s hs1 => by simp at hs1; omega), h.fresh.fr hfr (fun s hs1 => by simp at hs1; omega), ⟨fun m hm => (h.wn.1 m hm).fr hfr (by have := h.big m hm; simp; omega), h.wn.2⟩, h.big, h.gm, h.bel.trans (hfr.below (by omega) (by simp))⟩

theorem Q2.drewN {B : Nat} {mg ho en : Value} {mo : Option Nat} {lk : Int} {f : List (Nat × Value)} {md : Nat → Bool} {w wr : World} (h : Q2 B mg ho en mo lk f md w wr) (q : Nat) : Q2 B mg ho en mo lk f md w (wr.drewN q) :=
  h.lock h.st ((Fr.refl _ _).drewN q)

theorem Q2.poolCell {B : Nat} {mg ho en : Value} {mo : Option Nat} {lk : Int} {f : List (Nat × Value)} {md : Nat → Bool} {w wr : World} (h : Q2 B mg ho en mo lk f md w wr) {i : Nat} (hi : i < 6) : wr.cell? ⟨B + 1, i, none⟩ = some (.pointer (some ⟨B + 4 + 3 * i, 0, none⟩)) := by
  rw [cell_of_blk h.pool (rowF_get hi)]; simp [poolV, hi]

theorem Q2.isCells {B : Nat} {mg ho en : Value} {mo : Option Nat} {lk : Int} {f : List (Nat × Value)} {md : Nat → Bool} {w wr : World} (h : Q2 B mg ho en mo lk f md w wr) {i : Nat} (hi : i < 6) : IsCells wr (B + 4 + 3 * i) := by
  have := blk_isCells (h.ws i hi).2.2
  rw [show B + 2 + 3 * i + 2 = B + 4 + 3 * i by omega] at this
  exact this

theorem check_B {B : Nat} {mg ho en : Value} {mo : Option Nat} {f : List (Nat × Value)} {md : Nat → Bool} {w wr : World} (h : Q2 B mg ho en mo 0 f md w wr) :
    Calls Yba.prog 10 #[.pointer (some ⟨B, 0, none⟩), .pointer (some ⟨B + 1, 0, none⟩), .pointer (some ⟨B + 20, 0, none⟩), .pointer (some ⟨B + 23, 0, none⟩)] wr fun e w' => e = .returned (.bool true) ∧ ∃ q, w' = wr.drewN q :=
  check_any B (B + 1) (B + 20) (B + 23) mo f (fun i => B + 4 + 3 * i) md mg ho en wr h.st h.wn (fun i hi => h.poolCell hi) (fun i hi => cell_of_blk h.model (rowF_get hi)) (fun i hi => h.isCells hi) (blk_isCells h.fresh.2.2)
    (fun i hi => by rw [h.gm.2, GB_at B md hi]) (by rw [h.gm.2, GB_fresh]) (len_GB h.gm)

theorem Q2.watched_cell {B : Nat} {mg ho en : Value} {mo : Option Nat} {f : List (Nat × Value)} {md : Nat → Bool} {w wr w1 : World} {r i : Nat} (hi : i < 6) (h : Q2 B mg ho en mo 0 f md w wr) (hw : WatchedNil B r mg ho en mo f wr w1) :
    w1.cell? ⟨B + 20, i, none⟩ = some (.bool (md i)) ∧ w1.frozen? ⟨B + 20, i, none⟩ = false := by
  obtain ⟨m, hm, hst, hpm, hfr⟩ := hw
  have hs := h.size
  have hmb : B + 24 ≤ m := by
    rcases hm with h1 | ⟨_, h1⟩
    · exact h.big m h1
    · omega
  have hb := hfr.block h.model (by simp; omega)
  exact ⟨cell_of_blk hb (rowF_get hi), free_of_blk hb i⟩

theorem Q2.unwatched_cell {B : Nat} {mg ho en : Value} {mo : Option Nat} {f : List (Nat × Value)} {md : Nat → Bool} {w wr w1 : World} {r i : Nat} (hi : i < 6) (h : Q2 B mg ho en mo 0 f md w wr) (hw : Unwatched B r mg ho en mo f wr w1) :
    w1.cell? ⟨B + 20, i, none⟩ = some (.bool (md i)) ∧ w1.frozen? ⟨B + 20, i, none⟩ = false := by
  obtain ⟨hst, hwn, hfr⟩ := hw
  have hb := hfr.block h.model (fun hm => by
    simp only [List.mem_cons] at hm
    rcases hm with h1 | h1
    · omega
    · have := h.big (B + 20) (by simpa using h1); omega)
  exact ⟨cell_of_blk hb (rowF_get hi), free_of_blk hb i⟩
end Go.Proofs.Ybulkhczu
