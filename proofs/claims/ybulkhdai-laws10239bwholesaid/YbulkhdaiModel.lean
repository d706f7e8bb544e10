import Derived.Test.YbulkhdaiAns
namespace Go.Proofs.Ybulkhdai
open Go.RowKit

/-- One response, as data: its tool calls by where they lie. -/
structure Rsp where
  tx : ByteArray
  rf : ByteArray
  ta : Option Addr
  tl : Nat
  tc : Nat
  fi : ByteArray
  u0 : Int
  u1 : Int
  u2 : Int

def rcells (d : Rsp) : Array Value := #[.string d.tx, .string d.rf, .slice d.ta d.tl d.tc, .string d.fi, .int .i64 d.u0, .int .i64 d.u1, .int .i64 d.u2]

/-- Seven cells from place p on hold the response d. -/
def Cells7 (w : World) (b p : Nat) (d : Rsp) : Prop :=
  w.cell? ⟨b, p, none⟩ = some (.string d.tx) ∧ w.cell? ⟨b, p + 1, none⟩ = some (.string d.rf) ∧ w.cell? ⟨b, p + 2, none⟩ = some (.slice d.ta d.tl d.tc) ∧ w.cell? ⟨b, p + 3, none⟩ = some (.string d.fi) ∧
  w.cell? ⟨b, p + 4, none⟩ = some (.int .i64 d.u0) ∧ w.cell? ⟨b, p + 5, none⟩ = some (.int .i64 d.u1) ∧ w.cell? ⟨b, p + 6, none⟩ = some (.int .i64 d.u2)

theorem Cells7.fr {w w' : World} {b p : Nat} {d : Rsp} {S : List Nat} (h : Cells7 w b p d) (f : Fr S w w') (hb : b ∉ S) : Cells7 w' b p d :=
  ⟨f.cell h.1 hb, f.cell h.2.1 hb, f.cell h.2.2.1 hb, f.cell h.2.2.2.1 hb, f.cell h.2.2.2.2.1 hb, f.cell h.2.2.2.2.2.1 hb, f.cell h.2.2.2.2.2.2 hb⟩

def RdR (w : World) (a : Option Addr) (n : Nat) (D : Nat → Rsp) : Prop := 0 < n → ∃ b o, a = some ⟨b, o, none⟩ ∧ ∀ i, i < n → Cells7 w b (o + i * 7) (D i)

theorem RdR.fr {w w' : World} {a : Option Addr} {n : Nat} {D : Nat → Rsp} (h : RdR w a n D) (f : Fr [] w w') : RdR w' a n D := by
  intro h0
  obtain ⟨b, o, ha, hc⟩ := h h0
  exact ⟨b, o, ha, fun i hi => (hc i hi).fr f (by simp)⟩

/-- A row of n cells, given by a function. -/
def rowF (n : Nat) (v : Nat → Value) : Array Value := ((List.range n).map v).toArray
theorem rowF_get {n : Nat} {v : Nat → Value} {i : Nat} (h : i < n) : (rowF n v)[i]? = some (v i) := by
  simp [rowF, h]
theorem rowF_set {n : Nat} {v : Nat → Value} {i : Nat} (x : Value) : (rowF n v).setIfInBounds i x = rowF n (fun j => if j = i then x else v j) := by
  apply Array.ext
  · simp [rowF]
  · intro j h1 h2
    simp [rowF] at h1 h2
    simp only [rowF]
    by_cases hj : i = j
    · subst hj; simp
    · simp [hj, Ne.symm hj]
theorem rowF_congr {n : Nat} {v u : Nat → Value} (h : ∀ i, i < n → v i = u i) : rowF n v = rowF n u := by
  unfold rowF
  congr 1
  exact List.map_congr_left (fun i hi => h i (List.mem_range.1 hi))

theorem made3 (a b c : Value) (n : Nat) : madeCells #[a, b, c] n = rowF n (fun x => if x % 3 = 0 then a else if x % 3 = 1 then b else c) := by
  apply Array.ext
  · simp [rowF, madeCells]
  · intro j h1 h2
    simp [rowF, madeCells]
    have : j % 3 = 0 ∨ j % 3 = 1 ∨ j % 3 = 2 := by omega
    rcases this with h | h | h <;> simp [h]

/-- The cells of the steps' row when the first k steps are laid. -/
def stepV (K : Nat → Nat) (k x : Nat) : Value := if x / 3 < k then stepT K (x / 3) (x % 3) else if x % 3 = 0 then .int .i64 0 else if x % 3 = 1 then .slice none 0 0 else .nilFunc

theorem make40 (n : Nat) (hn : n ≤ 65536) (w : World) : (Instr.makeSlice 40 (.int .i64 n) (.int .i64 n)).run Yba.prog w = .ok (.slice (some ⟨w.heap.size, 0, none⟩) n n) (w.alloc (.cells (rowF (n * 3) (stepV (fun _ => 0) 0)) 54)) := by
  obtain ⟨i54, hi, hz, hs, hb⟩ := info_parts Yba.info54
  have := run_make (P := Yba.prog) w 40 54 i54 _ Yba.underlying40 hi hz .i64 .i64 (n : Int) (n : Int) (by omega) (by omega) (by rw [hb]; omega) (by omega)
  rw [this, hs]
  have e : madeCells (Value.agg #[.int .i64 0, .slice none 0 0, .nilFunc]).cells (n * 3) = rowF (n * 3) (stepV (fun _ => 0) 0) := by
    rw [show (Value.agg #[.int .i64 0, .slice none 0 0, .nilFunc]).cells = #[.int .i64 0, .slice none 0 0, .nilFunc] from rfl, made3]
    apply rowF_congr
    intro i _
    simp [stepV]
  simp [e]

/-- Inside NewScriptedModel's loop. -/
structure ML (n : Nat) (D : Nat → Rsp) (X k : Nat) (K : Nat → Nat) (w wr : World) : Prop where
  row : wr.heap[X]? = some (.cells (rowF (n * 3) (stepV K k)) 54 (0, 0))
  blk : ∀ i, i < k → wr.heap[K i]? = some (.cells (rcells (D i)) 27 (0, 0)) ∧ K i ≠ X ∧ w.heap.size ≤ K i
  fr : Fr [] w wr
  hX : w.heap.size ≤ X

theorem stepV_step (K : Nat → Nat) (k N x : Nat) :
    (if x = k * 3 + 2 then Value.func (.func 16) #[] #[.pointer (some ⟨N, 0, none⟩)] else if x = k * 3 + 1 then .slice none 0 0 else if x = k * 3 then .int .i64 0 else stepV K k x) = stepV (fun j => if j = k then N else K j) (k + 1) x := by
  unfold stepV
  by_cases h1 : x / 3 < k
  · have e : x / 3 ≠ k := by omega
    rw [if_neg (by omega), if_neg (by omega), if_neg (by omega), if_pos h1, if_pos (by omega)]
    unfold stepT
    simp only [if_neg e]
  · by_cases h2 : x / 3 = k
    · rw [if_pos (show x / 3 < k + 1 by omega)]
      unfold stepT
      have h3 : x % 3 = 0 ∨ x % 3 = 1 ∨ x % 3 = 2 := by omega
      rcases h3 with h3 | h3 | h3
      · rw [if_neg (by omega), if_neg (by omega), if_pos (by omega), if_pos h3]
      · rw [if_neg (by omega), if_pos (by omega), if_neg (by omega), if_pos h3]
      · rw [if_pos (show x = k * 3 + 2 by omega), if_neg (show ¬ x % 3 = 0 by omega), if_neg (show ¬ x % 3 = 1 by omega)]
        simp only [if_pos h2]
    · rw [if_neg (by omega), if_neg (by omega), if_neg (by omega), if_neg h1, if_neg (show ¬ x / 3 < k + 1 by omega)]

theorem ML.step {n : Nat} {D : Nat → Rsp} {X k : Nat} {K : Nat → Nat} {w wr w1 : World} {o : Array Value} (h : ML n D X k K w wr) (hk : k < n) (hb : w1.heap[(wr.alloc (.cells o 27)).heap.size]? = some (.cells (rcells (D k)) 27 (0, 0))) (hf : Fr [] (wr.alloc (.cells o 27)) w1) :
    ML n D X (k + 1) (fun j => if j = k then wr.heap.size + 1 else K j) w (((w1.setCell ⟨X, k * 3, none⟩ (.int .i64 0)).setCell ⟨X, k * 3 + 1, none⟩ (.slice none 0 0)).setCell ⟨X, k * 3 + 2, none⟩ (.func (.func 16) #[] #[.pointer (some ⟨wr.heap.size + 1, 0, none⟩)])) := by
  have f0 : Fr [] wr w1 := ((Fr.refl _ _).alloc _).trans hf
  have hr1 := f0.block h.row (by simp)
  have f1 : Fr [X] w1 (((w1.setCell ⟨X, k * 3, none⟩ (.int .i64 0)).setCell ⟨X, k * 3 + 1, none⟩ (.slice none 0 0)).setCell ⟨X, k * 3 + 2, none⟩ (.func (.func 16) #[] #[.pointer (some ⟨wr.heap.size + 1, 0, none⟩)])) :=
    (((Fr.refl _ _).setCell (by simp) _).setCell (by simp) _).setCell (by simp) _
  have hXl : X < wr.heap.size := lt_of_block h.row
  have hz : (wr.alloc (.cells o 27)).heap.size = wr.heap.size + 1 := by simp
  rw [hz] at hb
  have hs := h.fr.size
  refine ⟨?_, fun i hi => ?_, ((h.fr.trans f0).mono (by simp)).trans f1 |>.less (by simp; exact h.hX), h.hX⟩
  · rw [blk_setCell (blk_setCell (blk_setCell hr1 _) _) _, rowF_set, rowF_set, rowF_set]
    congr 2
    apply rowF_congr
    intro x _
    exact stepV_step K k (wr.heap.size + 1) x
  · by_cases hik : i = k
    · subst hik
      simp only [if_true]
      exact ⟨f1.block hb (by simp; omega), by omega, by omega⟩
    · obtain ⟨q1, q2, q3⟩ := h.blk i (by omega)
      simp only [hik, if_false]
      exact ⟨f1.block (f0.block q1 (by simp)) (by simpa using q2), q2, q3⟩

set_option maxRecDepth 100000 in
set_option maxHeartbeats 1600000 in
theorem model_some (b o n cap : Nat) (D : Nat → Rsp) (w : World) (hn : n ≤ 65536) (h : ∀ i, i < n → Cells7 w b (o + i * 7) (D i)) :
    Calls Yba.prog 5 #[.slice (some ⟨b, o, none⟩) n cap] w fun e w' => ∃ m K, e = .returned (.pointer (some ⟨m, 0, none⟩)) ∧ Made n K m w w' ∧ ∀ i, i < n → w'.heap[K i]? = some (.cells (rcells (D i)) 27 (0, 0)) := by
  have mk := make40 n hn
  go_enter Yba.func5, Yba.ntmps5
  go_wp2_with fail
  obtain ⟨X, hX⟩ : ∃ X, X = w.heap.size := ⟨_, rfl⟩
  have hM0 : ML n D X 0 (fun _ => 0) w (w.alloc (.cells (rowF (n * 3) (stepV (fun _ => 0) 0)) 54)) :=
    ⟨by rw [hX]; exact blk_new _ _, fun i hi => by omega, (Fr.refl _ _).alloc _, by omega⟩
  rw [← hX]
  generalize w.alloc (.cells (rowF (n * 3) (stepV (fun _ => 0) 0)) 54) = W0 at hM0 ⊢
  have HX := hide_of hX
  clear hX mk
  go_loopw [11] (fun i wr => ∃ (k : Nat) (K : Nat → Nat), k ≤ n ∧ i = .int .i64 k ∧ ML n D X k K w wr) (fun i _ => n - (intOf i).toNat)
  case atStart => exact ⟨0, _, Nat.zero_le _, rfl, hM0⟩
  case round =>
    obtain ⟨k, K, hk, rfl, hM⟩ := hrel
    by_cases hlt : k < n
    · obtain ⟨k0, k1, k2, k3, k4, k5, k6⟩ := (h k hlt).fr hM.fr (by simp)
      have hbl := cell_lt k0
      simp only at hbl
      go_wp2_with fail
      refine (answer_any (D k).tx (D k).rf (D k).fi (D k).ta (D k).tl (D k).tc (D k).u0 (D k).u1 (D k).u2 _).mono ?_
      rintro e w1 ⟨rfl, hb1, hf1⟩
      have hr1 := hf1.block ((Fr.alloc (Fr.refl [] wr) _).block hM.row (by simp)) (by simp)
      have s0 : w1.cell? ⟨X, k * 3, none⟩ = some (stepV K k (k * 3)) := cell_of_blk hr1 (rowF_get (by omega))
      have s1 : w1.cell? ⟨X, k * 3 + 1, none⟩ = some (stepV K k (k * 3 + 1)) := cell_of_blk hr1 (rowF_get (by omega))
      have s2 : w1.cell? ⟨X, k * 3 + 2, none⟩ = some (stepV K k (k * 3 + 2)) := cell_of_blk hr1 (rowF_get (by omega))
      have z0 := free_of_blk hr1 (k * 3)
      have z1 := free_of_blk hr1 (k * 3 + 1)
      have z2 := free_of_blk hr1 (k * 3 + 2)
      go_wp2_with fail
      go_roundw
      case rel => exact ⟨k + 1, _, by omega, by go_num, hM.step hlt (o := rcells (D k)) hb1 hf1⟩
      case measure => simp [intOf]; omega
    · obtain rfl : n = k := by omega
      go_wp2_with fail
      refine (newScript_any ⟨X, 0, none⟩ n n K wr hn ?_).mono ?_
      · intro _
        exact ⟨X, 0, rfl, fun j hj c hc => by
          rw [Nat.zero_add]
          have := cell_of_blk hM.row (rowF_get (v := stepV K n) (i := j * 3 + c) (by omega))
          rw [this]
          unfold stepV
          rw [if_pos (by omega), show (j * 3 + c) / 3 = j by omega, show (j * 3 + c) % 3 = c by omega]⟩
      rintro e w1 ⟨m, rfl, hmade⟩
      go_wp2_with fail
      go_ret
      obtain ⟨a', cap', q1, q2, q3, q4, q5⟩ := hmade
      exact ⟨m, K, rfl, ⟨a', cap', q1, q2, q3, hM.fr.trans q4, Nat.le_trans hM.fr.size q5⟩, fun i hi => q4.block (hM.blk i hi).1 (by simp)⟩

set_option maxRecDepth 100000 in
set_option maxHeartbeats 1600000 in
theorem model_none (a : Option Addr) (cap : Nat) (D : Nat → Rsp) (w : World) :
    Calls Yba.prog 5 #[.slice a 0 cap] w fun e w' => ∃ m K, e = .returned (.pointer (some ⟨m, 0, none⟩)) ∧ Made 0 K m w w' ∧ ∀ i, i < 0 → w'.heap[K i]? = some (.cells (rcells (D i)) 27 (0, 0)) := by
  have mk : ∀ w : World, (Instr.makeSlice 40 (.int .i64 0) (.int .i64 0)).run Yba.prog w = .ok (.slice (some ⟨w.heap.size, 0, none⟩) 0 0) (w.alloc (.cells (rowF 0 (stepV (fun _ => 0) 0)) 54)) := make40 0 (by omega)
  go_enter Yba.func5, Yba.ntmps5
  go_wp2_with fail
  refine wp_loop_rounds 1 ?_
  rw [rounds_succ]
  go_wp2_with fail
  refine (newScript_any ⟨w.heap.size, 0, none⟩ 0 0 (fun _ => 0) _ (by omega) (fun h => absurd h (by omega))).mono ?_
  rintro e w1 ⟨m, rfl, hmade⟩
  go_wp2_with fail
  go_ret
  obtain ⟨a', cap', q1, q2, q3, q4, q5⟩ := hmade
  exact ⟨m, fun _ => 0, rfl, ⟨a', cap', q1, q2, q3, ((Fr.refl _ _).alloc _).trans q4, by simp at q5; omega⟩, fun i hi => absurd hi (by omega)⟩

theorem model_any (a : Option Addr) (n cap : Nat) (D : Nat → Rsp) (w : World) (hn : n ≤ 65536) (h : RdR w a n D) :
    Calls Yba.prog 5 #[.slice a n cap] w fun e w' => ∃ m K, e = .returned (.pointer (some ⟨m, 0, none⟩)) ∧ Made n K m w w' ∧ ∀ i, i < n → w'.heap[K i]? = some (.cells (rcells (D i)) 27 (0, 0)) := by
  by_cases h0 : 0 < n
  · obtain ⟨b, o, rfl, hc⟩ := h h0
    exact model_some b o n cap D w hn hc
  · obtain rfl : n = 0 := by omega
    exact model_none a cap D w
end Go.Proofs.Ybulkhdai
