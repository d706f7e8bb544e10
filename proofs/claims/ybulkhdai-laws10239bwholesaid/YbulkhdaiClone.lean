import Derived.Test.YbulkhdaiEq
namespace Go.Proofs.Ybulkhdai
open Go.RowKit

theorem Yba.info30 : (Yba.prog.info? 30).map (fun i => (i.zero, i.size, i.bytes)) = some (some (.agg #[.string ⟨#[]⟩, .string ⟨#[]⟩, .string ⟨#[]⟩]), 3, 48) := by kernel_rfl
theorem Yba.info54 : (Yba.prog.info? 54).map (fun i => (i.zero, i.size, i.bytes)) = some (some (.agg #[.int .i64 0, .slice none 0 0, .nilFunc]), 3, 40) := by kernel_rfl

/-- A row of 3-cell elements as a list of cells. -/
def tcells (T : Nat → Nat → Value) (len : Nat) : List Value := (List.range (len * 3)).map (fun x => T (x / 3) (x % 3))

theorem tcells_len (T : Nat → Nat → Value) (len : Nat) : (tcells T len).length = len * 3 := by simp [tcells]
theorem tcells_get (T : Nat → Nat → Value) (len : Nat) {j c : Nat} (hj : j < len) (hc : c < 3) : (tcells T len)[j * 3 + c]? = some (T j c) := by
  have h1 : j * 3 + c < len * 3 := by omega
  have h2 : (j * 3 + c) / 3 = j := by omega
  have h3 : (j * 3 + c) % 3 = c := by omega
  simp [tcells, h1, h2, h3]

/-- What a slice of 3-cell elements holds. -/
def Rd3 (w : World) (a : Option Addr) (len : Nat) (T : Nat → Nat → Value) : Prop :=
  0 < len → ∃ b o, a = some ⟨b, o, none⟩ ∧ ∀ j, j < len → ∀ c, c < 3 → w.cell? ⟨b, o + j * 3 + c, none⟩ = some (T j c)

theorem news_of {w W : World} {ad : Addr} {len : Nat} {T : Nat → Nat → Value} (h : Rd3 w (some ad) len T) (f : Fr [] w W) : ∀ j u, (tcells T len)[j]? = some u → W.cell? (ad.add j) = some u := by
  intro x u hx
  have hxl : x < len * 3 := by
    rcases Nat.lt_or_ge x (len * 3) with h' | h'
    · exact h'
    · simp [tcells, h'] at hx
  obtain ⟨b, o, ha, hc⟩ := h (by omega)
  cases ha
  have := hc (x / 3) (by omega) (x % 3) (by omega)
  have hx' : x / 3 * 3 + x % 3 = x := by omega
  have hg := tcells_get T len (j := x / 3) (c := x % 3) (by omega) (by omega)
  rw [hx'] at hg
  rw [hg] at hx
  rw [Nat.add_assoc, hx'] at this
  rw [Go.WideShapes.add_plain, f.cell this (by simp)]
  exact hx

theorem grown_fr {w w1 : World} {o : Obj} (hg : (w.alloc o).grownBy w1 (some w.heap.size)) : Fr [] w w1 :=
  ⟨hg.os, hg.tape, hg.output, Nat.le_trans (by simp) hg.size, fun k hk _ => by
    rw [hg.block k (by simp; omega) (by simp; omega), Below.heap_alloc _ _ _ hk]⟩

theorem own_empty (w : World) (e : TypeId) : (w.alloc (.cells #[] e)).ownsRow w.heap.size e 3 (.slice (some ⟨w.heap.size, 0, none⟩) 0 0) 0 [] :=
  ⟨rfl, Or.inr ⟨w.heap.size, 0, #[], rfl, Nat.le_refl _, blk_new _ _, Nat.le_refl _, Nat.zero_le _, rfl, rfl⟩⟩

theorem own_rd {w' : World} {base e len : Nat} {T : Nat → Nat → Value} {v : Value} (h : w'.ownsRow base e 3 v len (tcells T len)) : ∃ a cap, v = .slice a len cap ∧ Rd3 w' a len T ∧ ∀ b o, a = some ⟨b, o, none⟩ → base ≤ b := by
  rcases h.2 with ⟨rfl, h0⟩ | ⟨g, cap, cur, rfl, hbg, hh, hc1, _, hc3, ht⟩
  · subst h0
    exact ⟨none, 0, rfl, fun h => absurd h (Nat.lt_irrefl _), fun b o e => (by cases e)⟩
  · refine ⟨some ⟨g, 0, none⟩, cap, rfl, fun _ => ⟨g, 0, rfl, fun j hj c hc => ?_⟩, fun b o e => (by cases e; exact hbg)⟩
    have hg := tcells_get T len hj hc
    rw [← ht, List.getElem?_take, if_pos (by omega)] at hg
    rw [Nat.zero_add]
    exact cell_of_blk hh (by simpa using hg)

set_option maxRecDepth 100000 in
set_option maxHeartbeats 800000 in
theorem clone4_some (ad : Addr) (len cap : Nat) (T : Nat → Nat → ByteArray) (w : World) (hl : len * 48 ≤ 140737488351232) (h : Rd3 w (some ad) len (fun j c => .string (T j c))) :
    Calls Yba.prog 4 #[.slice (some ad) len cap] w fun e w' => ∃ a' cap', e = .returned (.slice a' len cap') ∧ Rd3 w' a' len (fun j c => .string (T j c)) ∧ Fr [] w w' ∧ ∀ b o, a' = some ⟨b, o, none⟩ → w.heap.size ≤ b := by
  obtain ⟨i30, hi, hz, hs, hb⟩ := info_parts Yba.info30
  have hq := fun (W : World) (a : Option Addr) (l c : Nat) => Lib.run_eql_slice_nil (P := Yba.prog) W 23 30 a l c 0 0 Yba.underlying23
  have hnews := news_of h ((Fr.refl [] w).alloc (.cells #[] 30))
  have HN := hide_of hnews
  have hone : ∀ u ∈ tcells (fun j c => Value.string (T j c)) len, u.oneCell' = true := by
    intro u hu
    simp only [tcells, List.mem_map] at hu
    obtain ⟨x, _, rfl⟩ := hu
    rfl
  have HO := hide_of hone
  have HT := hide_of (tcells_len (fun j c => Value.string (T j c)) len)
  clear hnews hone
  go_enter Yba.func4, Yba.ntmps4
  go_wp2_with (at_builtin; refine wpList_append_own _ rfl (.tmp 5) (.tmp 6) 23 rfl w.heap.size 30 i30 (.agg #[.string ⟨#[]⟩, .string ⟨#[]⟩, .string ⟨#[]⟩]) 3 48 Yba.underlying23 hi hz hs hb rfl (by decide) (.slice (some ⟨w.heap.size, 0, none⟩) 0 0) 0 [] rfl (own_empty w 30) ad len cap (tcells (fun j c => .string (T j c)) len) rfl HT.out HN.out HO.out (by unfold maxLen; omega) (by omega) (by simp) ?_; intro v' w1 hown hg hnil)
  obtain ⟨a', cap', rfl, hr, hfresh⟩ := own_rd (by simpa using hown)
  have hf : Fr [] w w1 := grown_fr hg
  clear hown hg hnil
  go_wp2
  go_ret
  exact ⟨a', cap', rfl, hr, hf, hfresh⟩

set_option maxRecDepth 100000 in
set_option maxHeartbeats 800000 in
theorem clone4_none (w : World) : Calls Yba.prog 4 #[.slice none 0 0] w fun e w' => e = .returned (.slice none 0 0) ∧ w' = w := by
  have hq := fun (W : World) (a : Option Addr) (l c : Nat) => Lib.run_eql_slice_nil (P := Yba.prog) W 23 30 a l c 0 0 Yba.underlying23
  go_enter Yba.func4, Yba.ntmps4
  go_wp2
  go_ret
  exact ⟨rfl, rfl⟩

theorem clone4_any (a : Option Addr) (len cap : Nat) (T : Nat → Nat → ByteArray) (w : World) (hn : a = none → len = 0 ∧ cap = 0) (hl : len * 48 ≤ 140737488351232) (h : RdT w a len T) :
    Calls Yba.prog 4 #[.slice a len cap] w fun e w' => ∃ a' cap', e = .returned (.slice a' len cap') ∧ RdT w' a' len T ∧ Fr [] w w' ∧ ∀ b o, a' = some ⟨b, o, none⟩ → w.heap.size ≤ b := by
  cases a with
  | none =>
    obtain ⟨rfl, rfl⟩ := hn rfl
    refine (clone4_none w).mono ?_
    rintro e w' ⟨rfl, rfl⟩
    exact ⟨none, 0, rfl, h, Fr.refl _ _, fun b o e => (by cases e)⟩
  | some ad => exact clone4_some ad len cap T w hl h

/-- The cells of the j-th step, its answer's closure over the block K j. -/
def stepT (K : Nat → Nat) (j c : Nat) : Value := if c = 0 then .int .i64 0 else if c = 1 then .slice none 0 0 else .func (.func 16) #[] #[.pointer (some ⟨K j, 0, none⟩)]

set_option maxRecDepth 100000 in
set_option maxHeartbeats 800000 in
theorem clone17_any (ad : Addr) (len cap : Nat) (K : Nat → Nat) (w : World) (hl : len ≤ 65536) (h : Rd3 w (some ad) len (stepT K)) :
    Calls Yba.prog 17 #[.slice (some ad) len cap] w fun e w' => ∃ a' cap', e = .returned (.slice a' len cap') ∧ Rd3 w' a' len (stepT K) ∧ Fr [] w w' ∧ ∀ b o, a' = some ⟨b, o, none⟩ → w.heap.size ≤ b := by
  obtain ⟨i54, hi, hz, hs, hb⟩ := info_parts Yba.info54
  have hq := fun (W : World) (a : Option Addr) (l c : Nat) => Lib.run_eql_slice_nil (P := Yba.prog) W 40 54 a l c 0 0 Yba.underlying40
  have hnews := news_of h ((Fr.refl [] w).alloc (.cells #[] 54))
  have HN := hide_of hnews
  have hone : ∀ u ∈ tcells (stepT K) len, u.oneCell' = true := by
    intro u hu
    simp only [tcells, List.mem_map] at hu
    obtain ⟨x, _, rfl⟩ := hu
    unfold stepT
    split
    · rfl
    · split <;> rfl
  have HO := hide_of hone
  have HT := hide_of (tcells_len (stepT K) len)
  clear hnews hone
  go_enter Yba.func17, Yba.ntmps17
  go_wp2_with (at_builtin; refine wpList_append_own _ rfl (.tmp 5) (.tmp 6) 40 rfl w.heap.size 54 i54 (.agg #[.int .i64 0, .slice none 0 0, .nilFunc]) 3 40 Yba.underlying40 hi hz hs hb rfl (by decide) (.slice (some ⟨w.heap.size, 0, none⟩) 0 0) 0 [] rfl (own_empty w 54) ad len cap (tcells (stepT K) len) rfl HT.out HN.out HO.out (by unfold maxLen; omega) (by omega) (by simp) ?_; intro v' w1 hown hg hnil)
  obtain ⟨a', cap', rfl, hr, hfresh⟩ := own_rd (by simpa using hown)
  have hf : Fr [] w w1 := grown_fr hg
  clear hown hg hnil
  go_wp2
  go_ret
  exact ⟨a', cap', rfl, hr, hf, hfresh⟩
end Go.Proofs.Ybulkhdai
