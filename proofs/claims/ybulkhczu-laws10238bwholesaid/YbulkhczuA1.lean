import Derived.Test.YbulkhczuCalls
import Derived.Test.YbulkhczuGhost
namespace Go.Proofs.Ybulkhczu
open Go.RowKit
open Go.ChangeMaps (setBlock)

/-- A slice as the walk wants it: where there is an element, the elements lie at an address. -/
def Rds (w : World) (a : Option Addr) (len : Nat) (v : Nat → Value) : Prop :=
  0 < len → ∃ b o, a = some ⟨b, o, none⟩ ∧ ∀ i, i < len → w.cell? ⟨b, o + i, none⟩ = some (v i)

theorem Rds.below {w w' : World} {a : Option Addr} {len : Nat} {v : Nat → Value} (h : Rds w a len v) (hb : Below w.heap.size w w') : Rds w' a len v := by
  intro h0
  obtain ⟨b, o, ha, hc⟩ := h h0
  refine ⟨b, o, ha, fun i hi => ?_⟩
  have := hc i hi
  rw [hb.cell (p := ⟨b, o + i, none⟩) (cell_lt this)]
  exact this

/-- A row of n cells, given by a function. -/
def rowF (n : Nat) (v : Nat → Value) : Array Value := ((List.range n).map v).toArray

theorem rowF_get {n : Nat} {v : Nat → Value} {i : Nat} (h : i < n) : (rowF n v)[i]? = some (v i) := by
  simp [rowF, h]

theorem rowF_set {n : Nat} {v : Nat → Value} {i : Nat} (x : Value) : (rowF n v).setIfInBounds i x = rowF n (fun j => if j = i then x else v j) := by
  apply Array.ext
  · simp [rowF]
  · intro j h1 h2
    simp [rowF] at h1 h2
    simp only [rowF]
    by_cases hj : i = j
    · subst hj; simp
    · simp [hj, Ne.symm hj]

theorem rowF_congr {n : Nat} {v u : Nat → Value} (h : ∀ i, i < n → v i = u i) : rowF n v = rowF n u := by
  unfold rowF
  congr 1
  exact List.map_congr_left (fun i hi => h i (List.mem_range.1 hi))

theorem made_row (z : Value) (n : Nat) : madeCells #[z] n = rowF n (fun _ => z) := by
  apply Array.ext
  · simp [rowF, madeCells]
  · intro j h1 h2
    simp [rowF, madeCells]
    simp [Nat.mod_one]

theorem run_make_rowF {P : Program} {t e : TypeId} {i : TypeInfo} {z : Value} (ht : P.underlying t = some (.slice e)) (hi : P.info? e = some i) (hz : i.zero = some z) (hc : z.cells = #[z]) (h1 : i.size = 1) (n : Nat) (hb : i.bytes * n ≤ 281474976710656) (hn : n ≤ 9223372036854775807) (w : World) :
    (Instr.makeSlice t (.int .i64 n) (.int .i64 n)).run P w = .ok (.slice (some ⟨w.heap.size, 0, none⟩) n n) (w.alloc (.cells (rowF n (fun _ => z)) e)) := by
  have hb' : (i.bytes : Int) * (n : Int) ≤ 281474976710656 := by have h := Int.ofNat_le.2 hb; rw [Int.natCast_mul] at h; exact h
  have := run_make (P := P) w t e i z ht hi hz .i64 .i64 (n : Int) (n : Int) (by omega) (by omega) hb' (by omega)
  rw [this, hc, h1]
  simp [made_row]
end Go.Proofs.Ybulkhczu
