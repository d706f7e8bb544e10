import Derived.Test.YbulkhdngFmtLaw
import Derived.OpenShut
import Derived.SizedLaws
namespace Go.Proofs.YbulkhdngFmt
open Go.ChangeShapes Go.WideShapes Go.RowKit

theorem cells28 : Ybaf.prog.cellsOf 28 = 4 := by kernel_rfl
theorem cells3 : Ybaf.prog.cellsOf 3 = 1 := by kernel_rfl
theorem cells2 : Ybaf.prog.cellsOf 2 = 1 := by kernel_rfl
theorem bytes28 : Ybaf.prog.bytesOf 28 = 32 := by kernel_rfl

def iOf : Option Value → Int | some (.int _ n) => n | _ => 0
def dOf (w : World) (b p : Nat) : Dec := ⟨iOf (w.cell? ⟨b, p, none⟩), iOf (w.cell? ⟨b, p + 1, none⟩), iOf (w.cell? ⟨b, p + 2, none⟩), iOf (w.cell? ⟨b, p + 3, none⟩)⟩

theorem len4 {l : List Value} (h : l.length = 4) : ∃ a b c d, l = [a, b, c, d] := by
  rcases l with _ | ⟨a, _ | ⟨b, _ | ⟨c, _ | ⟨d, _ | ⟨e, l⟩⟩⟩⟩⟩ <;> simp at h ⊢

section
variable {H : Type} {enc : TypeId × Value → H} {w : World} {base : Nat} {sp : Nat → Bool} {held : Bool}

theorem cells_get {b : Nat} {a : Addr} {n : Nat} {cs : List Value} (h : w.cells? b a n = some cs) : cs.length = n ∧ ∀ i, i < n → w.cell? (a.add i) = cs[i]? := by
  unfold World.cells? at h
  split at h
  · exact ⟨by simpa using mapM_some_length h, fun i hi => mapM_some_get h i i (by simp [hi])⟩
  · cases h

theorem open28 {fuel : Nat} {cs : List Value} {y : DataW H × List MemPlace} (h : DataW.trod enc Ybaf.prog w base sp held fuel 28 cs = some y) : ∃ s0 s1 s2 s3, cs = [.int .i64 s0, .int .i64 s1, .int .i64 s2, .int .i64 s3] := by
  obtain ⟨xs, n, _, _, hl, hx, hf⟩ := DataW.trod_struct Ybaf.underlying28 h
  rw [cells28] at hl
  obtain ⟨c0, c1, c2, c3, rfl⟩ := len4 hl
  have hx3 : xs.length = 4 := hx
  have f0 : DataW.trod enc Ybaf.prog w base sp held n 2 (([c0, c1, c2, c3].drop 0).take (Ybaf.prog.cellsOf 2)) = xs[0]? := hf 0 _ rfl
  have f1 : DataW.trod enc Ybaf.prog w base sp held n 3 (([c0, c1, c2, c3].drop 1).take (Ybaf.prog.cellsOf 3)) = xs[1]? := hf 1 _ rfl
  have f2 : DataW.trod enc Ybaf.prog w base sp held n 3 (([c0, c1, c2, c3].drop 2).take (Ybaf.prog.cellsOf 3)) = xs[2]? := hf 2 _ rfl
  have f3 : DataW.trod enc Ybaf.prog w base sp held n 3 (([c0, c1, c2, c3].drop 3).take (Ybaf.prog.cellsOf 3)) = xs[3]? := hf 3 _ rfl
  rw [List.getElem?_eq_getElem (show 0 < xs.length by omega), cells2] at f0
  rw [List.getElem?_eq_getElem (show 1 < xs.length by omega), cells3] at f1
  rw [List.getElem?_eq_getElem (show 2 < xs.length by omega), cells3] at f2
  rw [List.getElem?_eq_getElem (show 3 < xs.length by omega), cells3] at f3
  obtain ⟨s0, h0, _⟩ := DataW.trod_int Ybaf.underlying2 f0
  obtain ⟨s1, h1, _⟩ := DataW.trod_int Ybaf.underlying3 f1
  obtain ⟨s2, h2, _⟩ := DataW.trod_int Ybaf.underlying3 f2
  obtain ⟨s3, h3, _⟩ := DataW.trod_int Ybaf.underlying3 f3
  simp at h0 h1 h2 h3
  subst h0; subst h1; subst h2; subst h3
  exact ⟨_, _, _, _, rfl⟩

theorem open22 {fuel : Nat} {a : Option Addr} {n cap : Nat} {y : DataW H × List MemPlace} (h : DataW.trod enc Ybaf.prog w base sp held fuel 22 [.slice a n cap] = some y) (hs : ∀ q ∈ y.1.weights Ybaf.prog 22, q ≤ reachBytes) :
    n ≤ 140737488351232 ∧ ∃ V, RdD w a n V := by
  rcases DataW.trod_slice Ybaf.underlying22 h with ⟨hcs, _⟩ | ⟨x, len, cap', elems, rest, m, _, hcs, rfl, _, hl, hm, hlen, hel, _, _⟩
  · simp at hcs
    obtain ⟨rfl, rfl, rfl⟩ := hcs
    exact ⟨by omega, fun _ => ⟨0, 0, 0, 0⟩, fun h => absurd h (by omega)⟩
  · simp at hcs
    obtain ⟨rfl, rfl, rfl⟩ := hcs
    have hn : n ≤ 140737488351232 := by
      have := hs ((elems.length + rest.length) * 32) (by simp [DataW.weights, Ybaf.underlying22, bytes28])
      simp only [reachBytes] at this
      omega
    have each : ∀ i, i < n → ∃ s0 s1 s2 s3, ∀ j, j < 4 → w.cell? ((x.add (i * 4)).add j) = [Value.int .i64 s0, .int .i64 s1, .int .i64 s2, .int .i64 s3][j]? := fun i hi => by
      have hE := hel i hi
      rw [List.getElem?_eq_getElem (by omega), Option.bind_eq_some_iff, cells28] at hE
      obtain ⟨cs, hcs, hy⟩ := hE
      obtain ⟨s0, s1, s2, s3, rfl⟩ := open28 hy
      exact ⟨s0, s1, s2, s3, (cells_get hcs).2⟩
    refine ⟨hn, ?_⟩
    by_cases h0 : 0 < n
    · obtain ⟨b, o, spot⟩ := x
      obtain ⟨_, _, _, _, hh⟩ := each 0 h0
      have hspot : spot = none := by simpa [Addr.add] using World.cell?_spot (hh 0 (by omega))
      subst hspot
      refine ⟨fun i => dOf w b (o + i * 4), fun _ => ⟨b, o, rfl, fun i hi => ?_⟩⟩
      obtain ⟨s0, s1, s2, s3, hh⟩ := each i hi
      have k0 := hh 0 (by omega)
      have k1 := hh 1 (by omega)
      have k2 := hh 2 (by omega)
      have k3 := hh 3 (by omega)
      simp [Addr.add_lit] at k0 k1 k2 k3
      have hd : dOf w b (o + i * 4) = ⟨s0, s1, s2, s3⟩ := by
        simp only [dOf, k0, k1, k2, k3, iOf]
      show Cells4 w b (o + i * 4) (dOf w b (o + i * 4))
      rw [hd]
      exact ⟨k0, k1, k2, k3⟩
    · exact ⟨fun _ => ⟨0, 0, 0, 0⟩, fun h => absurd h h0⟩
end
end Go.Proofs.YbulkhdngFmt
