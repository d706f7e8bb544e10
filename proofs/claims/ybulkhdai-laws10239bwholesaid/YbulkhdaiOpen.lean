import Derived.Test.YbulkhdaiLaw
import Derived.OpenShut
import Derived.SizedLaws
import Derived.SliceStrings
namespace Go.Proofs.Ybulkhdai
open Go.ChangeShapes Go.WideShapes Go.RowKit

theorem cells9 : Yba.prog.cellsOf 9 = 1 := by kernel_rfl
theorem cells23 : Yba.prog.cellsOf 23 = 1 := by kernel_rfl
theorem cells25 : Yba.prog.cellsOf 25 = 3 := by kernel_rfl
theorem cells27 : Yba.prog.cellsOf 27 = 7 := by kernel_rfl
theorem cells30 : Yba.prog.cellsOf 30 = 3 := by kernel_rfl
theorem cells3 : Yba.prog.cellsOf 3 = 1 := by kernel_rfl
theorem bytes30 : Yba.prog.bytesOf 30 = 48 := by kernel_rfl

def sOf : Option Value → ByteArray | some (.string s) => s | _ => ⟨#[]⟩
def iOf : Option Value → Int | some (.int _ n) => n | _ => 0
def laOf : Option Value → Option Addr | some (.slice a _ _) => a | _ => none
def llOf : Option Value → Nat | some (.slice _ l _) => l | _ => 0
def lcOf : Option Value → Nat | some (.slice _ _ c) => c | _ => 0
def dOf (w : World) (b p : Nat) : Rsp :=
  ⟨sOf (w.cell? ⟨b, p, none⟩), sOf (w.cell? ⟨b, p + 1, none⟩), laOf (w.cell? ⟨b, p + 2, none⟩), llOf (w.cell? ⟨b, p + 2, none⟩), lcOf (w.cell? ⟨b, p + 2, none⟩), sOf (w.cell? ⟨b, p + 3, none⟩), iOf (w.cell? ⟨b, p + 4, none⟩), iOf (w.cell? ⟨b, p + 5, none⟩), iOf (w.cell? ⟨b, p + 6, none⟩)⟩
def tOf (w : World) (a : Option Addr) (j c : Nat) : ByteArray := match a with | some x => sOf (w.cell? ⟨x.block, x.off + j * 3 + c, none⟩) | none => ⟨#[]⟩

section
variable {H : Type} {enc : TypeId × Value → H} {w : World} {base : Nat} {sp : Nat → Bool} {held : Bool}

theorem cells_get {b : Nat} {a : Addr} {n : Nat} {cs : List Value} (h : w.cells? b a n = some cs) : cs.length = n ∧ ∀ i, i < n → w.cell? (a.add i) = cs[i]? := by
  unfold World.cells? at h
  split at h
  · exact ⟨by simpa using mapM_some_length h, fun i hi => mapM_some_get h i i (by simp [hi])⟩
  · cases h

theorem mem_all {t : TypeId} : ∀ {ds : List (DataW H)} {i : Nat} {d : DataW H}, ds[i]? = some d → ∀ n ∈ d.weights Yba.prog t, n ∈ DataW.weightsAll Yba.prog t ds
  | d0 :: ds, 0, d, hd, n, hn => by
    simp only [List.getElem?_cons_zero, Option.some.injEq] at hd
    subst hd
    simp only [DataW.weightsAll, List.mem_append]
    exact Or.inl hn
  | d0 :: ds, i + 1, d, hd, n, hn => by
    simp only [List.getElem?_cons_succ] at hd
    simp only [DataW.weightsAll, List.mem_append]
    exact Or.inr (mem_all hd n hn)
  | [], _, _, hd, _, _ => by simp at hd

theorem len3 {l : List Value} (h : l.length = 3) : ∃ a b c, l = [a, b, c] := by
  rcases l with _ | ⟨a, _ | ⟨b, _ | ⟨c, _ | ⟨d, l⟩⟩⟩⟩ <;> simp at h ⊢
theorem len7 {l : List Value} (h : l.length = 7) : ∃ a b c d e f g, l = [a, b, c, d, e, f, g] := by
  rcases l with _ | ⟨a, _ | ⟨b, _ | ⟨c, l⟩⟩⟩
  · cases h
  · cases h
  · simp at h
  rcases l with _ | ⟨d, _ | ⟨e, _ | ⟨f, _ | ⟨g, _ | ⟨k, l⟩⟩⟩⟩⟩ <;> simp at h ⊢

theorem open30 {fuel : Nat} {cs : List Value} {y : DataW H × List MemPlace} (h : DataW.trod enc Yba.prog w base sp held fuel 30 cs = some y) : ∃ s0 s1 s2, cs = [.string s0, .string s1, .string s2] := by
  obtain ⟨xs, n, _, _, hl, hx, hf⟩ := DataW.trod_struct Yba.underlying30 h
  rw [cells30] at hl
  obtain ⟨c0, c1, c2, rfl⟩ := len3 hl
  have hx3 : xs.length = 3 := hx
  have f0 : DataW.trod enc Yba.prog w base sp held n 9 (([c0, c1, c2].drop 0).take (Yba.prog.cellsOf 9)) = xs[0]? := hf 0 _ rfl
  have f1 : DataW.trod enc Yba.prog w base sp held n 9 (([c0, c1, c2].drop 1).take (Yba.prog.cellsOf 9)) = xs[1]? := hf 1 _ rfl
  have f2 : DataW.trod enc Yba.prog w base sp held n 9 (([c0, c1, c2].drop 2).take (Yba.prog.cellsOf 9)) = xs[2]? := hf 2 _ rfl
  rw [List.getElem?_eq_getElem (show 0 < xs.length by omega), cells9] at f0
  rw [List.getElem?_eq_getElem (show 1 < xs.length by omega), cells9] at f1
  rw [List.getElem?_eq_getElem (show 2 < xs.length by omega), cells9] at f2
  obtain ⟨s0, h0, _⟩ := DataW.trod_string Yba.underlying9 f0
  obtain ⟨s1, h1, _⟩ := DataW.trod_string Yba.underlying9 f1
  obtain ⟨s2, h2, _⟩ := DataW.trod_string Yba.underlying9 f2
  simp at h0 h1 h2
  subst h0; subst h1; subst h2
  exact ⟨_, _, _, rfl⟩

theorem open25 {fuel : Nat} {cs : List Value} {y : DataW H × List MemPlace} (h : DataW.trod enc Yba.prog w base sp held fuel 25 cs = some y) : ∃ s0 s1 s2, cs = [.int .i64 s0, .int .i64 s1, .int .i64 s2] := by
  obtain ⟨xs, n, _, _, hl, hx, hf⟩ := DataW.trod_struct Yba.underlying25 h
  rw [cells25] at hl
  obtain ⟨c0, c1, c2, rfl⟩ := len3 hl
  have hx3 : xs.length = 3 := hx
  have f0 : DataW.trod enc Yba.prog w base sp held n 3 (([c0, c1, c2].drop 0).take (Yba.prog.cellsOf 3)) = xs[0]? := hf 0 _ rfl
  have f1 : DataW.trod enc Yba.prog w base sp held n 3 (([c0, c1, c2].drop 1).take (Yba.prog.cellsOf 3)) = xs[1]? := hf 1 _ rfl
  have f2 : DataW.trod enc Yba.prog w base sp held n 3 (([c0, c1, c2].drop 2).take (Yba.prog.cellsOf 3)) = xs[2]? := hf 2 _ rfl
  rw [List.getElem?_eq_getElem (show 0 < xs.length by omega), cells3] at f0
  rw [List.getElem?_eq_getElem (show 1 < xs.length by omega), cells3] at f1
  rw [List.getElem?_eq_getElem (show 2 < xs.length by omega), cells3] at f2
  obtain ⟨s0, h0, _⟩ := DataW.trod_int Yba.underlying3 f0
  obtain ⟨s1, h1, _⟩ := DataW.trod_int Yba.underlying3 f1
  obtain ⟨s2, h2, _⟩ := DataW.trod_int Yba.underlying3 f2
  simp at h0 h1 h2
  subst h0; subst h1; subst h2
  exact ⟨_, _, _, rfl⟩

theorem open23 {fuel : Nat} {cs : List Value} {y : DataW H × List MemPlace} (h : DataW.trod enc Yba.prog w base sp held fuel 23 cs = some y) (hs : ∀ q ∈ y.1.weights Yba.prog 23, q ≤ reachBytes) :
    ∃ a l c, cs = [.slice a l c] ∧ (a = none → l = 0 ∧ c = 0) ∧ RdT w a l (tOf w a) ∧ l * 48 ≤ 140737488351232 := by
  rcases DataW.trod_slice Yba.underlying23 h with ⟨rfl, _⟩ | ⟨a, len, cap, elems, rest, n, _, rfl, rfl, _, hl, hm, hlen, hel, _, _⟩
  · exact ⟨none, 0, 0, rfl, fun _ => ⟨rfl, rfl⟩, fun h => absurd h (by omega), by omega⟩
  · refine ⟨some a, len, cap, rfl, fun h => (by cases h), fun h0 => ?_, ?_⟩
    · have each : ∀ j, j < len → ∃ s0 s1 s2, ∀ c, c < 3 → w.cell? ((a.add (j * 3)).add c) = [Value.string s0, .string s1, .string s2][c]? := fun j hj => by
        have hE := hel j hj
        rw [List.getElem?_eq_getElem (by omega), Option.bind_eq_some_iff, cells30] at hE
        obtain ⟨cs, hcs, hy⟩ := hE
        obtain ⟨s0, s1, s2, rfl⟩ := open30 hy
        exact ⟨s0, s1, s2, (cells_get hcs).2⟩
      obtain ⟨b, o, spot⟩ := a
      obtain ⟨s0, s1, s2, hh⟩ := each 0 h0
      have hspot : spot = none := by simpa [Addr.add] using World.cell?_spot (hh 0 (by omega))
      subst hspot
      refine ⟨b, o, rfl, fun j hj c hc => ?_⟩
      obtain ⟨s0, s1, s2, hh⟩ := each j hj
      have := hh c hc
      simp only [Addr.add_lit] at this
      simp only [tOf]
      rw [this]
      rcases (show c = 0 ∨ c = 1 ∨ c = 2 by omega) with rfl | rfl | rfl <;> simp [sOf]
    · have := hs ((elems.length + rest.length) * 48) (by simp [DataW.weights, Yba.underlying23, bytes30])
      simp only [reachBytes] at this
      omega

theorem open27 {fuel : Nat} {cs : List Value} {y : DataW H × List MemPlace} (h : DataW.trod enc Yba.prog w base sp held fuel 27 cs = some y) (hs : ∀ q ∈ y.1.weights Yba.prog 27, q ≤ reachBytes) :
    ∃ s0 s1 a l c s3 u0 u1 u2, cs = [.string s0, .string s1, .slice a l c, .string s3, .int .i64 u0, .int .i64 u1, .int .i64 u2] ∧ (a = none → l = 0 ∧ c = 0) ∧ RdT w a l (tOf w a) ∧ l * 48 ≤ 140737488351232 := by
  obtain ⟨xs, n, _, rfl, hl, hx, hf⟩ := DataW.trod_struct Yba.underlying27 h
  rw [cells27] at hl
  obtain ⟨c0, c1, c2, c3, c4, c5, c6, rfl⟩ := len7 hl
  have hx3 : xs.length = 5 := hx
  have f0 : DataW.trod enc Yba.prog w base sp held n 9 (([c0, c1, c2, c3, c4, c5, c6].drop 0).take (Yba.prog.cellsOf 9)) = xs[0]? := hf 0 _ rfl
  have f1 : DataW.trod enc Yba.prog w base sp held n 9 (([c0, c1, c2, c3, c4, c5, c6].drop 1).take (Yba.prog.cellsOf 9)) = xs[1]? := hf 1 _ rfl
  have f2 : DataW.trod enc Yba.prog w base sp held n 23 (([c0, c1, c2, c3, c4, c5, c6].drop 2).take (Yba.prog.cellsOf 23)) = xs[2]? := hf 2 _ rfl
  have f3 : DataW.trod enc Yba.prog w base sp held n 9 (([c0, c1, c2, c3, c4, c5, c6].drop 3).take (Yba.prog.cellsOf 9)) = xs[3]? := hf 3 _ rfl
  have f4 : DataW.trod enc Yba.prog w base sp held n 25 (([c0, c1, c2, c3, c4, c5, c6].drop 4).take (Yba.prog.cellsOf 25)) = xs[4]? := hf 4 _ rfl
  rw [List.getElem?_eq_getElem (show 0 < xs.length by omega), cells9] at f0
  rw [List.getElem?_eq_getElem (show 1 < xs.length by omega), cells9] at f1
  rw [List.getElem?_eq_getElem (show 2 < xs.length by omega), cells23] at f2
  rw [List.getElem?_eq_getElem (show 3 < xs.length by omega), cells9] at f3
  rw [List.getElem?_eq_getElem (show 4 < xs.length by omega), cells25] at f4
  obtain ⟨s0, h0, _⟩ := DataW.trod_string Yba.underlying9 f0
  obtain ⟨s1, h1, _⟩ := DataW.trod_string Yba.underlying9 f1
  obtain ⟨a, l, c, h2, e1, e2, e3⟩ := open23 f2 (fun q hq => hs q (by
    simp only [DataW.weights, Yba.underlying27]
    exact DataW.weights_mem_each (j := 2) (t := 23) rfl (by rw [List.getElem?_map, List.getElem?_eq_getElem (by omega)]; rfl) q hq))
  obtain ⟨s3, h3, _⟩ := DataW.trod_string Yba.underlying9 f3
  obtain ⟨u0, u1, u2, h4⟩ := open25 f4
  simp at h0 h1 h2 h3 h4
  obtain ⟨h4, h5, h6⟩ := h4
  subst h0; subst h1; subst h2; subst h3; subst h4; subst h5; subst h6
  exact ⟨_, _, _, _, _, _, _, _, _, rfl, e1, e2, e3⟩

theorem open22 {fuel : Nat} {a : Option Addr} {n cap : Nat} {y : DataW H × List MemPlace} (h : DataW.trod enc Yba.prog w base sp held fuel 22 [.slice a n cap] = some y) (hs : ∀ q ∈ y.1.weights Yba.prog 22, q ≤ reachBytes) :
    n ≤ 140737488351232 ∧ ∃ D T, RdR w a n D ∧ Okay w n D T := by
  rcases DataW.trod_slice Yba.underlying22 h with ⟨hcs, _⟩ | ⟨x, len, cap', elems, rest, m, _, hcs, rfl, _, hl, hm, hlen, hel, _, _⟩
  · simp at hcs
    obtain ⟨rfl, rfl, rfl⟩ := hcs
    exact ⟨by omega, fun _ => Rsp.zero, fun _ _ _ => ⟨#[]⟩, fun h => absurd h (by omega), fun i h => absurd h (by omega)⟩
  · simp at hcs
    obtain ⟨rfl, rfl, rfl⟩ := hcs
    have hn : n ≤ 140737488351232 := by
      have b27 : Yba.prog.bytesOf 27 = 96 := by kernel_rfl
      have := hs ((elems.length + rest.length) * 96) (by simp [DataW.weights, Yba.underlying22, b27])
      simp only [reachBytes] at this
      omega
    have each : ∀ i, i < n → ∃ s0 s1 a l c s3 u0 u1 u2, (∀ j, j < 7 → w.cell? ((x.add (i * 7)).add j) = [Value.string s0, .string s1, .slice a l c, .string s3, .int .i64 u0, .int .i64 u1, .int .i64 u2][j]?) ∧ (a = none → l = 0 ∧ c = 0) ∧ RdT w a l (tOf w a) ∧ l * 48 ≤ 140737488351232 := fun i hi => by
      have hE := hel i hi
      rw [List.getElem?_eq_getElem (by omega), Option.bind_eq_some_iff, cells27] at hE
      obtain ⟨cs, hcs, hy⟩ := hE
      obtain ⟨s0, s1, a, l, c, s3, u0, u1, u2, rfl, e1, e2, e3⟩ := open27 hy (fun q hq => hs q (by
        simp only [DataW.weights, Yba.underlying22, List.mem_cons, List.mem_append]
        exact Or.inr (Or.inl (mem_all (i := i) (by rw [List.getElem?_map, List.getElem?_eq_getElem (by omega)]; rfl) q hq))))
      exact ⟨s0, s1, a, l, c, s3, u0, u1, u2, (cells_get hcs).2, e1, e2, e3⟩
    refine ⟨hn, ?_⟩
    by_cases h0 : 0 < n
    · obtain ⟨b, o, spot⟩ := x
      obtain ⟨_, _, _, _, _, _, _, _, _, hh, _⟩ := each 0 h0
      have hspot : spot = none := by simpa [Addr.add] using World.cell?_spot (hh 0 (by omega))
      subst hspot
      have key : ∀ i, i < n → Cells7 w b (o + i * 7) (dOf w b (o + i * 7)) ∧ RdT w (dOf w b (o + i * 7)).ta (dOf w b (o + i * 7)).tl (tOf w (dOf w b (o + i * 7)).ta) ∧ ((dOf w b (o + i * 7)).ta = none → (dOf w b (o + i * 7)).tl = 0 ∧ (dOf w b (o + i * 7)).tc = 0) ∧ (dOf w b (o + i * 7)).tl * 48 ≤ 140737488351232 := fun i hi => by
        obtain ⟨s0, s1, a, l, c, s3, u0, u1, u2, hh, e1, e2, e3⟩ := each i hi
        have k0 := hh 0 (by omega)
        have k1 := hh 1 (by omega)
        have k2 := hh 2 (by omega)
        have k3 := hh 3 (by omega)
        have k4 := hh 4 (by omega)
        have k5 := hh 5 (by omega)
        have k6 := hh 6 (by omega)
        simp [Addr.add_lit] at k0 k1 k2 k3 k4 k5 k6
        have hd : dOf w b (o + i * 7) = ⟨s0, s1, a, l, c, s3, u0, u1, u2⟩ := by
          simp only [dOf, k0, k1, k2, k3, k4, k5, k6, sOf, iOf, laOf, llOf, lcOf]
        rw [hd]
        exact ⟨⟨k0, k1, k2, k3, k4, k5, k6⟩, e2, e1, e3⟩
      exact ⟨fun i => dOf w b (o + i * 7), fun i => tOf w (dOf w b (o + i * 7)).ta, fun _ => ⟨b, o, rfl, fun i hi => (key i hi).1⟩, fun i hi => (key i hi).2⟩
    · exact ⟨fun _ => Rsp.zero, fun _ _ _ => ⟨#[]⟩, fun h => absurd h h0, fun i h => absurd h (by omega)⟩
end
end Go.Proofs.Ybulkhdai
