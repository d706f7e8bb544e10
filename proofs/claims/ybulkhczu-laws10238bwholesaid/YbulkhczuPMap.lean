import Derived.Test.YbulkhczuLocks
import Derived.LaidEqlPtr
import Derived.Maps.OwnSet
namespace Go.Proofs.Ybulkhczu
open Go.RowKit
open Go.ChangeMaps (setBlock)

/-- Block b holds plain cells, none frozen. -/
def IsCells (w : World) (b : Nat) : Prop := ∃ c t, w.heap[b]? = some (.cells c t (0, 0))

/-- The entries of a map keyed by pointers to the heads of blocks: the keys' blocks and the elements, in order. -/
def Ents (w : World) (l : List MapEntry) (f : List (Nat × Value)) : Prop :=
  l.map (fun e => (e.key, e.val)) = f.map (fun p => (Value.pointer (some ⟨p.1, 0, none⟩), p.2)) ∧ ∀ p ∈ f, IsCells w p.1

def PMap (w : World) (m : Nat) (f : List (Nat × Value)) : Prop := ∃ es clock, w.heap[m]? = some (.map es clock) ∧ Ents w es.toList f

def idxF (b : Nat) : List (Nat × Value) → Nat → Option (Nat × Value)
  | [], _ => none
  | p :: r, i => if p.1 = b then some (i, p.2) else idxF b r (i + 1)

def lookF (b : Nat) : List (Nat × Value) → Option Value
  | [] => none
  | p :: r => if p.1 = b then some p.2 else lookF b r

def updF (b : Nat) (v : Value) : List (Nat × Value) → List (Nat × Value)
  | [] => [(b, v)]
  | p :: r => if p.1 = b then (b, v) :: r else p :: updF b v r

def delF (b : Nat) : List (Nat × Value) → List (Nat × Value)
  | [] => []
  | p :: r => if p.1 = b then r else p :: delF b r

theorem idx_look (b : Nat) : ∀ (f : List (Nat × Value)) (i : Nat), (idxF b f i).map (·.2) = lookF b f
  | [], _ => rfl
  | p :: r, i => by
    unfold idxF lookF
    split
    · rfl
    · exact idx_look b r (i + 1)

theorem idx_none (b : Nat) (v : Value) : ∀ (f : List (Nat × Value)) (i : Nat), idxF b f i = none → updF b v f = f ++ [(b, v)] ∧ delF b f = f
  | [], _, _ => ⟨rfl, rfl⟩
  | p :: r, i, h => by
    unfold idxF at h
    split at h
    · cases h
    · rename_i hne
      obtain ⟨h1, h2⟩ := idx_none b v r (i + 1) h
      simp [updF, delF, hne, h1, h2]

theorem idx_some (b : Nat) (v : Value) : ∀ (f : List (Nat × Value)) (i j : Nat) (u : Value), idxF b f i = some (j, u) →
    ∃ k, j = i + k ∧ f[k]? = some (b, u) ∧ updF b v f = f.set k (b, v) ∧ delF b f = f.eraseIdx k
  | [], _, _, _, h => by cases h
  | p :: r, i, j, u, h => by
    unfold idxF at h
    split at h
    · rename_i he
      simp at h
      obtain ⟨rfl, rfl⟩ := h
      exact ⟨0, rfl, by simp [← he], by simp [updF, he], by simp [delF, he]⟩
    · rename_i hne
      obtain ⟨k, h1, h2, h3, h4⟩ := idx_some b v r (i + 1) j u h
      exact ⟨k + 1, by omega, by simpa using h2, by simp [updF, hne, h3], by simp [delF, hne, h4]⟩

section
variable {P : Program} {K T : TypeId} {j : TypeInfo}

theorem run_equal_ptr (hK : P.underlying K = some (.pointer T)) (hT : P.info? T = some j) (hsz : j.size ≠ 0) (w : World) {a b : Nat} (ha : IsCells w a) (hb : IsCells w b) :
    (Op.equal K (.pointer (some ⟨a, 0, none⟩)) (.pointer (some ⟨b, 0, none⟩))).run P w = .ok (decide (b = a)) w := by
  obtain ⟨ca, ta, ha⟩ := ha
  obtain ⟨cb, tb, hb⟩ := hb
  by_cases h : b = a
  · subst h
    have h : ∀ d : Nat, (Op.equalIn (d + 1) K (.pointer (some ⟨b, 0, none⟩)) (.pointer (some ⟨b, 0, none⟩))).run P w = .ok true w := fun d => by
      simp [Op.equalIn, run_underlying hK, sizeOf, typeInfo, hT, run_sameAddr_same]
    simp [Op.equal, Op.maxDepth, h 9999]
  · have h' : ∀ d : Nat, (Op.equalIn (d + 1) K (.pointer (some ⟨a, 0, none⟩)) (.pointer (some ⟨b, 0, none⟩))).run P w = .ok false w := fun d => by
      simp [Op.equalIn, run_underlying hK, sizeOf, typeInfo, hT, hsz, run_sameAddr_other w (a := ⟨a, 0, none⟩) (b := ⟨b, 0, none⟩) (fun e => h (by injection e with e1; exact e1.symm)) ha hb]
    simp [Op.equal, Op.maxDepth, h' 9999, h]

theorem run_findAsking (hK : P.underlying K = some (.pointer T)) (hT : P.info? T = some j) (hsz : j.size ≠ 0) (w : World) {b : Nat} (hb : IsCells w b) :
    ∀ (l : List MapEntry) (f : List (Nat × Value)) (i : Nat), Ents w l f → (Instr.findAsking K (.pointer (some ⟨b, 0, none⟩)) l i).run P w = .ok (idxF b f i) w
  | [], [], i, _ => by simp [Instr.findAsking, idxF]
  | [], _ :: _, _, h => by simp [Ents] at h
  | _ :: _, [], _, h => by simp [Ents] at h
  | e :: l, p :: f, i, h => by
    obtain ⟨h1, h2⟩ := h
    simp only [List.map_cons, List.cons.injEq, Prod.mk.injEq] at h1
    obtain ⟨⟨hk, hv⟩, h1⟩ := h1
    have ih := run_findAsking hK hT hsz w hb l f (i + 1) ⟨h1, fun q hq => h2 q (List.mem_cons_of_mem _ hq)⟩
    have he := run_equal_ptr hK hT hsz w hb (h2 p (List.mem_cons_self ..))
    unfold Instr.findAsking idxF
    rw [hk]
    simp [he]
    by_cases hpb : p.1 = b
    · simp [hpb, hv]
    · simp [hpb, ih]

theorem run_findKey (hK : P.underlying K = some (.pointer T)) (hT : P.info? T = some j) (hsz : j.size ≠ 0) (w : World) {b : Nat} (hb : IsCells w b)
    (l : List MapEntry) (f : List (Nat × Value)) (h : Ents w l f) : (Instr.findKey K (.pointer (some ⟨b, 0, none⟩)) l).run P w = .ok (idxF b f 0) w := by
  have ha := run_findAsking hK hT hsz w hb l f 0 h
  unfold Instr.findKey
  cases l with
  | nil =>
    cases f with
    | nil => simp [run_underlying hK, Instr.findNow, idxF]
    | cons _ _ => simp [Ents] at h
  | cons e l => simp [run_underlying hK, Instr.findNow, Instr.sameNow, ha]

theorem run_checkKey_ptr (hK : P.underlying K = some (.pointer T)) (w : World) (e : Bool) (v : Value) : (Instr.checkKey e 10000 K v).run P w = .ok () w := by
  have : ∀ d : Nat, (Instr.checkKey e (d + 1) K v).run P w = .ok () w := fun d => by
    unfold Instr.checkKey
    simp [run_underlying hK]
  exact this 9999

theorem Ents.heap {w W : World} {l : List MapEntry} {f : List (Nat × Value)} (h : Ents w l f) (hW : W.heap = w.heap) : Ents W l f :=
  ⟨h.1, fun p hp => by obtain ⟨c, t, hc⟩ := h.2 p hp; exact ⟨c, t, by rw [hW]; exact hc⟩⟩

theorem IsCells.heap {w W : World} {b : Nat} (h : IsCells w b) (hW : W.heap = w.heap) : IsCells W b := by
  obtain ⟨c, t, hc⟩ := h; exact ⟨c, t, by rw [hW]; exact hc⟩

theorem getD_look (b : Nat) (f : List (Nat × Value)) (z : Value) : ((idxF b f 0).map (fun p => (p.2, true))).getD (z, false) = ((lookF b f).getD z, (lookF b f).isSome) := by
  rw [← idx_look b f 0]
  cases idxF b f 0 <;> rfl

variable {t e : TypeId} {w : World} {m b : Nat} {f : List (Nat × Value)}

/-- 'v, ok := m[k]' and 'm[k]', m a map keyed by pointers. -/
theorem PMap.look_ok (h : PMap w m f) (ht : P.underlying t = some (.map K e)) (hK : P.underlying K = some (.pointer T)) (hT : P.info? T = some j) (hsz : j.size ≠ 0) (hb : IsCells w b) {z : Value} (hz : ∀ W, (zeroValue e).run P W = .ok z W) :
    ∀ W : World, W.heap = w.heap → (Instr.lookup t (.map (some m)) (.pointer (some ⟨b, 0, none⟩)) true).run P W = .ok (.tuple #[(lookF b f).getD z, .bool (lookF b f).isSome]) W := by
  intro W hW
  obtain ⟨es, clock, hm, he⟩ := h
  have hf := run_findKey hK hT hsz W (hb.heap hW) es.toList f (he.heap hW)
  have hl := idx_look b f 0
  cases hi : idxF b f 0 with
  | none =>
    rw [hi] at hf hl
    rw [← hl]
    simp [Instr.lookup, run_underlying ht, MapKept.run_getObj_map (w := W) (by rw [hW]; exact hm), run_checkKey_ptr hK, hf, hz]
  | some q =>
    rw [hi] at hf hl
    rw [← hl]
    simp [Instr.lookup, run_underlying ht, MapKept.run_getObj_map (w := W) (by rw [hW]; exact hm), run_checkKey_ptr hK, hf]

theorem PMap.look (h : PMap w m f) (ht : P.underlying t = some (.map K e)) (hK : P.underlying K = some (.pointer T)) (hT : P.info? T = some j) (hsz : j.size ≠ 0) (hb : IsCells w b) {z : Value} (hz : ∀ W, (zeroValue e).run P W = .ok z W) :
    ∀ W : World, W.heap = w.heap → (Instr.lookup t (.map (some m)) (.pointer (some ⟨b, 0, none⟩)) false).run P W = .ok ((lookF b f).getD z) W := by
  intro W hW
  obtain ⟨es, clock, hm, he⟩ := h
  have hf := run_findKey hK hT hsz W (hb.heap hW) es.toList f (he.heap hW)
  have hl := idx_look b f 0
  cases hi : idxF b f 0 with
  | none =>
    rw [hi] at hf hl
    rw [← hl]
    simp [Instr.lookup, run_underlying ht, MapKept.run_getObj_map (w := W) (by rw [hW]; exact hm), run_checkKey_ptr hK, hf, hz]
  | some q =>
    rw [hi] at hf hl
    rw [← hl]
    simp [Instr.lookup, run_underlying ht, MapKept.run_getObj_map (w := W) (by rw [hW]; exact hm), run_checkKey_ptr hK, hf]

theorem cell_setBlock {W : World} {m : Nat} {es es' : Array MapEntry} {c c' : Nat} (h : W.heap[m]? = some (.map es c)) (a : Addr) : (setBlock W m (.map es' c')).cell? a = W.cell? a := by
  unfold World.cell? setBlock
  by_cases ha : a.block = m
  · subst ha
    have hlt : a.block < W.heap.size := lt_of_block h
    rw [Array.getElem?_eq_getElem hlt] at h
    simp only [Option.some.injEq] at h
    simp [h, hlt]
  · simp [Ne.symm ha]

theorem frozen_setBlock {W : World} {m : Nat} {es es' : Array MapEntry} {c c' : Nat} (h : W.heap[m]? = some (.map es c)) (a : Addr) : (setBlock W m (.map es' c')).frozen? a = W.frozen? a := by
  unfold World.frozen? setBlock
  by_cases ha : a.block = m
  · subst ha
    have hlt : a.block < W.heap.size := lt_of_block h
    rw [Array.getElem?_eq_getElem hlt] at h
    simp only [Option.some.injEq] at h
    simp [h, hlt]
  · simp [Ne.symm ha]

theorem heap_setBlock_ne {W : World} {m k : Nat} {o : Obj} (h : k ≠ m) : (setBlock W m o).heap[k]? = W.heap[k]? := by
  simp [setBlock, Ne.symm h]

theorem isCells_setBlock {W : World} {m k : Nat} {es es' : Array MapEntry} {c c' : Nat} (h : W.heap[m]? = some (.map es c)) (hk : IsCells W k) : IsCells (setBlock W m (.map es' c')) k := by
  obtain ⟨q, t, hq⟩ := hk
  have hne : k ≠ m := fun e1 => by subst e1; rw [h] at hq; cases hq
  exact ⟨q, t, by rw [heap_setBlock_ne hne]; exact hq⟩

theorem updF_keys (b : Nat) (v : Value) : ∀ (f : List (Nat × Value)), ∀ p ∈ updF b v f, p.1 = b ∨ p ∈ f
  | [], p, h => by simp [updF] at h; exact Or.inl (by rw [h])
  | q :: r, p, h => by
    unfold updF at h
    split at h
    · rcases List.mem_cons.1 h with rfl | h
      · exact Or.inl rfl
      · exact Or.inr (List.mem_cons_of_mem _ h)
    · rcases List.mem_cons.1 h with rfl | h
      · exact Or.inr (List.mem_cons_self ..)
      · rcases updF_keys b v r p h with h | h
        · exact Or.inl h
        · exact Or.inr (List.mem_cons_of_mem _ h)

/-- 'm[k] = v'. -/
theorem PMap.upd (h : PMap w m f) (ht : P.underlying t = some (.map K e)) (hK : P.underlying K = some (.pointer T)) (hT : P.info? T = some j) (hsz : j.size ≠ 0) (hb : IsCells w b) (v : Value) :
    ∃ es' c', (∀ W : World, W.heap = w.heap → (Instr.mapUpdate t (.map (some m)) (.pointer (some ⟨b, 0, none⟩)) v).run P W = .ok () (setBlock W m (.map es' c'))) ∧
      (∀ W : World, W.heap = w.heap → PMap (setBlock W m (.map es' c')) m (updF b v f)) ∧ (∀ W : World, W.heap = w.heap → ∀ a, (setBlock W m (.map es' c')).cell? a = W.cell? a) ∧ (∀ W : World, W.heap = w.heap → ∀ a, (setBlock W m (.map es' c')).frozen? a = W.frozen? a) := by
  obtain ⟨es, clock, hm, he⟩ := h
  have hlt := lt_of_block hm
  have key : ∀ (es' : Array MapEntry) (c' : Nat), es'.toList.map (fun e => (e.key, e.val)) = (updF b v f).map (fun p => (Value.pointer (some ⟨p.1, 0, none⟩), p.2)) →
      (∀ W : World, W.heap = w.heap → PMap (setBlock W m (.map es' c')) m (updF b v f)) ∧ (∀ W : World, W.heap = w.heap → ∀ a, (setBlock W m (.map es' c')).cell? a = W.cell? a) ∧ (∀ W : World, W.heap = w.heap → ∀ a, (setBlock W m (.map es' c')).frozen? a = W.frozen? a) := by
    intro es' c' hl
    refine ⟨fun W hW => ⟨es', c', ?_, hl, fun p hp => ?_⟩, fun W hW a => cell_setBlock (by rw [hW]; exact hm) a, fun W hW a => frozen_setBlock (by rw [hW]; exact hm) a⟩
    · simp [setBlock, hW, hlt]
    · refine isCells_setBlock (by rw [hW]; exact hm) ?_
      rcases updF_keys b v f p hp with h1 | h1
      · rw [h1]; exact hb.heap hW
      · exact (he.2 p h1).heap hW
  have hf := fun (W : World) (hW : W.heap = w.heap) => run_findKey hK hT hsz W (hb.heap hW) es.toList f (he.heap hW)
  cases hi : idxF b f 0 with
  | none =>
    obtain ⟨hu, _⟩ := idx_none b v f 0 hi
    refine ⟨es.push ⟨.pointer (some ⟨b, 0, none⟩), v, clock⟩, clock + 1, fun W hW => ?_, key _ _ ?_⟩
    · have hf' := hf W hW
      rw [hi] at hf'
      have hm' : W.heap[m]? = some (.map es clock) := by rw [hW]; exact hm
      simp [Instr.mapUpdate, run_underlying ht, MapKept.run_getObj_map hm', run_checkKey_ptr hK, hf', MapKept.run_setObj_map _ hm', setBlock]
    · rw [hu]; simp [he.1]
  | some q =>
    obtain ⟨i, u⟩ := q
    obtain ⟨k, hk, hfk, hu, _⟩ := idx_some b v f 0 i u hi
    obtain rfl : i = k := by omega
    have hel : (es.toList.map (fun e => (e.key, e.val)))[i]? = some (.pointer (some ⟨b, 0, none⟩), u) := by rw [he.1]; simp [hfk]
    rw [List.getElem?_map] at hel
    obtain ⟨e0, he0, hke⟩ := Option.map_eq_some_iff.1 hel
    simp only [Prod.mk.injEq] at hke
    have hj : es[i]? = some e0 := by simpa using he0
    refine ⟨es.modify i (fun e' => { e' with key := .pointer (some ⟨b, 0, none⟩), val := v }), clock, fun W hW => ?_, key _ _ ?_⟩
    · have hf' := hf W hW
      rw [hi] at hf'
      have hm' : W.heap[m]? = some (.map es clock) := by rw [hW]; exact hm
      simp [Instr.mapUpdate, run_underlying ht, MapKept.run_getObj_map hm', run_checkKey_ptr hK, hf', hj, hke.1, Instr.keyThatStays, Instr.sameBits, MapKept.run_setObj_map _ hm', setBlock]
    · rw [hu, Array.toList_modify, ChangeMaps.modify_eq_set _ _ _ _ he0, List.map_set, List.map_set, he.1]

theorem delF_mem (b : Nat) : ∀ (f : List (Nat × Value)), ∀ p ∈ delF b f, p ∈ f
  | [], p, h => by simp [delF] at h
  | q :: r, p, h => by
    unfold delF at h
    split at h
    · exact List.mem_cons_of_mem _ h
    · rcases List.mem_cons.1 h with rfl | h
      · exact List.mem_cons_self ..
      · exact List.mem_cons_of_mem _ (delF_mem b r p h)

/-- 'delete(m, k)'. -/
theorem PMap.del (h : PMap w m f) (ht : P.underlying t = some (.map K e)) (hK : P.underlying K = some (.pointer T)) (hT : P.info? T = some j) (hsz : j.size ≠ 0) (hb : IsCells w b) (ty : TypeId) :
    ∃ es' c', (∀ W : World, W.heap = w.heap → (Builtin.delete_ #[t, K] ty #[.map (some m), .pointer (some ⟨b, 0, none⟩)]).run P W = .ok (.tuple #[]) (setBlock W m (.map es' c'))) ∧
      (∀ W : World, W.heap = w.heap → PMap (setBlock W m (.map es' c')) m (delF b f)) ∧ (∀ W : World, W.heap = w.heap → ∀ a, (setBlock W m (.map es' c')).cell? a = W.cell? a) ∧ (∀ W : World, W.heap = w.heap → ∀ a, (setBlock W m (.map es' c')).frozen? a = W.frozen? a) := by
  obtain ⟨es, clock, hm, he⟩ := h
  have hlt := lt_of_block hm
  have key : ∀ (es' : Array MapEntry) (c' : Nat), es'.toList.map (fun e => (e.key, e.val)) = (delF b f).map (fun p => (Value.pointer (some ⟨p.1, 0, none⟩), p.2)) →
      (∀ W : World, W.heap = w.heap → PMap (setBlock W m (.map es' c')) m (delF b f)) ∧ (∀ W : World, W.heap = w.heap → ∀ a, (setBlock W m (.map es' c')).cell? a = W.cell? a) ∧ (∀ W : World, W.heap = w.heap → ∀ a, (setBlock W m (.map es' c')).frozen? a = W.frozen? a) := by
    intro es' c' hl
    refine ⟨fun W hW => ⟨es', c', ?_, hl, fun p hp => ?_⟩, fun W hW a => cell_setBlock (by rw [hW]; exact hm) a, fun W hW a => frozen_setBlock (by rw [hW]; exact hm) a⟩
    · simp [setBlock, hW, hlt]
    · exact isCells_setBlock (by rw [hW]; exact hm) ((he.2 p (delF_mem b f p hp)).heap hW)
  have hf := fun (W : World) (hW : W.heap = w.heap) => run_findKey hK hT hsz W (hb.heap hW) es.toList f (he.heap hW)
  cases hi : idxF b f 0 with
  | none =>
    obtain ⟨_, hu⟩ := idx_none b .nilIface f 0 hi
    refine ⟨es, clock, fun W hW => ?_, key _ _ ?_⟩
    · have hf' := hf W hW
      rw [hi] at hf'
      have hm' : W.heap[m]? = some (.map es clock) := by rw [hW]; exact hm
      simp [Builtin.delete_, run_underlying ht, MapKept.run_getObj_map hm', run_checkKey_ptr hK, hf', MapKept.run_setObj_map _ hm', setBlock]
    · rw [hu]; exact he.1
  | some q =>
    obtain ⟨i, u⟩ := q
    obtain ⟨k, hk, hfk, _, hu⟩ := idx_some b .nilIface f 0 i u hi
    obtain rfl : i = k := by omega
    have hel : (es.toList.map (fun e => (e.key, e.val)))[i]? = some (.pointer (some ⟨b, 0, none⟩), u) := by rw [he.1]; simp [hfk]
    rw [List.getElem?_map] at hel
    obtain ⟨e0, he0, hke⟩ := Option.map_eq_some_iff.1 hel
    have hjs : i < es.size := by simpa using (List.getElem?_eq_some_iff.1 he0).1
    have hsub : (es.eraseIdxIfInBounds i).toList = es.toList.eraseIdx i := by
      unfold Array.eraseIdxIfInBounds
      rw [dif_pos hjs]
      simp
    refine ⟨es.eraseIdxIfInBounds i, clock, fun W hW => ?_, key _ _ ?_⟩
    · have hf' := hf W hW
      rw [hi] at hf'
      have hm' : W.heap[m]? = some (.map es clock) := by rw [hW]; exact hm
      simp [Builtin.delete_, run_underlying ht, MapKept.run_getObj_map hm', run_checkKey_ptr hK, hf', MapKept.run_setObj_map _ hm', setBlock]
    · rw [hu, hsub, ChangeMaps.map_eraseIdx, ChangeMaps.map_eraseIdx, he.1]

/-- 'len(m)'. -/
theorem PMap.len (h : PMap w m f) (ht : P.underlying t = some (.map K e)) (ty : TypeId) :
    ∀ W : World, W.heap = w.heap → (Builtin.len_ #[t] ty #[.map (some m)]).run P W = .ok (.int .i64 f.length) W := by
  intro W hW
  obtain ⟨es, clock, hm, he⟩ := h
  have hl : es.size = f.length := by have := congrArg List.length he.1; simpa using this
  simp [Builtin.len_, run_underlying ht, MapKept.run_getObj_map (w := W) (by rw [hW]; exact hm), hl, goInt]
end
end Go.Proofs.Ybulkhczu
