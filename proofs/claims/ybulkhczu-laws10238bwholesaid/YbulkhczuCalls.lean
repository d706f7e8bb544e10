import Derived.Test.YbulkhczuFr
import Derived.Outline
import Derived.Deep.DeepCutAuto
import Derived.Defers
namespace Go.Proofs.Ybulkhczu
open Go.RowKit Go.MuLone
open Go.ChangeMaps (setBlock)

theorem make_chan (w : World) : (Instr.makeChan 41 (.int .i64 1)).run Yba.prog w = .ok (.chan (some w.heap.size)) (w.alloc (.chan 1 #[] false 0 0 false)) := by kernel_rfl

theorem Yba.info63 : (Yba.prog.info? 63).map (fun i => (i.zero.isSome, i.size, i.bytes)) = some (true, 6, 64) := by kernel_rfl
theorem Yba.info30 : (Yba.prog.info? 30).map (fun i => (i.zero.isSome, i.size, i.bytes)) = some (true, 10, 112) := by kernel_rfl
theorem info63 : ∃ j, Yba.prog.info? 63 = some j ∧ j.size ≠ 0 := by
  have := Yba.info63
  obtain ⟨j, h1, h2⟩ := Option.map_eq_some_iff.1 this
  simp only [Prod.mk.injEq] at h2
  exact ⟨j, h1, by omega⟩
theorem info30 : ∃ j, Yba.prog.info? 30 = some j ∧ j.size ≠ 0 := by
  have := Yba.info30
  obtain ⟨j, h1, h2⟩ := Option.map_eq_some_iff.1 this
  simp only [Prod.mk.injEq] at h2
  exact ⟨j, h1, by omega⟩

/-- The cells of a releaseWatch. -/
def rwCells (m c : Nat) (aw re : Int) : Array Value := #[.map (some m), .int .i64 aw, .int .i64 re, .slice none 0 0, .int .i64 0, .chan (some c)]

set_option maxRecDepth 100000 in
set_option maxHeartbeats 800000 in
theorem new_any (w : World) : Calls Yba.prog 5 #[] w fun e w' => e = .returned (.pointer (some ⟨w.heap.size + 2, 0, none⟩)) ∧
    w'.heap.size = w.heap.size + 3 ∧ Fr [] w w' ∧ PMap w' w.heap.size [] ∧ w'.heap[w.heap.size + 1]? = some (.chan 1 #[] false 0 0 false) ∧ w'.heap[w.heap.size + 2]? = some (.cells (rwCells w.heap.size (w.heap.size + 1) 0 0) 63 (0, 0)) := by
  have hmm := @run_makeMap Yba.prog
  have hmc := make_chan
  go_enter Yba.func5, Yba.ntmps5
  go_wp2
  go_ret
  refine ⟨rfl, by simp, (((Fr.refl _ _).alloc _).alloc _).alloc _, ((pmap_new w).fr (S := []) (((Fr.refl _ _).alloc _).alloc _) (by simp)), ?_, ?_⟩
  · rw [Below.heap_alloc _ _ _ (by simp)]
    have := blk_new (w.alloc (.map #[] 0)) (.chan 1 #[] false 0 0 false)
    simpa using this
  · have := blk_new ((w.alloc (.map #[] 0)).alloc (.chan 1 #[] false 0 0 false)) (.cells (rwCells w.heap.size (w.heap.size + 1) 0 0) 63 (0, 0))
    rw [show ((w.alloc (.map #[] 0)).alloc (.chan 1 #[] false 0 0 false)).heap.size = w.heap.size + 2 from by simp] at this
    exact this

theorem holds_any (sb s : Nat) (b : Bool) (w : World) (h : w.cell? ⟨s, 8, none⟩ = some (.bool b)) :
    Calls Yba.prog 13 #[.pointer (some ⟨sb, 0, none⟩), .pointer (some ⟨s, 0, none⟩)] w fun e w' => e = .returned (.bool b) ∧ w' = w := by
  go_enter Yba.func13, Yba.ntmps13
  go_wp2
  go_ret
  exact ⟨rfl, rfl⟩

/-- The cells of a sessionStore: the lock's word, the lock's semaphore, the watches' map among them. -/
def stCells (mg ho : Value) (lk : Int) (en : Value) (wa : Option Nat) : Array Value := #[mg, ho, .int .i32 lk, .int .u32 0, .map none, .map none, en, .map wa]

/-- What 'watch' makes of the map 'left': each of the first k sessions that is stored is laid in it, with nil. -/
def leftTo (sbk : Nat → Nat) (sto : Nat → Bool) (g : List (Nat × Value)) : Nat → List (Nat × Value)
  | 0 => g
  | k + 1 => if sto k then updF (sbk k) (.pointer none) (leftTo sbk sto g k) else leftTo sbk sto g k

section
variable {sb : Nat} {mg ho en : Value} {mo : Option Nat} {w : World}

theorem st_cell {lk : Int} (h : w.heap[sb]? = some (.cells (stCells mg ho lk en mo) 71 (0, 0))) : w.cell? ⟨sb, 2, none⟩ = some (.int .i32 lk) ∧ w.cell? ⟨sb, 7, none⟩ = some (.map mo) ∧ w.frozen? ⟨sb, 2, none⟩ = false ∧ w.frozen? ⟨sb, 7, none⟩ = false :=
  ⟨cell_of_blk h rfl, cell_of_blk h rfl, free_of_blk h _, free_of_blk h _⟩

theorem st_set2 {lk lk' : Int} (h : w.heap[sb]? = some (.cells (stCells mg ho lk en mo) 71 (0, 0))) : (w.setCell ⟨sb, 2, none⟩ (.int .i32 lk')).heap[sb]? = some (.cells (stCells mg ho lk' en mo) 71 (0, 0)) := blk_setCell h _
theorem st_set7 {lk : Int} {mo' : Option Nat} (h : w.heap[sb]? = some (.cells (stCells mg ho lk en mo) 71 (0, 0))) : (w.setCell ⟨sb, 7, none⟩ (.map mo')).heap[sb]? = some (.cells (stCells mg ho lk en mo') 71 (0, 0)) := blk_setCell h _

theorem size_setCell (w : World) (a : Addr) (v : Value) : (w.setCell a v).heap.size = w.heap.size := by simp [World.setCell]

theorem lock_st (h : w.heap[sb]? = some (.cells (stCells mg ho 0 en mo) 71 (0, 0))) :
    Calls Yba.prog 12 #[.pointer (some ⟨sb, 2, none⟩)] w fun e w' => e = .returned (.tuple #[]) ∧ w'.heap[sb]? = some (.cells (stCells mg ho 1 en mo) 71 (0, 0)) ∧ Fr [sb] w w' ∧ w'.heap.size = w.heap.size := by
  refine (lock_free Yba.muLib ⟨sb, 2, none⟩ w (st_cell h).1 (st_cell h).2.2.1).mono ?_
  rintro e w' ⟨rfl, rfl⟩
  exact ⟨rfl, st_set2 h, (Fr.refl _ _).setCell (by simp) _, size_setCell _ _ _⟩

theorem try_st (h : w.heap[sb]? = some (.cells (stCells mg ho 0 en mo) 71 (0, 0))) :
    Calls Yba.prog 7 #[.pointer (some ⟨sb, 2, none⟩)] w fun e w' => e = .returned (.bool true) ∧ w'.heap[sb]? = some (.cells (stCells mg ho 1 en mo) 71 (0, 0)) ∧ Fr [sb] w w' ∧ w'.heap.size = w.heap.size := by
  refine (try_free ⟨sb, 2, none⟩ w (st_cell h).1 (st_cell h).2.2.1).mono ?_
  rintro e w' ⟨rfl, rfl⟩
  exact ⟨rfl, st_set2 h, (Fr.refl _ _).setCell (by simp) _, size_setCell _ _ _⟩

theorem unlock_st (h : w.heap[sb]? = some (.cells (stCells mg ho 1 en mo) 71 (0, 0))) :
    Calls Yba.prog 8 #[.pointer (some ⟨sb, 2, none⟩)] w fun e w' => e = .returned (.tuple #[]) ∧ w'.heap[sb]? = some (.cells (stCells mg ho 0 en mo) 71 (0, 0)) ∧ Fr [sb] w w' ∧ w'.heap.size = w.heap.size := by
  refine (unlock_held Yba.muLib ⟨sb, 2, none⟩ w (st_cell h).1 (st_cell h).2.2.1).mono ?_
  rintro e w' ⟨rfl, rfl⟩
  exact ⟨rfl, st_set2 h, (Fr.refl _ _).setCell (by simp) _, size_setCell _ _ _⟩

theorem unlock_def_st (h : w.heap[sb]? = some (.cells (stCells mg ho 1 en mo) 71 (0, 0))) (u : FrameMode) :
    CallsD Yba.prog 8 #[.pointer (some ⟨sb, 2, none⟩)] u w fun e u' w' => u' = u ∧ e = .returned (.tuple #[]) ∧ w'.heap[sb]? = some (.cells (stCells mg ho 0 en mo) 71 (0, 0)) ∧ Fr [sb] w w' ∧ w'.heap.size = w.heap.size := by
  refine (unlock_deferred Yba.muLib ⟨sb, 2, none⟩ u w (st_cell h).1 (st_cell h).2.2.1).mono ?_
  rintro e u' w' ⟨rfl, rfl, rfl⟩
  exact ⟨rfl, rfl, st_set2 h, (Fr.refl _ _).setCell (by simp) _, size_setCell _ _ _⟩
end

/-- Behind 'if st.watches == nil { st.watches = make(..) }'. -/
def WatchMade (sb lm : Nat) (mg ho en : Value) (mo : Option Nat) (f : List (Nat × Value)) (w w1 w' : World) : Prop :=
  ∃ m, (mo = some m ∨ mo = none ∧ m = w.heap.size) ∧ w'.heap[sb]? = some (.cells (stCells mg ho 1 en (some m)) 71 (0, 0)) ∧ PMap w' m f ∧ m ≠ lm ∧ Fr [sb] w1 w'

def NoneNil (mo : Option Nat) (f : List (Nat × Value)) : Prop := mo = none → f = []

theorem watch_made {sb lm : Nat} {mg ho en : Value} {f : List (Nat × Value)} {w w1 : World} (hlt : lm < w.heap.size) (e1 : w1.heap.size = w.heap.size)
    (hst1 : w1.heap[sb]? = some (.cells (stCells mg ho 1 en none) 71 (0, 0))) (hn : NoneNil none f) :
    WatchMade sb lm mg ho en none f w w1 ((w1.setCell ⟨sb, 7, none⟩ (.map (some w1.heap.size))).alloc (.map #[] 0)) := by
  have hsl : sb < w1.heap.size := lt_of_block hst1
  refine ⟨w1.heap.size, Or.inr ⟨rfl, e1⟩, ?_, ?_, by omega, ((Fr.refl _ _).setCell (by simp) _).alloc _⟩
  · rw [Below.heap_alloc _ _ _ (by rw [size_setCell]; exact hsl)]
    exact st_set7 hst1
  · rw [hn rfl]
    have := pmap_new (w1.setCell ⟨sb, 7, none⟩ (.map (some w1.heap.size)))
    rw [size_setCell] at this
    exact this

theorem PMap.ne_cell {w : World} {m : Nat} {f : List (Nat × Value)} (hm : PMap w m f) {p : Addr} {v : Value} (hc : w.cell? p = some v) : p.block ≠ m := by
  rintro rfl
  obtain ⟨es, c, hm, _⟩ := hm
  unfold World.cell? at hc
  rw [hm] at hc; cases hc

theorem cell_lt {w : World} {p : Addr} {v : Value} (hc : w.cell? p = some v) : p.block < w.heap.size := by
  rcases Nat.lt_or_ge p.block w.heap.size with h' | h'
  · exact h'
  · unfold World.cell? at hc; simp [Array.getElem?_eq_none h'] at hc

theorem m_apart {w : World} {mo : Option Nat} {f : List (Nat × Value)} (hmo : ∀ m, mo = some m → PMap w m f) {m : Nat} (hm : mo = some m ∨ mo = none ∧ m = w.heap.size) {p : Addr} {v : Value} (hc : w.cell? p = some v) : p.block ≠ m := by
  rcases hm with h1 | ⟨_, h1⟩
  · exact (hmo m h1).ne_cell hc
  · have := cell_lt hc; omega

/-- What holds at the head of each round of watch's loop. -/
structure WatchLoop (sb lm m : Nat) (mg ho en : Value) (f' g : List (Nat × Value)) (sbk : Nat → Nat) (sto : Nat → Bool) (k : Nat) (w wr : World) : Prop where
  st : wr.heap[sb]? = some (.cells (stCells mg ho 1 en (some m)) 71 (0, 0))
  mm : PMap wr m f'
  ll : PMap wr lm (leftTo sbk sto g k)
  fr : Fr [sb, lm, m] w wr

theorem WatchLoop.skip {sb lm m : Nat} {mg ho en : Value} {f' g : List (Nat × Value)} {sbk : Nat → Nat} {sto : Nat → Bool} {k : Nat} {w wr : World} (h : WatchLoop sb lm m mg ho en f' g sbk sto k w wr) (hs : sto k = false) :
    WatchLoop sb lm m mg ho en f' g sbk sto (k + 1) w wr := ⟨h.st, h.mm, by have := h.ll; simpa [leftTo, hs] using this, h.fr⟩

theorem WatchLoop.put {sb lm m : Nat} {mg ho en : Value} {f' g : List (Nat × Value)} {sbk : Nat → Nat} {sto : Nat → Bool} {k : Nat} {w wr : World} (h : WatchLoop sb lm m mg ho en f' g sbk sto k w wr) (hs : sto k = true) (hml : m ≠ lm)
    {es : Array MapEntry} {c : Nat} (hp : PMap (setBlock wr lm (.map es c)) lm (updF (sbk k) (.pointer none) (leftTo sbk sto g k))) :
    WatchLoop sb lm m mg ho en f' g sbk sto (k + 1) w (setBlock wr lm (.map es c)) := by
  have hsb : sb ≠ lm := h.ll.ne (blk_isCells h.st)
  have hf : Fr [lm] wr (setBlock wr lm (.map es c)) := (Fr.refl _ _).setMap (by simp) h.ll es c
  exact ⟨by rw [heap_setBlock_ne hsb]; exact h.st, h.mm.fr hf (by simpa using hml), by simpa [leftTo, hs] using hp, h.fr.trans (hf.mono (by simp))⟩

theorem hide_of {p : Prop} (h : p) : Hid p := h

set_option maxRecDepth 100000 in
set_option maxHeartbeats 1600000 in
theorem watch_some (sb r lm rb ro len cap : Nat) (mo : Option Nat) (mg ho en : Value) (f g : List (Nat × Value)) (sbk : Nat → Nat) (sto : Nat → Bool) (w : World)
    (hst : w.heap[sb]? = some (.cells (stCells mg ho 0 en mo) 71 (0, 0)))
    (hmo : ∀ m, mo = some m → PMap w m f) (hmn : mo = none → f = []) (hrc : IsCells w r) (hr0 : w.cell? ⟨r, 0, none⟩ = some (.map (some lm))) (hlm : PMap w lm g) (hne : mo ≠ some lm) (hrs : r ≠ sb) (hbs : rb ≠ sb)
    (hlen : len ≤ 1048576) (hss : ∀ i, i < len → w.cell? ⟨rb, ro + i, none⟩ = some (.pointer (some ⟨sbk i, 0, none⟩)))
    (hse : ∀ i, i < len → sbk i ≠ sb ∧ IsCells w (sbk i) ∧ w.cell? ⟨sbk i, 8, none⟩ = some (.bool (sto i))) :
    Calls Yba.prog 6 #[.pointer (some ⟨sb, 0, none⟩), .pointer (some ⟨r, 0, none⟩), .slice (some ⟨rb, ro, none⟩) len cap] w fun e w' => e = .returned (.tuple #[]) ∧
      ∃ m, (mo = some m ∨ mo = none ∧ m = w.heap.size) ∧ w'.heap[sb]? = some (.cells (stCells mg ho 0 en (some m)) 71 (0, 0)) ∧ PMap w' m (updF r (.bool true) f) ∧ PMap w' lm (leftTo sbk sto g len) ∧ Fr [sb, lm, m] w w' := by
  have hmm := @run_makeMap Yba.prog
  have hq : ∀ (w : World) (r : Option Nat), (binOp .eql 69 (.map r) (.map none)).run Yba.prog w = .ok (.bool r.isNone) w := fun w r => run_eql_map_nil w _ _ _ r Yba.underlying69
  obtain ⟨j63, hj63, hs63⟩ := info63
  obtain ⟨j30, hj30, hs30⟩ := info30
  go_enter_defers Yba.func6, Yba.ntmps6
  go_upto_if 19 with (go_at_call 12; refine (lock_st hst).mono ?_; rintro e w1 ⟨rfl, hst1, hf1, hs1⟩; obtain ⟨c2, c7, z2, z7⟩ := st_cell hst1)
  clear c2 z2
  have hrc1 := hf1.cells _ hrc
  have hmo1 : Hid (∀ m, mo = some m → PMap w1 m f) := fun m hm => (hmo m hm).fr hf1 (fun hx => by simp at hx; exact (hmo m hm).ne (blk_isCells hst) hx.symm)
  have hne1 : Hid (mo ≠ some lm) := hne
  have HMO : Hid (∀ m, mo = some m → PMap w m f) := hmo
  have hsl : sb < w1.heap.size := lt_of_block hst1
  have hs1' : Hid (w1.heap.size = w.heap.size) := hs1
  have hmn' : NoneNil mo f := hmn
  clear hmo hne hs1 hmn
  go_cut [] from 8 (fun w' => WatchMade sb lm mg ho en mo f w w1 w')
  case first =>
    cases mo with
    | none =>
      go_wp2
      go_meet
      case rel =>
        exact watch_made hlm.lt hs1'.out hst1 hmn'
    | some m =>
      go_wp2
      go_meet
      case rel => exact ⟨m, Or.inl rfl, hst1, hmo1.out m rfl, fun e => hne1.out (by rw [e]), Fr.refl _ _⟩
  case rest =>
    obtain ⟨m, hm, hst2, hpm, hml, hf2⟩ := hcut
    obtain ⟨c2, c7', z2, z7'⟩ := st_cell hst2
    clear c7 z7 hst1 c2 z2 z7'
    have hrc2 := hf2.cells _ hrc1
    obtain ⟨es3, k3, hu3, hp3, hc3, hz3⟩ := hpm.upd Yba.underlying69 Yba.underlying58 hj63 hs63 hrc2 (.bool true)
    go_wp2_with fail
    have hW3 : WatchLoop sb lm m mg ho en (updF r (.bool true) f) g sbk sto 0 w (setBlock wc m (.map es3 k3)) := by
      have hsm : sb ≠ m := hpm.ne (blk_isCells hst2)
      have hf3 : Fr [m] wc (setBlock wc m (.map es3 k3)) := (Fr.refl _ _).setMap (by simp) hpm es3 k3
      have hlm1 : PMap w1 lm g := hlm.fr hf1 (by simpa using Ne.symm (hlm.ne (blk_isCells hst)))
      have hlm2 : PMap wc lm g := hlm1.fr hf2 (by simpa using Ne.symm (hlm.ne (blk_isCells hst)))
      exact ⟨by rw [heap_setBlock_ne hsm]; exact hst2, hp3 wc rfl, hlm2.fr hf3 (by simpa using Ne.symm hml), ((hf1.mono (by simp)).trans (hf2.mono (by simp))).trans (hf3.mono (by simp))⟩
    have hap : ∀ (p : Addr) (v : Value), w.cell? p = some v → p.block ≠ sb → p.block ∉ [sb, lm, m] := fun p v hc hs => by
      have h1 := m_apart HMO.out hm hc
      have h2 := hlm.ne_cell hc
      simp; exact ⟨hs, h2, h1⟩
    have HSS := hide_of (fun i hi => And.intro (hss i hi) (hse i hi))
    have HAP := hide_of hap
    clear hu3 hp3 hc3 hz3 hst2 hpm c7' hrc2 hrc1 hsl hf1 hf2 hmo1 HMO hst hss hse hap hq hmm
    generalize setBlock wc m (.map es3 k3) = W3 at *
    go_loopw [31] (fun i wr => ∃ k : Nat, k ≤ len ∧ i = .int .i64 k ∧ WatchLoop sb lm m mg ho en (updF r (.bool true) f) g sbk sto k w wr) (fun i _ => len - (intOf i).toNat)
    case atStart => exact ⟨0, Nat.zero_le _, rfl, hW3⟩
    case round =>
      obtain ⟨k, hk, rfl, hL⟩ := hrel
      by_cases hlt : k < len
      · obtain ⟨hrow, hsk, hic, hc8⟩ := HSS.out k hlt
        have crow := hL.fr.cell hrow (HAP.out _ _ hrow hbs)
        have c8 := hL.fr.cell hc8 (HAP.out _ _ hc8 hsk)
        have c0 := hL.fr.cell hr0 (HAP.out _ _ hr0 hrs)
        have hicr := hL.fr.cells _ hic
        clear hrow hc8 hic hsk
        by_cases hs : sto k = true
        · obtain ⟨es4, k4, hu4, hp4, hc4, hz4⟩ := hL.ll.upd Yba.underlying60 Yba.underlying26 hj30 hs30 hicr (.pointer none)
          go_wp2_with (go_at_call 13; refine (holds_any sb (sbk k) (sto k) _ c8).mono ?_; rintro e w' ⟨rfl, rfl⟩)
          go_roundw
          case rel => exact ⟨k + 1, by omega, by go_num, hL.put hs hml (hp4 _ rfl)⟩
          case measure => simp [intOf]; omega
        · go_wp2_with (go_at_call 13; refine (holds_any sb (sbk k) (sto k) _ c8).mono ?_; rintro e w' ⟨rfl, rfl⟩)
          go_roundw
          case rel => exact ⟨k + 1, by omega, by go_num, hL.skip (by simpa using hs)⟩
          case measure => simp [intOf]; omega
      · obtain rfl : k = len := by omega
        go_wp2_with fail
        refine leaves_cons (f := 8) (args := #[.pointer (some ⟨sb, 2, none⟩)]) (by simp) (by simp [go_sem]) ?_
        refine (unlock_def_st hL.st .returning).mono ?_
        rintro e u' w'' ⟨rfl, rfl, hst5, hf5, _⟩
        refine ⟨_, results_none rfl _ _ _, rfl, m, hm, hst5, hL.mm.fr hf5 ?_, hL.ll.fr hf5 ?_, hL.fr.trans (hf5.mono (by simp))⟩
        · simpa using Ne.symm (hL.mm.ne (blk_isCells hL.st))
        · simpa using Ne.symm (hL.ll.ne (blk_isCells hL.st))
end Go.Proofs.Ybulkhczu
