import Derived.Test.YbulkhdngLex
namespace Go.Proofs.Ybulkhdng
open Go.RowKit

theorem blk_new (w : World) (o : Obj) : (w.alloc o).heap[w.heap.size]? = some o := by
  show (w.heap.push o)[w.heap.size]? = _
  simp
theorem cell_of_blk {w : World} {b i : Nat} {c : Array Value} {t : TypeId} {fz : Nat × Nat} {v : Value} (h : w.heap[b]? = some (.cells c t fz)) (hi : c[i]? = some v) : w.cell? ⟨b, i, none⟩ = some v := by
  simp [World.cell?, h, hi]
theorem free_of_blk {w : World} {b : Nat} {c : Array Value} {t : TypeId} (h : w.heap[b]? = some (.cells c t (0, 0))) (i : Nat) : w.frozen? ⟨b, i, none⟩ = false := by
  simp [World.frozen?, h]
theorem old_blk (w : World) (o : Obj) {b : Nat} (h : b < w.heap.size) : (w.alloc o).heap[b]? = w.heap[b]? := Below.heap_alloc _ _ _ h
theorem blk_setCell {w : World} {b i : Nat} {c : Array Value} {t : TypeId} {fz : Nat × Nat} (h : w.heap[b]? = some (.cells c t fz)) (v : Value) : (w.setCell ⟨b, i, none⟩ v).heap[b]? = some (.cells (c.setIfInBounds i v) t fz) := by
  simp [World.setCell, Array.getElem?_modify, h]

/-- A ballot in memory. -/
def Bal (w : World) (b : Nat) (ph co : Int) : Prop := w.cell? ⟨b, 0, none⟩ = some (.int .i64 ph) ∧ w.cell? ⟨b, 1, none⟩ = some (.int .i64 co)

theorem bal1 (w : World) (x y : Int) (o o' : Obj) (z : TypeId) : Bal (((w.alloc (.cells #[.int .i64 x, .int .i64 y] z)).alloc o).alloc o') w.heap.size x y := by
  have hb : (((w.alloc (.cells #[.int .i64 x, .int .i64 y] z)).alloc o).alloc o').heap[w.heap.size]? = some (.cells #[.int .i64 x, .int .i64 y] z (0, 0)) := by
    rw [old_blk _ _ (by simp; omega), old_blk _ _ (by simp)]
    exact blk_new _ _
  exact ⟨cell_of_blk hb rfl, cell_of_blk hb rfl⟩
theorem bal2 (w : World) (x y : Int) (o o' : Obj) (z : TypeId) : Bal (((w.alloc o).alloc (.cells #[.int .i64 x, .int .i64 y] z)).alloc o') (w.heap.size + 1) x y := by
  have hb : (((w.alloc o).alloc (.cells #[.int .i64 x, .int .i64 y] z)).alloc o').heap[w.heap.size + 1]? = some (.cells #[.int .i64 x, .int .i64 y] z (0, 0)) := by
    rw [old_blk _ _ (by simp)]
    simpa using blk_new (w.alloc o) (.cells #[.int .i64 x, .int .i64 y] z)
  exact ⟨cell_of_blk hb rfl, cell_of_blk hb rfl⟩
theorem Bal.set {w : World} {b N i : Nat} {x y : Int} (h : Bal w b x y) (hb : b ≠ N) (v : Value) : Bal (w.setCell ⟨N, i, none⟩ v) b x y := by
  have e : (w.setCell ⟨N, i, none⟩ v).heap[b]? = w.heap[b]? := Below.heap_setCell _ _ _ _ (fun e => hb e)
  refine ⟨?_, ?_⟩
  · rw [World.cell?_of_block (w := w) (a := ⟨b, 0, none⟩) e]; exact h.1
  · rw [World.cell?_of_block (w := w) (a := ⟨b, 1, none⟩) e]; exact h.2

/-- The Node's cells. -/
def nodeCells (a0 a6 par a5 a4 ph co a11 a10 a3 r : Int) : Array Value := #[.int .i64 a0, .int .i64 1, .bool false, .int .i64 0, .int .i64 a6, .int .i64 0, .int .i64 0, .bool false, .int .u64 0, .slice none 0 0, .int .i64 1, .int .i64 a0, .int .i64 0, .int .i64 par, .int .i64 a5, .int .i64 a4, .bool false, .bool false, .int .i64 0, .int .i64 ph, .int .i64 co, .map none, .int .i64 a11, .int .i64 0, .int .i64 0, .int .i64 0, .bool false, .map none, .int .i64 a10, .int .i64 0, .int .i64 0, .int .i64 0, .bool false, .slice none 0 0, .int .i64 0, .int .i64 a3, .int .i64 0, .int .i64 r, .int .i64 0, .int .i64 0, .pointer none, .int .i64 0, .int .i64 0, .int .i64 0, .nilFunc, .bool false]

/-- All that stands in the counting loop. -/
structure LI (w wr : World) (N B A : Nat) (a0 a6 par a5 a4 ph co a11 a10 a3 : Int) (r : Nat) : Prop where
  blk : wr.heap[N]? = some (.cells (nodeCells a0 a6 par a5 a4 ph co a11 a10 a3 r) 36 (0, 0))
  bal : Bal wr B 1 a0
  adp : Bal wr A ph co
  gr : Grown w wr
  hN : w.heap.size ≤ N
  hB : B ≠ N
  hA : A ≠ N

theorem LI.start (w : World) (a0 a6 par a5 a4 ph co a11 a10 a3 : Int) : LI w (((w.alloc (.cells #[.int .i64 1, .int .i64 a0] 23)).alloc (.cells #[.int .i64 ph, .int .i64 co] 23)).alloc (.cells (nodeCells a0 a6 par a5 a4 ph co a11 a10 a3 0) 36)) (w.heap.size + 1 + 1) w.heap.size (w.heap.size + 1) a0 a6 par a5 a4 ph co a11 a10 a3 0 :=
  ⟨by simpa using blk_new ((w.alloc (.cells #[.int .i64 1, .int .i64 a0] 23)).alloc (.cells #[.int .i64 ph, .int .i64 co] 23)) (.cells (nodeCells a0 a6 par a5 a4 ph co a11 a10 a3 0) 36), bal1 _ _ _ _ _ _, bal2 _ _ _ _ _ _, (((Grown.refl _).alloc _ _).alloc _ _).alloc _ _, by omega, by omega, by omega⟩

theorem LI.at {w wr : World} {N B A : Nat} {a0 a6 par a5 a4 ph co a11 a10 a3 : Int} {r : Nat} (h : LI w wr N B A a0 a6 par a5 a4 ph co a11 a10 a3 r) : NodeAt wr N a0 a6 par a5 a4 ph co a11 a10 a3 r :=
  ⟨cell_of_blk h.blk rfl, cell_of_blk h.blk rfl, cell_of_blk h.blk rfl, cell_of_blk h.blk rfl, cell_of_blk h.blk rfl, cell_of_blk h.blk rfl, cell_of_blk h.blk rfl, cell_of_blk h.blk rfl, cell_of_blk h.blk rfl, cell_of_blk h.blk rfl, cell_of_blk h.blk rfl, cell_of_blk h.blk rfl, cell_of_blk h.blk rfl⟩

theorem LI.step {w wr : World} {N B A : Nat} {a0 a6 par a5 a4 ph co a11 a10 a3 : Int} {r : Nat} (h : LI w wr N B A a0 a6 par a5 a4 ph co a11 a10 a3 r) (r' : Nat) : LI w (wr.setCell ⟨N, 37, none⟩ (.int .i64 r')) N B A a0 a6 par a5 a4 ph co a11 a10 a3 r' :=
  ⟨blk_setCell h.blk _, h.bal.set h.hB _, h.adp.set h.hA _, h.gr.setCell h.hN _, h.hN, h.hB, h.hA⟩

theorem unh_f {id delta par hops since un sent now : Int} {k : Nat} (h : false = (!(par == id) && !(un == 0))) : unh id delta par hops since un sent now k = false := by
  unfold unh
  by_cases hp : par = id
  · rw [if_pos hp]
  · have : un = 0 := by simpa [hp] using h
    rw [if_neg hp, if_pos this]
theorem unh_t {id delta par hops since un sent now : Int} {k : Nat} (h : true = (!(par == id) && !(un == 0))) : unh id delta par hops since un sent now k = (decide (2 ≤ wrap64 (now - sent) / 2 ^ min k 64) && !decide (wrap64 ((wrap64 (wrap64 (now - 2) - since)).tdiv 2) < wrap64 (delta - hops))) := by
  have h2 : ¬ par = id ∧ ¬ un = 0 := by simpa using h.symm
  unfold unh
  rw [if_neg h2.1, if_neg h2.2]

set_option maxRecDepth 100000 in
set_option maxHeartbeats 3200000 in
theorem law_walk (a0 a1 a2 a3 a4 a5 a6 a7 : Int) (k : Nat) (a9 : Bool) (a10 a11 : Int) (hk : k ≤ 255) (h1 : 0 ≤ a1 ∧ a1 < 256) (w : World) :
    Calls Yba.prog 3 #[.int .i64 a0, .int .u8 a1, .int .i64 a2, .int .i64 a3, .int .i64 a4, .int .i64 a5, .int .i64 a6, .int .i64 a7, .int .u8 k, .bool a9, .int .i64 a10, .int .i64 a11] w fun e w' => e = .returned (.bool true) ∧ Grown w w' := by
  go_enter Yba.func3, Yba.ntmps3
  go_upto_if 40 with fail
  go_cut [25] from 41 to 41 (fun v w' => (∃ par, v = .int .i64 par) ∧ w' = w)
  case first =>
    go_wp2_with fail
    all_goals go_meet
    all_goals exact ⟨⟨_, rfl⟩, rfl⟩
  case rest =>
    obtain ⟨⟨par, rfl⟩, rfl⟩ := hcut
    cases a9
    · go_wp2_with fail
      generalize hW : ((wc.alloc _).alloc _).alloc _ = W0
      have h0 : LI wc W0 (wc.heap.size + 1 + 1) wc.heap.size (wc.heap.size + 1) a0 a6 par a5 a4 0 0 a11 a10 a3 0 := by
        rw [← hW]
        exact LI.start wc a0 a6 par a5 a4 0 0 a11 a10 a3
      obtain ⟨N, hN⟩ : ∃ N, N = wc.heap.size + 1 + 1 := ⟨_, rfl⟩
      obtain ⟨A, hA⟩ : ∃ A, A = wc.heap.size + 1 := ⟨_, rfl⟩
      obtain ⟨B, hB⟩ : ∃ B, B = wc.heap.size := ⟨_, rfl⟩
      rw [← hN, ← hA, ← hB] at h0
      rw [← hN, ← hA, ← hB]
      clear hW hN hA hB
      go_loopw [30] (fun i wr => ∃ j : Nat, j ≤ k ∧ i = .int .i64 j ∧ LI wc wr N B A a0 a6 par a5 a4 0 0 a11 a10 a3 j) (fun i _ => k - (intOf i).toNat)
      case atStart => exact ⟨0, Nat.zero_le _, rfl, h0⟩
      case round =>
        clear h0
        obtain ⟨j, hj, rfl, hI⟩ := hrel
        have c37 := hI.at.c37
        by_cases hlt : j < k
        · have z37 := free_of_blk hI.blk 37
          go_wp2_with fail
          go_roundw
          case rel => exact ⟨j + 1, by omega, by go_num, hI.step _⟩
          case measure => simp [intOf]; omega
        · obtain rfl : k = j := by omega
          have U := hide_of (fun W (q : Nat) (hq : W = wr.drewN q) => unheard_any N a0 a6 par a5 a4 0 0 a11 a10 a3 a7 a11 k W (by rw [hq]; exact hI.at.drewN q) (by simp))
          obtain ⟨c0, c4, c10, c11, c13, c14, c15, c19, c20, c22, c28, c35, _⟩ := hI.at
          obtain ⟨b0, b1⟩ := hI.bal
          obtain ⟨e0, e1⟩ := hI.adp
          have hg := hI.gr
          clear hI
          go_wp2_with fail
          refine (U.out wr 0 rfl).mono ?_
          rintro e w1 ⟨rfl, q, rfl⟩
          clear U
          obtain ⟨L, hL⟩ : ∃ L, L = decide (2 ≤ wrap64 (a7 - a3) / 2 ^ min k 64) := ⟨_, rfl⟩
          have Z : Hid (∀ W, Calls Yba.prog 5 #[.int .i64 (wrap64 (a7 - a3)), .int .i64 k] W fun e w' => e = .returned (.bool L) ∧ w' = W) := fun W => by
            rw [hL]
            exact zz_any (wrap64 (a7 - a3)) k (by unfold wrap64; omega) hk W
          have HL := hide_of hL
          clear hL
          go_upto_region 22 with fail
          go_cut [98] from 92 to 98 (fun v w' => ∃ t, v = .bool t ∧ Hid (t = (!(par == a0) && !(a11 == 0))) ∧ w' = wr.drewN q)
          case first =>
            by_cases hp : par = a0
            · go_wp2_with fail
              go_meet
              case rel => exact ⟨_, rfl, by unfold Hid; simp [hp], rfl⟩
            · go_wp2_with fail
              go_meet
              case rel => exact ⟨_, rfl, by unfold Hid; simp [bne], rfl⟩
          case rest =>
            obtain ⟨t, rfl, Ht, rfl⟩ := hcut
            go_upto_if 98 with fail
            go_cut [34, 35, 36] from 99 to 117 (fun v _ _ w' => v = .bool (unh a0 a6 par a5 a4 a11 a3 a7 k) ∧ w' = wr.drewN q)
            case first =>
              cases t
              · go_wp2_with fail
                go_meet
                case rel => exact ⟨by rw [unh_f Ht.out], rfl⟩
              · go_wp2_with fail
                refine (Z.out _).mono ?_
                rintro e w2 ⟨rfl, rfl⟩
                have hu := hide_of (unh_t (delta := a6) (hops := a5) (since := a4) (sent := a3) (now := a7) (k := k) Ht.out)
                cases L
                · go_wp2_with fail
                  go_meet
                  case rel => exact ⟨by rw [hu.out, ← HL.out]; rfl, rfl⟩
                · go_wp2_with fail
                  go_meet
                  case rel => exact ⟨by rw [hu.out, ← HL.out]; rfl, rfl⟩
            case rest =>
              obtain ⟨rfl, rfl⟩ := hcut
              clear Z HL Ht
              generalize unh a0 a6 par a5 a4 a11 a3 a7 k = u
              obtain ⟨W, hW⟩ : ∃ W, W = wr.drewN q := ⟨_, rfl⟩
              have HW := hide_of hW
              have hc : W.cell? = wr.cell? := by rw [hW]; rfl
              rw [← hc] at c37 c0 c4 c10 c11 c13 c14 c15 c19 c20 c22 c28 c35 b0 b1 e0 e1
              rw [← hW]
              clear hW hc
              go_wp2_with fail
              dsimp only [List.append]
              refine wp_region_quiet_lit (by kernel_rfl) (lexB_of (by kernel_rfl) (by kernel_rfl) (by kernel_rfl)) ?_
              repeat (go_big_quiet_step (fail))
              refine wpQuiet_nil ?_
              intro _ hw'
              obtain ⟨nq, hw''⟩ := hw'
              subst hw''
              go_wp2_with fail
              go_ret
              exact ⟨rfl, by rw [HW.out]; exact hg⟩
    · go_wp2_with fail
      generalize hW : ((wc.alloc _).alloc _).alloc _ = W0
      have h0 : LI wc W0 (wc.heap.size + 1 + 1) wc.heap.size (wc.heap.size + 1) a0 a6 par a5 a4 1 a0 a11 a10 a3 0 := by
        rw [← hW]
        exact LI.start wc a0 a6 par a5 a4 1 a0 a11 a10 a3
      obtain ⟨N, hN⟩ : ∃ N, N = wc.heap.size + 1 + 1 := ⟨_, rfl⟩
      obtain ⟨A, hA⟩ : ∃ A, A = wc.heap.size + 1 := ⟨_, rfl⟩
      obtain ⟨B, hB⟩ : ∃ B, B = wc.heap.size := ⟨_, rfl⟩
      rw [← hN, ← hA, ← hB] at h0
      rw [← hN, ← hA, ← hB]
      clear hW hN hA hB
      go_loopw [30] (fun i wr => ∃ j : Nat, j ≤ k ∧ i = .int .i64 j ∧ LI wc wr N B A a0 a6 par a5 a4 1 a0 a11 a10 a3 j) (fun i _ => k - (intOf i).toNat)
      case atStart => exact ⟨0, Nat.zero_le _, rfl, h0⟩
      case round =>
        clear h0
        obtain ⟨j, hj, rfl, hI⟩ := hrel
        have c37 := hI.at.c37
        by_cases hlt : j < k
        · have z37 := free_of_blk hI.blk 37
          go_wp2_with fail
          go_roundw
          case rel => exact ⟨j + 1, by omega, by go_num, hI.step _⟩
          case measure => simp [intOf]; omega
        · obtain rfl : k = j := by omega
          have U := hide_of (fun W (q : Nat) (hq : W = wr.drewN q) => unheard_any N a0 a6 par a5 a4 1 a0 a11 a10 a3 a7 a10 k W (by rw [hq]; exact hI.at.drewN q) (by simp))
          obtain ⟨c0, c4, c10, c11, c13, c14, c15, c19, c20, c22, c28, c35, _⟩ := hI.at
          obtain ⟨b0, b1⟩ := hI.bal
          obtain ⟨e0, e1⟩ := hI.adp
          have hg := hI.gr
          clear hI
          go_wp2_with fail
          refine (U.out wr 0 rfl).mono ?_
          rintro e w1 ⟨rfl, q, rfl⟩
          clear U
          obtain ⟨L, hL⟩ : ∃ L, L = decide (2 ≤ wrap64 (a7 - a3) / 2 ^ min k 64) := ⟨_, rfl⟩
          have Z : Hid (∀ W, Calls Yba.prog 5 #[.int .i64 (wrap64 (a7 - a3)), .int .i64 k] W fun e w' => e = .returned (.bool L) ∧ w' = W) := fun W => by
            rw [hL]
            exact zz_any (wrap64 (a7 - a3)) k (by unfold wrap64; omega) hk W
          have HL := hide_of hL
          clear hL
          go_upto_region 22 with fail
          go_cut [98] from 92 to 98 (fun v w' => ∃ t, v = .bool t ∧ Hid (t = (!(par == a0) && !(a10 == 0))) ∧ w' = wr.drewN q)
          case first =>
            by_cases hp : par = a0
            · go_wp2_with fail
              go_meet
              case rel => exact ⟨_, rfl, by unfold Hid; simp [hp], rfl⟩
            · go_wp2_with fail
              go_meet
              case rel => exact ⟨_, rfl, by unfold Hid; simp [bne], rfl⟩
          case rest =>
            obtain ⟨t, rfl, Ht, rfl⟩ := hcut
            go_upto_if 98 with fail
            go_cut [34, 35, 36] from 99 to 117 (fun v _ _ w' => v = .bool (unh a0 a6 par a5 a4 a10 a3 a7 k) ∧ w' = wr.drewN q)
            case first =>
              cases t
              · go_wp2_with fail
                go_meet
                case rel => exact ⟨by rw [unh_f Ht.out], rfl⟩
              · go_wp2_with fail
                refine (Z.out _).mono ?_
                rintro e w2 ⟨rfl, rfl⟩
                have hu := hide_of (unh_t (delta := a6) (hops := a5) (since := a4) (sent := a3) (now := a7) (k := k) Ht.out)
                cases L
                · go_wp2_with fail
                  go_meet
                  case rel => exact ⟨by rw [hu.out, ← HL.out]; rfl, rfl⟩
                · go_wp2_with fail
                  go_meet
                  case rel => exact ⟨by rw [hu.out, ← HL.out]; rfl, rfl⟩
            case rest =>
              obtain ⟨rfl, rfl⟩ := hcut
              clear Z HL Ht
              generalize unh a0 a6 par a5 a4 a10 a3 a7 k = u
              obtain ⟨W, hW⟩ : ∃ W, W = wr.drewN q := ⟨_, rfl⟩
              have HW := hide_of hW
              have hc : W.cell? = wr.cell? := by rw [hW]; rfl
              rw [← hc] at c37 c0 c4 c10 c11 c13 c14 c15 c19 c20 c22 c28 c35 b0 b1 e0 e1
              rw [← hW]
              clear hW hc
              go_wp2_with fail
              dsimp only [List.append]
              refine wp_region_quiet_lit (by kernel_rfl) (lexB_of (by kernel_rfl) (by kernel_rfl) (by kernel_rfl)) ?_
              repeat (go_big_quiet_step (fail))
              refine wpQuiet_nil ?_
              intro _ hw'
              obtain ⟨nq, hw''⟩ := hw'
              subst hw''
              go_wp2_with fail
              go_ret
              exact ⟨rfl, by rw [HW.out]; exact hg⟩
end Go.Proofs.Ybulkhdng
