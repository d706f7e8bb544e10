import Derived.Test.YbulkhdngFmtCheck
import Derived.BigQuiet
import Derived.BigRegion
namespace Go.Proofs.YbulkhdngFmt
open Go.RowKit Go.Extern.Stop Go.Stop Go.Extern

theorem Ybaf.info32 : (Ybaf.prog.info? 32).map (fun i => (i.zero, i.size, i.bytes)) = some (some (.agg #[.int .i64 0, .int .i64 0, .int .i64 0, .int .i64 0]), 4, 32) := by kernel_rfl

/-- The decisions that came in. -/
def RdD (w : World) (a : Option Addr) (n : Nat) (V : Nat → Dec) : Prop := 0 < n → ∃ b o, a = some ⟨b, o, none⟩ ∧ ∀ i, i < n → Cells4 w b (o + i * 4) (V i)

def Row4 (c : Array Value) (p : Nat) (d : Dec) : Prop := c[p]? = some (.int .i64 d.v) ∧ c[p + 1]? = some (.int .i64 d.p) ∧ c[p + 2]? = some (.int .i64 d.c) ∧ c[p + 3]? = some (.int .i64 d.t)

/-- The copies, the first k of them laid. -/
structure L1 (w : World) (id nodes : Int) (C n : Nat) (V : Nat → Dec) (X k : Nat) (wr : World) : Prop where
  blk : ∃ c, wr.heap[X]? = some (.cells c 32 (0, 0)) ∧ c.size = n * 4 ∧ ∀ i, i < k → Row4 c (i * 4) (V i)
  fr : Fr [] w wr
  hX : w.heap.size ≤ X
  cfg : wr.heap[C]? = some (.cells #[.int .i64 id, .int .i64 nodes, .bool false, .int .i64 0, .int .i64 0, .int .i64 0, .int .i64 0, .bool false, .int .u64 0] 25 (0, 0))
  hC : C ≠ X

theorem L1.cells {w : World} {id nodes : Int} {C n : Nat} {V : Nat → Dec} {X k : Nat} {wr : World} (h : L1 w id nodes C n V X k wr) : ∀ i, i < k → Cells4 wr X (i * 4) (V i) := by
  obtain ⟨c, hb, _, hc⟩ := h.blk
  intro i hi
  obtain ⟨h0, h1, h2, h3⟩ := hc i hi
  exact ⟨cell_of_blk hb h0, cell_of_blk hb h1, cell_of_blk hb h2, cell_of_blk hb h3⟩

theorem L1.step {w : World} {id nodes : Int} {C n : Nat} {V : Nat → Dec} {X k : Nat} {wr : World} (h : L1 w id nodes C n V X k wr) (hk : k < n) :
    L1 w id nodes C n V X (k + 1) ((((wr.setCell ⟨X, k * 4, none⟩ (.int .i64 (V k).v)).setCell ⟨X, k * 4 + 1, none⟩ (.int .i64 (V k).p)).setCell ⟨X, k * 4 + 2, none⟩ (.int .i64 (V k).c)).setCell ⟨X, k * 4 + 3, none⟩ (.int .i64 (V k).t)) := by
  obtain ⟨c, hb, hs, hc⟩ := h.blk
  have f1 : Fr [X] wr ((((wr.setCell ⟨X, k * 4, none⟩ (.int .i64 (V k).v)).setCell ⟨X, k * 4 + 1, none⟩ (.int .i64 (V k).p)).setCell ⟨X, k * 4 + 2, none⟩ (.int .i64 (V k).c)).setCell ⟨X, k * 4 + 3, none⟩ (.int .i64 (V k).t)) :=
    ((((Fr.refl _ _).setCell (by simp) _).setCell (by simp) _).setCell (by simp) _).setCell (by simp) _
  refine ⟨⟨_, blk_setCell (blk_setCell (blk_setCell (blk_setCell hb _) _) _) _, by simpa using hs, fun i hi => ?_⟩, ((h.fr.mono (by simp)).trans f1).less (by simp; exact h.hX), h.hX, f1.block h.cfg (by simp; exact h.hC), h.hC⟩
  by_cases e : i = k
  · subst e
    refine ⟨?_, ?_, ?_, ?_⟩ <;> simp [Array.getElem?_setIfInBounds, hs] <;> omega
  · obtain ⟨h0, h1, h2, h3⟩ := hc i (by omega)
    refine ⟨?_, ?_, ?_, ?_⟩
    · rw [Array.getElem?_setIfInBounds_ne (by omega), Array.getElem?_setIfInBounds_ne (by omega), Array.getElem?_setIfInBounds_ne (by omega), Array.getElem?_setIfInBounds_ne (by omega)]; exact h0
    · rw [Array.getElem?_setIfInBounds_ne (by omega), Array.getElem?_setIfInBounds_ne (by omega), Array.getElem?_setIfInBounds_ne (by omega), Array.getElem?_setIfInBounds_ne (by omega)]; exact h1
    · rw [Array.getElem?_setIfInBounds_ne (by omega), Array.getElem?_setIfInBounds_ne (by omega), Array.getElem?_setIfInBounds_ne (by omega), Array.getElem?_setIfInBounds_ne (by omega)]; exact h2
    · rw [Array.getElem?_setIfInBounds_ne (by omega), Array.getElem?_setIfInBounds_ne (by omega), Array.getElem?_setIfInBounds_ne (by omega), Array.getElem?_setIfInBounds_ne (by omega)]; exact h3

theorem L1.go {w : World} {id nodes : Int} {C n : Nat} {V : Nat → Dec} {X k : Nat} {wr w' : World} (h : L1 w id nodes C n V X k wr) (f : Fr [] wr w') : L1 w id nodes C n V X k w' := by
  obtain ⟨c, hb, hs, hc⟩ := h.blk
  exact ⟨⟨c, f.block hb (by simp), hs, hc⟩, h.fr.trans f, h.hX, f.block h.cfg (by simp), h.hC⟩

/-- All that stands behind the copying. -/
structure L2 (w : World) (C S : Nat) (id nodes bp bc par hops vote ap ac : Int) (X n : Nat) (V : Nat → Dec) (wr : World) : Prop where
  l1 : L1 w id nodes C n V X n wr
  st : wr.heap[S]? = some (.cells #[.int .i64 bp, .int .i64 bc, .int .i64 par, .int .i64 hops, .int .i64 vote, .int .i64 ap, .int .i64 ac, .slice (some ⟨X, 0, none⟩) n n] 34 (0, 0))

theorem L2.go {w : World} {C S : Nat} {id nodes bp bc par hops vote ap ac : Int} {X n : Nat} {V : Nat → Dec} {wr w' : World} (h : L2 w C S id nodes bp bc par hops vote ap ac X n V wr) (f : Fr [] wr w') : L2 w C S id nodes bp bc par hops vote ap ac X n V w' :=
  ⟨h.l1.go f, f.block h.st (by simp)⟩

theorem L2.cells {w : World} {C S : Nat} {id nodes bp bc par hops vote ap ac : Int} {X n : Nat} {V : Nat → Dec} {wr : World} (h : L2 w C S id nodes bp bc par hops vote ap ac X n V wr) :
    wr.cell? ⟨S, 0, none⟩ = some (.int .i64 bp) ∧ wr.cell? ⟨S, 1, none⟩ = some (.int .i64 bc) ∧ wr.cell? ⟨S, 2, none⟩ = some (.int .i64 par) ∧ wr.cell? ⟨S, 3, none⟩ = some (.int .i64 hops) ∧ wr.cell? ⟨S, 4, none⟩ = some (.int .i64 vote) ∧ wr.cell? ⟨S, 5, none⟩ = some (.int .i64 ap) ∧ wr.cell? ⟨S, 6, none⟩ = some (.int .i64 ac) ∧ wr.cell? ⟨S, 7, none⟩ = some (.slice (some ⟨X, 0, none⟩) n n) :=
  ⟨cell_of_blk h.st rfl, cell_of_blk h.st rfl, cell_of_blk h.st rfl, cell_of_blk h.st rfl, cell_of_blk h.st rfl, cell_of_blk h.st rfl, cell_of_blk h.st rfl, cell_of_blk h.st rfl⟩
theorem L2.cfgs {w : World} {C S : Nat} {id nodes bp bc par hops vote ap ac : Int} {X n : Nat} {V : Nat → Dec} {wr : World} (h : L2 w C S id nodes bp bc par hops vote ap ac X n V wr) :
    wr.cell? ⟨C, 0, none⟩ = some (.int .i64 id) ∧ wr.cell? ⟨C, 1, none⟩ = some (.int .i64 nodes) ∧ wr.cell? ⟨C, 2, none⟩ = some (.bool false) ∧ wr.cell? ⟨C, 3, none⟩ = some (.int .i64 0) ∧ wr.cell? ⟨C, 4, none⟩ = some (.int .i64 0) ∧ wr.cell? ⟨C, 5, none⟩ = some (.int .i64 0) ∧ wr.cell? ⟨C, 6, none⟩ = some (.int .i64 0) ∧ wr.cell? ⟨C, 7, none⟩ = some (.bool false) ∧ wr.cell? ⟨C, 8, none⟩ = some (.int .u64 0) :=
  ⟨cell_of_blk h.l1.cfg rfl, cell_of_blk h.l1.cfg rfl, cell_of_blk h.l1.cfg rfl, cell_of_blk h.l1.cfg rfl, cell_of_blk h.l1.cfg rfl, cell_of_blk h.l1.cfg rfl, cell_of_blk h.l1.cfg rfl, cell_of_blk h.l1.cfg rfl, cell_of_blk h.l1.cfg rfl⟩
theorem any_step {V : Nat → Dec} {k : Nat} {b : Bool} : (b || anyB V (k + 1)) = ((b || anyB V k) || badD (V k)) := by
  unfold anyB
  rw [List.range_succ, List.any_append, List.any_cons, List.any_nil, Bool.or_false, Bool.or_assoc]

theorem make26 (n : Nat) (hn : n ≤ 1048576) : ∃ c : Array Value, c.size = n * 4 ∧ ∀ w : World, (Instr.makeSlice 26 (.int .i64 n) (.int .i64 n)).run Ybaf.prog w = .ok (.slice (some ⟨w.heap.size, 0, none⟩) n n) (w.alloc (.cells c 32)) := by
  obtain ⟨i32, hi, hz, hs, hb⟩ := info_parts Ybaf.info32
  refine ⟨madeCells (Value.agg #[.int .i64 0, .int .i64 0, .int .i64 0, .int .i64 0]).cells (n * 4), by simp [madeCells], fun w => ?_⟩
  have := run_make (P := Ybaf.prog) w 26 32 i32 _ Ybaf.underlying26 hi hz .i64 .i64 (n : Int) (n : Int) (by omega) (by omega) (by rw [hb]; omega) (by omega)
  rw [this, hs]
  simp

set_option maxRecDepth 100000 in
set_option maxHeartbeats 3200000 in
theorem law_walk (F : Interp) (id nodes bp bc par hops vote ap ac : Int) (a : Option Addr) (n cap : Nat) (V : Nat → Dec) (w : World) (hF : F.answers w.tape) (hn : n ≤ 1048576) (h : RdD w a n V) :
    Calls Ybaf.prog 3 #[.int .i64 id, .int .i64 nodes, .int .i64 bp, .int .i64 bc, .int .i64 par, .int .i64 hops, .int .i64 vote, .int .i64 ap, .int .i64 ac, .slice a n cap] w fun e w' => e = .returned (.bool true) ∧ Below w.heap.size w w' := by
  obtain ⟨cz, hcz, mk⟩ := make26 n hn
  go_enter Ybaf.func3, Ybaf.ntmps3
  go_wp2_with fail
  generalize hW : (w.alloc _).alloc _ = W0
  obtain ⟨C, hC⟩ : ∃ C, C = w.heap.size := ⟨_, rfl⟩
  obtain ⟨X, hX⟩ : ∃ X, X = w.heap.size + 1 := ⟨_, rfl⟩
  have hL0 : L1 w id nodes C n V X 0 W0 := by
    rw [← hW, hC, hX]
    refine ⟨⟨cz, by simpa using blk_new (w.alloc (.cells #[.int .i64 id, .int .i64 nodes, .bool false, .int .i64 0, .int .i64 0, .int .i64 0, .int .i64 0, .bool false, .int .u64 0] 25)) (.cells cz 32), hcz, fun i hi => absurd hi (by omega)⟩, ((Fr.refl _ _).alloc _).alloc _, by omega, ?_, by omega⟩
    rw [Below.heap_alloc _ _ _ (by simp)]
    exact blk_new _ _
  rw [← hX, ← hC]
  clear hW hC hX mk hcz
  go_loopw [23] (fun i wr => ∃ k : Nat, k ≤ n ∧ i = .int .i64 k ∧ L1 w id nodes C n V X k wr) (fun i _ => n - (intOf i).toNat)
  case atStart => exact ⟨0, Nat.zero_le _, rfl, hL0⟩
  case round =>
    clear hL0
    obtain ⟨k, hk, rfl, hL⟩ := hrel
    by_cases hlt : k < n
    · obtain ⟨b, o, rfl, hc⟩ := h (by omega)
      obtain ⟨d0, d1, d2, d3⟩ := (hc k hlt).fr hL.fr (by simp)
      have hbX : b ≠ X := by
        have h1 := cell_lt (hc k hlt).1
        have h2 := hL.hX
        simp only at h1
        omega
      obtain ⟨c, hb, hs, _⟩ := hL.blk
      have s0 : wr.cell? ⟨X, k * 4, none⟩ = some c[k * 4]! := cell_of_blk hb (by simp [show k * 4 < c.size by omega])
      have s1 : wr.cell? ⟨X, k * 4 + 1, none⟩ = some c[k * 4 + 1]! := cell_of_blk hb (by simp [show k * 4 + 1 < c.size by omega])
      have s2 : wr.cell? ⟨X, k * 4 + 2, none⟩ = some c[k * 4 + 2]! := cell_of_blk hb (by simp [show k * 4 + 2 < c.size by omega])
      have s3 : wr.cell? ⟨X, k * 4 + 3, none⟩ = some c[k * 4 + 3]! := cell_of_blk hb (by simp [show k * 4 + 3 < c.size by omega])
      have z0 := free_of_blk hb (k * 4)
      have z1 := free_of_blk hb (k * 4 + 1)
      have z2 := free_of_blk hb (k * 4 + 2)
      have z3 := free_of_blk hb (k * 4 + 3)
      clear hb hs hc
      go_wp2_with fail
      go_region
      go_wp2_with fail
      go_roundw
      case rel => exact ⟨k + 1, by omega, by go_num, (hL.step hlt).go ((Fr.refl [] _).drew)⟩
      case measure => simp [intOf]; omega
    · obtain rfl : n = k := by omega
      go_upto_region 11 with fail
      have hP : L2 w C wr.heap.size id nodes bp bc par hops vote ap ac X n V (wr.alloc (.cells #[.int .i64 bp, .int .i64 bc, .int .i64 par, .int .i64 hops, .int .i64 vote, .int .i64 ap, .int .i64 ac, .slice (some ⟨X, 0, none⟩) n n] 34)) :=
        ⟨hL.go ((Fr.refl [] wr).alloc _), blk_new _ _⟩
      obtain ⟨S, hS⟩ : ∃ S, S = wr.heap.size := ⟨_, rfl⟩
      rw [← hS] at hP ⊢
      generalize wr.alloc (.cells #[.int .i64 bp, .int .i64 bc, .int .i64 par, .int .i64 hops, .int .i64 vote, .int .i64 ap, .int .i64 ac, .slice (some ⟨X, 0, none⟩) n n] 34) = W at hP ⊢
      clear hS hL
      go_cut [91] from 82 to 91 (fun v w' => ∃ t, v = .bool t ∧ Hid (t = (!okB bp bc || !okB ap ac)) ∧ w' = W)
      case first =>
        go_wp2_with fail
        refine (zzok_any bp bc W).mono ?_
        rintro e w1 ⟨rfl, rfl⟩
        cases hb : okB bp bc with
        | false =>
          have HB := hide_of hb
          clear hb
          go_wp2_with fail
          go_meet
          case rel => exact ⟨_, rfl, by unfold Hid; rw [HB.out]; rfl, rfl⟩
        | true =>
          have HB := hide_of hb
          clear hb
          go_wp2_with fail
          refine (zzok_any ap ac _).mono ?_
          rintro e w2 ⟨rfl, rfl⟩
          go_wp2_with fail
          go_meet
          case rel => exact ⟨_, rfl, by unfold Hid; rw [HB.out]; rfl, rfl⟩
      case rest =>
        obtain ⟨t1, rfl, H1, hw⟩ := hcut
        rw [hw]
        clear hw
        go_upto_if 91 with fail
        go_cut [25] from 82 to 91 (fun v w' => v = .bool t1 ∧ w' = W)
        case first =>
          cases t1
          · go_wp2_with fail
            go_meet
            case rel => exact ⟨rfl, rfl⟩
          · go_wp2_with fail
            go_meet
            case rel => exact ⟨rfl, rfl⟩
        case rest =>
          obtain ⟨rfl, hw⟩ := hcut
          rw [hw]
          clear hw
          go_upto_region 13 with fail
          go_cut [26] from 92 to 97 (fun v w' => ∃ t, v = .bool t ∧ Hid (t = zB bp bc) ∧ w' = W)
          case first =>
            cases p1 : (bp == 0)
            · go_wp2_with fail
              go_meet
              case rel => exact ⟨_, rfl, by unfold Hid zB; rw [p1]; rfl, rfl⟩
            · go_wp2_with fail
              go_meet
              case rel => exact ⟨_, rfl, by unfold Hid zB; rw [p1]; rfl, rfl⟩
          case rest =>
            obtain ⟨tz, rfl, Hz, hw⟩ := hcut
            rw [hw]
            clear hw
            go_upto_if 98 with fail
            go_cut [25] from 98 to 125 (fun v w' => ∃ t, v = .bool t ∧ Hid (t = ((((!okB bp bc || !okB ap ac) || bad2 bp bc par hops) || bad3 id bp bc par hops) || bad4 id nodes bp bc par hops)) ∧ w' = W)
            case first =>
              cases tz
              · cases p1 : (par == id)
                · have p1' : (par != id) = true := by simp [bne, p1]
                  cases p2 : decide (par < 1)
                  · cases p3 : decide (hops < 1)
                    · cases p4 : decide (nodes < hops)
                      · go_wp2_with fail
                        go_meet
                        case rel => exact ⟨_, rfl, by unfold Hid; rw [← H1.out]; unfold bad2 bad3 bad4; rw [← Hz.out, p1, p1', p2, p3, p4]; cases t1 <;> rfl, rfl⟩
                      · go_wp2_with fail
                        go_meet
                        case rel => exact ⟨_, rfl, by unfold Hid; rw [← H1.out]; unfold bad2 bad3 bad4; rw [← Hz.out, p1, p1', p2, p3, p4]; cases t1 <;> rfl, rfl⟩
                    · go_wp2_with fail
                      go_meet
                      case rel => exact ⟨_, rfl, by unfold Hid; rw [← H1.out]; unfold bad2 bad3 bad4; rw [← Hz.out, p1, p1', p2, p3]; cases t1 <;> rfl, rfl⟩
                  · go_wp2_with fail
                    go_meet
                    case rel => exact ⟨_, rfl, by unfold Hid; rw [← H1.out]; unfold bad2 bad3 bad4; rw [← Hz.out, p1, p1', p2]; cases t1 <;> rfl, rfl⟩
                · have p1' : (par != id) = false := by simp [bne, p1]
                  cases p2 : (hops != 0)
                  · cases p3 : (bc != id)
                    · go_wp2_with fail
                      go_meet
                      case rel => exact ⟨_, rfl, by unfold Hid; rw [← H1.out]; unfold bad2 bad3 bad4; rw [← Hz.out, p1, p1', p2, p3]; cases t1 <;> rfl, rfl⟩
                    · go_wp2_with fail
                      go_meet
                      case rel => exact ⟨_, rfl, by unfold Hid; rw [← H1.out]; unfold bad2 bad3 bad4; rw [← Hz.out, p1, p1', p2, p3]; cases t1 <;> rfl, rfl⟩
                  · go_wp2_with fail
                    go_meet
                    case rel => exact ⟨_, rfl, by unfold Hid; rw [← H1.out]; unfold bad2 bad3 bad4; rw [← Hz.out, p1, p1', p2]; cases t1 <;> rfl, rfl⟩
              · cases p1 : (par != 0)
                · cases p2 : (hops != 0)
                  · go_wp2_with fail
                    go_meet
                    case rel => exact ⟨_, rfl, by unfold Hid; rw [← H1.out]; unfold bad2 bad3 bad4; rw [← Hz.out, p1, p2]; cases t1 <;> rfl, rfl⟩
                  · go_wp2_with fail
                    go_meet
                    case rel => exact ⟨_, rfl, by unfold Hid; rw [← H1.out]; unfold bad2 bad3 bad4; rw [← Hz.out, p1, p2]; cases t1 <;> rfl, rfl⟩
                · go_wp2_with fail
                  go_meet
                  case rel => exact ⟨_, rfl, by unfold Hid; rw [← H1.out]; unfold bad2 bad3 bad4; rw [← Hz.out, p1]; cases t1 <;> rfl, rfl⟩
            case rest =>
              obtain ⟨t3, rfl, H3, hw⟩ := hcut
              rw [hw]
              clear hw H1 Hz
              go_upto_region 22 with fail
              go_cut [138] from 126 to 138 (fun v w' => ∃ t, v = .bool t ∧ Hid (t = lessB bp bc ap ac) ∧ w' = W)
              case first =>
                cases p1 : decide (bp < ap)
                · cases p2 : (bp == ap)
                  · have p2' : decide (bp = ap) = false := p2
                    go_wp2_with fail
                    go_meet
                    case rel => exact ⟨_, rfl, by unfold Hid lessB; rw [p1, p2']; rfl, rfl⟩
                  · have p2' : decide (bp = ap) = true := p2
                    go_wp2_with fail
                    go_meet
                    case rel => exact ⟨_, rfl, by unfold Hid lessB; rw [p1, p2']; rfl, rfl⟩
                · go_wp2_with fail
                  go_meet
                  case rel => exact ⟨_, rfl, by unfold Hid lessB; rw [p1]; rfl, rfl⟩
              case rest =>
                obtain ⟨t5, rfl, H5, hw⟩ := hcut
                rw [hw]
                clear hw
                go_upto_if 138 with fail
                go_cut [25] from 126 to 138 (fun v w' => ∃ t, v = .bool t ∧ Hid (t = (t3 || t5)) ∧ w' = W)
                case first =>
                  cases t5
                  · go_wp2_with fail
                    go_meet
                    case rel => exact ⟨_, rfl, by unfold Hid; cases t3 <;> rfl, rfl⟩
                  · go_wp2_with fail
                    go_meet
                    case rel => exact ⟨_, rfl, by unfold Hid; cases t3 <;> rfl, rfl⟩
                case rest =>
                  obtain ⟨t6, rfl, H6, hw⟩ := hcut
                  rw [hw]
                  clear hw
                  go_upto_region 24 with fail
                  go_cut [148] from 139 to 148 (fun v w' => ∃ t, v = .bool t ∧ Hid (t = bad6 ap ac vote) ∧ w' = W)
                  case first =>
                    cases p1 : (ap == 0)
                    · go_wp2_with fail
                      go_meet
                      case rel => exact ⟨_, rfl, by unfold Hid bad6 zB; rw [p1]; rfl, rfl⟩
                    · cases p2 : (ac == 0)
                      · go_wp2_with fail
                        go_meet
                        case rel => exact ⟨_, rfl, by unfold Hid bad6 zB; rw [p1, p2]; rfl, rfl⟩
                      · go_wp2_with fail
                        go_meet
                        case rel => exact ⟨_, rfl, by unfold Hid bad6 zB; rw [p1, p2]; rfl, rfl⟩
                  case rest =>
                    obtain ⟨t7, rfl, H7, hw⟩ := hcut
                    rw [hw]
                    clear hw
                    go_upto_if 148 with fail
                    go_cut [25] from 139 to 148 (fun v w' => ∃ t, v = .bool t ∧ Hid (t = headB id nodes bp bc par hops vote ap ac) ∧ w' = W)
                    case first =>
                      cases t7
                      · go_wp2_with fail
                        go_meet
                        case rel => exact ⟨_, rfl, by unfold Hid headB; rw [← H3.out, ← H5.out, ← H7.out, ← H6.out, Bool.or_false], rfl⟩
                      · go_wp2_with fail
                        go_meet
                        case rel => exact ⟨_, rfl, by unfold Hid headB; rw [← H7.out, Bool.or_true], rfl⟩
                    case rest =>
                      obtain ⟨t8, rfl, H8, hw⟩ := hcut
                      rw [hw]
                      clear hw H3 H5 H6 H7
                      go_wp2_with fail
                      go_loopw [25, 27] (fun b i wr => ∃ (k : Nat) (u : Bool), k ≤ n ∧ i = .int .i64 k ∧ b = .bool u ∧ Hid (u = (t8 || anyB V k)) ∧ wr = W) (fun _ i _ => n - (intOf i).toNat)
                      case atStart => exact ⟨0, t8, Nat.zero_le _, rfl, rfl, by unfold Hid; cases t8 <;> rfl, rfl⟩
                      case round =>
                        obtain ⟨k, u, hk, rfl, rfl, HU, hw⟩ := hrel
                        rw [hw]
                        clear hw
                        by_cases hlt : k < n
                        · obtain ⟨b, o, rfl, hc⟩ := h (by omega)
                          obtain ⟨d0, d1, d2, d3⟩ := (hc k hlt).fr hP.l1.fr (by simp)
                          clear hc
                          go_upto_region 29 with fail
                          go_cut [177] from 155 to 177 (fun v w' => ∃ t, v = .bool t ∧ Hid (t = badD (V k)) ∧ w' = W)
                          case first =>
                            cases p1 : decide (1 ≤ (V k).p)
                            · go_wp2_with fail
                              go_meet
                              case rel => exact ⟨_, rfl, by unfold Hid badD; rw [p1]; rfl, rfl⟩
                            · cases p2 : decide (1 ≤ (V k).c)
                              · go_wp2_with fail
                                go_meet
                                case rel => exact ⟨_, rfl, by unfold Hid badD; rw [p1, p2]; rfl, rfl⟩
                              · go_wp2_with fail
                                go_meet
                                case rel => exact ⟨_, rfl, by unfold Hid badD; rw [p1, p2]; rfl, rfl⟩
                          case rest =>
                            obtain ⟨t9, rfl, H9, hw⟩ := hcut
                            rw [hw]
                            clear hw
                            cases t9
                            · go_wp2_with fail
                              go_roundw
                              case rel => exact ⟨k + 1, _, by omega, by go_num, rfl, by unfold Hid; rw [any_step, ← H9.out, HU.out, Bool.or_false], by first | trivial | rfl⟩
                              case measure => simp [intOf]; omega
                            · go_wp2_with fail
                              go_roundw
                              case rel => exact ⟨k + 1, _, by omega, by go_num, rfl, by unfold Hid; rw [any_step, ← H9.out, Bool.or_true], by first | trivial | rfl⟩
                              case measure => simp [intOf]; omega
                        · obtain rfl : n = k := by omega
                          obtain ⟨s0, s1, s2, s3, s4, s5, s6, s7⟩ := hP.cells
                          obtain ⟨c0, c1, c2, c3, c4, c5, c6, c7, c8⟩ := hP.cfgs
                          go_wp2_with fail
                          refine (check_any F id nodes bp bc par hops vote ap ac X n V W (by rw [hP.l1.fr.tape]; exact hF) hn hP.l1.cells).mono ?_
                          rintro e w5 ⟨v, rfl, hf5, hsaid⟩
                          have hP5 := hP.go hf5
                          have hsd : Said v u := by rw [HU.out, H8.out]; exact hsaid
                          clear hP s0 s1 s2 s3 s4 s5 s6 s7 c0 c1 c2 c3 c4 c5 c6 c7 c8 hsaid hf5 HU H8
                          obtain ⟨s0, s1, s2, s3, s4, s5, s6, s7⟩ := hP5.cells
                          go_upto_region 32 with fail
                          go_cut [184] from 181 to 184 (fun v w' => v = .bool false ∧ w' = w5)
                          case first =>
                            rcases hsd with ⟨rfl, rfl⟩ | ⟨⟨ad, rfl⟩, rfl⟩
                            · go_wp2_with fail
                              go_meet
                              case rel => exact ⟨rfl, rfl⟩
                            · go_wp2_with fail
                              go_meet
                              case rel => exact ⟨rfl, rfl⟩
                          case rest =>
                            obtain ⟨rfl, hw⟩ := hcut
                            rw [hw]
                            clear hw
                            go_wp2_with fail
                            clear s0 s1 s2 s3 s4 s5 s6 s7
                            go_loopw [29] (fun i wr => ∃ k : Nat, k ≤ n ∧ i = .int .i64 k ∧ L2 w C S id nodes bp bc par hops vote ap ac X n V wr) (fun i _ => n - (intOf i).toNat)
                            case atStart => exact ⟨0, Nat.zero_le _, rfl, hP5⟩
                            case round =>
                              clear hP5
                              obtain ⟨k, hk, rfl, hP6⟩ := hrel
                              obtain ⟨_, _, _, _, _, _, _, s7⟩ := hP6.cells
                              by_cases hlt : k < n
                              · obtain ⟨b, o, rfl, hc⟩ := h (by omega)
                                obtain ⟨x0, x1, x2, x3⟩ := hP6.l1.cells k hlt
                                go_upto_region 40 with fail
                                have hP7 := hP6.go ((Fr.refl [] wr).alloc (.cells #[.int .i64 (V k).v, .int .i64 (V k).p, .int .i64 (V k).c, .int .i64 (V k).t] 32))
                                have hb7 := blk_new wr (.cells #[.int .i64 (V k).v, .int .i64 (V k).p, .int .i64 (V k).c, .int .i64 (V k).t] 32)
                                obtain ⟨G, hG⟩ : ∃ G, G = wr.heap.size := ⟨_, rfl⟩
                                rw [← hG] at hb7 ⊢
                                generalize wr.alloc (.cells #[.int .i64 (V k).v, .int .i64 (V k).p, .int .i64 (V k).c, .int .i64 (V k).t] 32) = W7 at hP7 hb7 ⊢
                                clear hP6 hG x0 x1 x2 x3 s7
                                have g0 : W7.cell? ⟨G, 0, none⟩ = some (.int .i64 (V k).v) := cell_of_blk hb7 rfl
                                have g1 : W7.cell? ⟨G, 1, none⟩ = some (.int .i64 (V k).p) := cell_of_blk hb7 rfl
                                have g2 : W7.cell? ⟨G, 2, none⟩ = some (.int .i64 (V k).c) := cell_of_blk hb7 rfl
                                have g3 : W7.cell? ⟨G, 3, none⟩ = some (.int .i64 (V k).t) := cell_of_blk hb7 rfl
                                obtain ⟨d0, d1, d2, d3⟩ := (hc k hlt).fr hP7.l1.fr (by simp)
                                clear hc hb7
                                go_quiet (fail)
                                go_wp2_with fail
                                go_roundw
                                case rel => exact ⟨k + 1, by omega, by go_num, hP7.go ((Fr.refl [] _).drewN _)⟩
                                case measure => simp [intOf]; omega
                              · obtain rfl : n = k := by omega
                                go_wp2_with fail
                                go_ret
                                exact ⟨rfl, hP6.l1.fr.below (Nat.le_refl _) (by simp)⟩

set_option maxRecDepth 100000 in
set_option maxHeartbeats 400000 in
theorem law_far (id nodes bp bc par hops vote ap ac : Int) (a : Option Addr) (n cap : Nat) (w : World) (hn : ¬ n ≤ 1048576) (hm : n ≤ 140737488351232) :
    Calls Ybaf.prog 3 #[.int .i64 id, .int .i64 nodes, .int .i64 bp, .int .i64 bc, .int .i64 par, .int .i64 hops, .int .i64 vote, .int .i64 ap, .int .i64 ac, .slice a n cap] w fun e w' => e = .returned (.bool true) ∧ Below w.heap.size w w' := by
  go_enter Ybaf.func3, Ybaf.ntmps3
  go_wp2
  go_ret
  exact ⟨rfl, Below.refl _ _⟩
end Go.Proofs.YbulkhdngFmt
