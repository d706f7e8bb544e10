import Derived.Test.YbulkhczuB4
import Derived.Deep.DeepCutAuto
namespace Go.Proofs.Ybulkhczu
open Go.RowKit Go.MuLone
open Go.ChangeMaps (setBlock)

set_option maxRecDepth 100000 in
set_option maxHeartbeats 1600000 in
theorem lawB_walk (mg en : Int) (ho : ByteArray) (a : Option Addr) (n cap : Nat) (op : Nat → Int) (w : World) (h0 : n ≤ 65536) (r0 : Rds w a n (fun i => .int .u8 (op i))) (hop : ∀ i, 0 ≤ op i ∧ op i ≤ 255) :
    Calls Yba.prog 4 #[.int .i64 mg, .string ho, .int .i64 en, .slice a n cap] w fun e w' => e = .returned (.bool true) ∧ Below w.heap.size w w' := by
  have HOP := hide_of hop
  clear hop
  go_enter Yba.func4, Yba.ntmps4
  go_wp2_with fail
  have hQ0 := Q1.start (.int .i64 mg) (.string ho) (.int .i64 en) w
  obtain ⟨B, hB⟩ : ∃ B, B = w.heap.size := ⟨_, rfl⟩
  rw [← hB] at hQ0 ⊢
  change Code.wp _ _ _ _ ((w.alloc (.cells (stCells (.int .i64 mg) (.string ho) 0 (.int .i64 en) none) 71)).alloc (.cells #[.pointer none, .pointer none, .pointer none, .pointer none, .pointer none, .pointer none] 76))
  generalize (w.alloc (.cells (stCells (.int .i64 mg) (.string ho) 0 (.int .i64 en) none) 71)).alloc (.cells #[.pointer none, .pointer none, .pointer none, .pointer none, .pointer none, .pointer none] 76) = W0 at hQ0 ⊢
  have HB := hide_of hB
  clear hB
  go_loopw [11] (fun i wr => ∃ k : Nat, k ≤ 6 ∧ i = .int .i64 k ∧ Q1 B (.int .i64 mg) (.string ho) (.int .i64 en) k w wr) (fun i _ => 6 - (intOf i).toNat)
  case atStart => exact ⟨0, by omega, rfl, hQ0⟩
  case round =>
    obtain ⟨k, hk, rfl, hQ⟩ := hrel
    by_cases hlt : k < 6
    · go_wp2_with fail
      refine (new_wt _ (B + 2 + 3 * k) hQ.size).mono ?_
      rintro e w1 ⟨rfl, hs1, hf1, hw1⟩
      have cP : w1.cell? ⟨B + 1, k, none⟩ = some (poolV B k k) := cell_of_blk (hf1.block hQ.pool (by simp)) (rowF_get hlt)
      have zP := free_of_blk (hf1.block hQ.pool (by simp)) k
      have HS := hide_of hs1
      clear hs1
      go_wp2_with fail
      go_roundw
      case rel => exact ⟨k + 1, by omega, by go_num, hQ.step HS.out hf1 hw1⟩
      case measure => simp [intOf]; omega
    · obtain rfl : k = 6 := by omega
      have hsz : wr.heap.size = B + 20 := hQ.size
      go_wp2_with fail
      refine (new_wt _ (B + 21) (by simp [hsz])).mono ?_
      rintro e w1 ⟨rfl, hs1, hf1, hw1⟩
      have hR0 := Q2.start hQ hs1 hf1 hw1
      clear hsz hQ hs1 hf1 hw1
      go_wp2_with fail
      go_loopw [36] (fun i wr => ∃ (k : Nat) (mo : Option Nat) (f : List (Nat × Value)) (md : Nat → Bool), k ≤ n ∧ i = .int .i64 k ∧ Q2 B (.int .i64 mg) (.string ho) (.int .i64 en) mo 0 f md w wr) (fun i _ => n - (intOf i).toNat)
      case atStart => exact ⟨0, none, [], fun _ => false, by omega, rfl, hR0⟩
      case round =>
        obtain ⟨k, mo, f, md, hk, rfl, hQ⟩ := hrel
        by_cases hlt : k < n
        · obtain ⟨b, o, ha, hc⟩ := (r0.below (HB.out ▸ hQ.bel)) (by omega)
          subst ha
          have hcell := hc k hlt
          clear hc
          obtain ⟨hp0, hp1⟩ := HOP.out k
          obtain ⟨J, hJ, hJ6⟩ : ∃ J : Nat, op k / 4 % 6 = (J : Int) ∧ J < 6 := ⟨(op k / 4 % 6).toNat, by omega, by omega⟩
          have cP := hQ.poolCell hJ6
          by_cases y0 : (bits BinOp.and IntKind.u8 (op k) 3 == 0) = true
          · go_wp2_with fail
            refine (watch_nil B (B + 4 + 3 * J) mo _ _ _ f wr hQ.st hQ.wn (hQ.isCells hJ6)).mono ?_
            rintro e w1 ⟨rfl, hw1⟩
            obtain ⟨cM, zM⟩ := hQ.watched_cell hJ6 hw1
            go_wp2_with fail
            obtain ⟨m, hQ1⟩ := hQ.watched hJ6 hw1
            clear cM zM hw1 hQ cP hcell y0
            generalize w1.setCell ⟨B + 20, J, none⟩ (.bool true) = W2 at hQ1 ⊢
            refine (check_B hQ1).mono ?_
            rintro e w3 ⟨rfl, q3, rfl⟩
            have hQ2 := hQ1.drewN q3
            clear hQ1
            generalize W2.drewN q3 = W3 at hQ2 ⊢
            go_wp2_with (go_at_call 7; refine (try_st hQ2.st).mono ?_; rintro e w4 ⟨rfl, hst4, hf4, _⟩)
            refine (unlock_st hst4).mono ?_
            rintro e w5 ⟨rfl, hst5, hf5, _⟩
            have hQ5 := hQ2.lock hst5 (hf4.trans hf5)
            clear hQ2 hst4 hf4 hst5 hf5
            go_wp2_with fail
            go_roundw
            case rel => exact ⟨k + 1, _, _, _, by omega, by go_num, hQ5⟩
            case measure => simp [intOf]; omega
          · have y0' : (bits BinOp.and IntKind.u8 (op k) 3 == 0) = false := by simpa using y0
            clear y0
            by_cases y1 : (bits BinOp.and IntKind.u8 (op k) 3 == 1) = true
            · go_wp2_with fail
              refine (unwatch_any B (B + 4 + 3 * J) mo _ _ _ f wr hQ.st hQ.wn (hQ.isCells hJ6)).mono ?_
              rintro e w1 ⟨rfl, hw1⟩
              obtain ⟨cM, zM⟩ := hQ.unwatched_cell hJ6 hw1
              go_wp2_with fail
              have hQ1 := hQ.unwatched hJ6 hw1
              clear cM zM hw1 hQ cP hcell
              generalize w1.setCell ⟨B + 20, J, none⟩ (.bool false) = W2 at hQ1 ⊢
              refine (check_B hQ1).mono ?_
              rintro e w3 ⟨rfl, q3, rfl⟩
              have hQ2 := hQ1.drewN q3
              clear hQ1
              generalize W2.drewN q3 = W3 at hQ2 ⊢
              go_wp2_with (go_at_call 7; refine (try_st hQ2.st).mono ?_; rintro e w4 ⟨rfl, hst4, hf4, _⟩)
              refine (unlock_st hst4).mono ?_
              rintro e w5 ⟨rfl, hst5, hf5, _⟩
              have hQ5 := hQ2.lock hst5 (hf4.trans hf5)
              clear hQ2 hst4 hf4 hst5 hf5
              go_wp2_with fail
              go_roundw
              case rel => exact ⟨k + 1, _, _, _, by omega, by go_num, hQ5⟩
              case measure => simp [intOf]; omega
            · have y1' : (bits BinOp.and IntKind.u8 (op k) 3 == 1) = false := by simpa using y1
              clear y1
              by_cases y2 : (bits BinOp.and IntKind.u8 (op k) 3 == 2) = true
              · go_wp2_with fail
                refine (unwatch_any B (B + 4 + 3 * J) mo _ _ _ f wr hQ.st hQ.wn (hQ.isCells hJ6)).mono ?_
                rintro e w1 ⟨rfl, hw1⟩
                obtain ⟨cM, zM⟩ := hQ.unwatched_cell hJ6 hw1
                go_wp2_with fail
                have hQ1 := hQ.unwatched hJ6 hw1
                clear cM zM hw1 hQ cP hcell
                generalize w1.setCell ⟨B + 20, J, none⟩ (.bool false) = W2 at hQ1 ⊢
                refine (check_B hQ1).mono ?_
                rintro e w3 ⟨rfl, q3, rfl⟩
                have hQ2 := hQ1.drewN q3
                clear hQ1
                generalize W2.drewN q3 = W3 at hQ2 ⊢
                go_wp2_with (go_at_call 7; refine (try_st hQ2.st).mono ?_; rintro e w4 ⟨rfl, hst4, hf4, _⟩)
                refine (unlock_st hst4).mono ?_
                rintro e w5 ⟨rfl, hst5, hf5, _⟩
                have hQ5 := hQ2.lock hst5 (hf4.trans hf5)
                clear hQ2 hst4 hf4 hst5 hf5
                go_wp2_with fail
                go_roundw
                case rel => exact ⟨k + 1, _, _, _, by omega, by go_num, hQ5⟩
                case measure => simp [intOf]; omega
              · have y2' : (bits BinOp.and IntKind.u8 (op k) 3 == 2) = false := by simpa using y2
                clear y2
                go_wp2_with fail
                refine (unwatch_any B (B + 21 + 2) mo _ _ _ f wr hQ.st hQ.wn (blk_isCells hQ.fresh.2.2)).mono ?_
                rintro e W2 ⟨rfl, hw1⟩
                have hQ1 := hQ.unfresh hw1
                clear hw1 hQ cP hcell
                go_wp2_with fail
                refine (check_B hQ1).mono ?_
                rintro e w3 ⟨rfl, q3, rfl⟩
                have hQ2 := hQ1.drewN q3
                clear hQ1
                generalize W2.drewN q3 = W3 at hQ2 ⊢
                go_wp2_with (go_at_call 7; refine (try_st hQ2.st).mono ?_; rintro e w4 ⟨rfl, hst4, hf4, _⟩)
                refine (unlock_st hst4).mono ?_
                rintro e w5 ⟨rfl, hst5, hf5, _⟩
                have hQ5 := hQ2.lock hst5 (hf4.trans hf5)
                clear hQ2 hst4 hf4 hst5 hf5
                go_wp2_with fail
                go_roundw
                case rel => exact ⟨k + 1, _, _, _, by omega, by go_num, hQ5⟩
                case measure => simp [intOf]; omega
        · go_wp2_with fail
          go_loop [17] (fun i => ∃ k : Nat, k ≤ 6 ∧ i = .int .i64 k) (fun i => 6 - (intOf i).toNat)
          case atStart => exact ⟨0, by omega, rfl⟩
          case round =>
            obtain ⟨j, hj, rfl⟩ := hrel
            by_cases hjl : j < 6
            · have cP := hQ.poolCell hjl
              have hpr := pristine_any (B + 4 + 3 * j) (B + 2 + 3 * j) (B + 2 + 3 * j + 1) wr (by have := (hQ.ws j hjl).2.2; rw [show B + 2 + 3 * j + 2 = B + 4 + 3 * j by omega] at this; exact this) (hQ.ws j hjl).1 (hQ.ws j hjl).2.1
              have HPR := hide_of hpr
              clear hpr
              go_wp2_with fail
              refine (HPR.out).mono ?_
              rintro e w1 ⟨rfl, rfl⟩
              go_wp2_with fail
              go_round
              case rel => exact ⟨j + 1, by omega, by go_num⟩
              case measure => simp [intOf]; omega
            · go_wp2_with fail
              refine (pristine_any (B + 21 + 2) (B + 21) (B + 21 + 1) wr hQ.fresh.2.2 hQ.fresh.1 hQ.fresh.2.1).mono ?_
              rintro e w1 ⟨rfl, rfl⟩
              have c0 : w1.cell? ⟨B, 0, none⟩ = some (.int .i64 mg) := cell_of_blk hQ.st rfl
              have c1 : w1.cell? ⟨B, 1, none⟩ = some (.string ho) := cell_of_blk hQ.st rfl
              have c4 : w1.cell? ⟨B, 4, none⟩ = some (.map none) := cell_of_blk hQ.st rfl
              have c5 : w1.cell? ⟨B, 5, none⟩ = some (.map none) := cell_of_blk hQ.st rfl
              have c6 : w1.cell? ⟨B, 6, none⟩ = some (.int .i64 en) := cell_of_blk hQ.st rfl
              have q67 : ∀ (w : World) (r : Option Nat), (binOp .eql 67 (.map r) (.map none)).run Yba.prog w = .ok (.bool r.isNone) w := fun w r => run_eql_map_nil w _ _ _ r Yba.underlying67
              have q68 : ∀ (w : World) (r : Option Nat), (binOp .eql 68 (.map r) (.map none)).run Yba.prog w = .ok (.bool r.isNone) w := fun w r => run_eql_map_nil w _ _ _ r Yba.underlying68
              go_wp2_with fail
              go_ret
              exact ⟨rfl, HB.out ▸ hQ.bel⟩
end Go.Proofs.Ybulkhczu
