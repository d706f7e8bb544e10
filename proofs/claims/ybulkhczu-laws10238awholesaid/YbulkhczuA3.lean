import Derived.Test.YbulkhczuA2
import Derived.Test.YbulkhczuA5
import Derived.BigRegion
import Derived.Deep.QuietTactic
import Derived.BigQuiet
import Derived.Deep.DeepCutAuto
import Derived.Laws.CopyOwn
namespace Go.Proofs.Ybulkhczu
open Go.RowKit
open Go.ChangeMaps (setBlock)

set_option maxRecDepth 100000 in
set_option maxHeartbeats 1600000 in
theorem lawA_walk (a0 a1 a2 : Option Addr) (n cap0 len1 cap1 len2 cap2 : Nat) (st : Nat → Bool) (pk pre : Nat → Int) (code : Nat → Int) (preW aw re : Int) (w : World)
    (h0 : n ≤ 65536) (h1 : len1 ≤ 1048576) (h2 : len2 ≤ 1048576) (r0 : Rds w a0 n (fun i => .bool (st i)))
    (r2 : Rds w a2 len2 (fun i => .int .u8 (pre i))) (hpre : ∀ i, 0 ≤ pre i ∧ pre i ≤ 255) (HC : Hid (∀ i, code i = if i < len2 then pre i % 3 else 0))
    (r1 : Rds w a1 len1 (fun i => .int .u16 (pk i))) (hpk : ∀ i, 0 ≤ pk i ∧ pk i ≤ 65535) (hpw0 : 0 ≤ preW) (hpw1 : preW ≤ 255) (idx : Nat → Nat) (HI : Hid (∀ i, 0 < n → (pk i % (n : Int)) = (idx i : Int) ∧ idx i < n)) :
    Calls Yba.prog 3 #[.slice a0 n cap0, .slice a1 len1 cap1, .slice a2 len2 cap2, .int .u8 preW, .int .i64 aw, .int .i64 re] w fun e w' => e = .returned (.bool true) ∧ Below w.heap.size w w' := by
  obtain ⟨i26, hi26, hz26, hs26, hb26⟩ := info_parts Yba.info26
  have mk25 := fun W => run_make_rowF (P := Yba.prog) (t := 25) Yba.underlying25 hi26 hz26 rfl hs26 n (by rw [hb26]; omega) (by omega) W
  obtain ⟨j30, hj30, hs30⟩ := info30
  obtain ⟨j63, hj63, hs63⟩ := info63
  obtain ⟨i4, hi4, hz4, hs4, hb4⟩ := info_parts Yba.info4
  obtain ⟨i3, hi3, hz3, hs3, hb3⟩ := info_parts Yba.info3
  go_enter Yba.func3, Yba.ntmps3
  go_wp2_with fail
  have hP0 := P1.start n st w
  clear mk25
  obtain ⟨B, hB⟩ : ∃ B, B = w.heap.size := ⟨_, rfl⟩
  rw [← hB] at hP0 ⊢
  generalize w.alloc (.cells (rowF n (fun _ => .pointer none)) 26) = W0 at hP0 ⊢
  have HB := hide_of hB
  clear hB
  go_loopw [15] (fun i wr => ∃ k : Nat, k ≤ n ∧ i = .int .i64 k ∧ P1 B n st k w wr) (fun i _ => n - (intOf i).toNat)
  case atStart => exact ⟨0, Nat.zero_le _, rfl, hP0⟩
  case round =>
    obtain ⟨k, hk, rfl, hP⟩ := hrel
    by_cases hlt : k < n
    · obtain ⟨b, o, ha, hc⟩ := (r0.below (HB.out ▸ hP.bel)) (by omega)
      subst ha
      have hcell := hc k hlt
      clear hc
      have crow : wr.cell? ⟨B, k, none⟩ = some (ssV B k k) := cell_of_blk hP.row (rowF_get hlt)
      have zrow := free_of_blk hP.row k
      have hBl : B < wr.heap.size := by have := hP.size; omega
      go_wp2
      go_roundw
      case rel => exact ⟨k + 1, by omega, by go_num, hP.step⟩
      case measure => simp [intOf]; omega
    · obtain rfl : n = k := by omega
      have hsz := hP.size
      go_wp2_with fail
      obtain ⟨L, eL⟩ : ∃ L, L = B + 2 + n := ⟨_, rfl⟩
      have EL := hide_of eL
      refine (new_at _ L (by simp [hsz]; omega)).mono ?_
      clear eL
      rintro e w2 ⟨rfl, hs2, hf2, hm2, hch2, hrw2⟩
      have c1 : w2.cell? ⟨L + 2, 1, none⟩ = some (.int .i64 0) := cell_of_blk hrw2 rfl
      have c2 : w2.cell? ⟨L + 2, 2, none⟩ = some (.int .i64 0) := cell_of_blk hrw2 rfl
      have z1 := free_of_blk hrw2 1
      have z2 := free_of_blk hrw2 2
      have mk64 := fun W => run_make_rowF (P := Yba.prog) (t := 64) Yba.underlying64 hi3 hz3 rfl hs3 n (by rw [hb3]; omega) (by omega) W
      go_wp2_with fail
      have hQ0 := P2.start (code := code) (aw := aw) (re := re) EL.out hP hs2 hf2 hm2 hch2 hrw2
      clear hsz hs2 hf2 hm2 hch2 hrw2 c1 c2 z1 z2 mk64 hP
      generalize ((w2.setCell ⟨L + 2, 1, none⟩ (.int .i64 aw)).setCell ⟨L + 2, 2, none⟩ (.int .i64 re)).alloc (.cells (rowF n (fun _ => .int .i64 0)) 3) = W1 at hQ0 ⊢
      go_loopw [19] (fun i wr => ∃ k : Nat, k ≤ n ∧ i = .int .i64 k ∧ P2 B L n st code aw re k k w wr) (fun i _ => n - (intOf i).toNat)
      case atStart => exact ⟨0, Nat.zero_le _, rfl, hQ0⟩
      case round =>
        obtain ⟨k, hk, rfl, hP⟩ := hrel
        by_cases hlt : k < n
        · by_cases hk2 : k < len2
          · obtain ⟨b, o, ha, hc⟩ := (r2.below (HB.out ▸ hP.bel)) (by omega)
            subst ha
            have hcell := hc k hk2
            clear hc
            obtain ⟨hp0, hp1⟩ := hpre k
            have crow : wr.cell? ⟨L + 3, k, none⟩ = some (codeV code k k) := cell_of_blk hP.codes (rowF_get hlt)
            have zrow := free_of_blk hP.codes k
            go_upto_if 101 with fail
            have hQ := hP.code
            rw [(HC.out k).trans (if_pos hk2)] at hQ
            clear crow zrow hcell hP
            generalize wr.setCell ⟨L + 3, k, none⟩ (.int .i64 (pre k % 3)) = W2 at hQ ⊢
            obtain ⟨f, hf, hg⟩ := hQ.left
            have cR : W2.cell? ⟨L + 2, 0, none⟩ = some (.map (some L)) := cell_of_blk hQ.rw rfl
            have cS : W2.cell? ⟨B, k, none⟩ = some (.pointer (some ⟨B + 1 + k, 0, none⟩)) := by
              rw [cell_of_blk hQ.row (rowF_get hlt)]; simp [ssV, hlt]
            have hIC : IsCells W2 (B + 1 + k) := blk_isCells (hQ.sess k hlt)
            rcases (show pre k % 3 = 0 ∨ pre k % 3 = 1 ∨ pre k % 3 = 2 by omega) with h3 | h3 | h3
            · have t1 : (pre k % 3 == 1) = false := by rw [h3]; rfl
              have t2 : (pre k % 3 == 2) = false := by rw [h3]; rfl
              have H3 := hide_of h3
              clear h3 cR cS hIC hf hg
              go_wp2
              go_roundw
              case rel => exact ⟨k + 1, by omega, by go_num, hQ.skip (by rw [(HC.out k).trans (if_pos hk2), H3.out]; rfl)⟩
              case measure => simp [intOf]; omega
            · obtain ⟨es, c, hu, hp, hc, hz⟩ := hf.upd Yba.underlying60 Yba.underlying26 hj30 hs30 hIC (.pointer none)
              have t1 : (pre k % 3 == 1) = true := by rw [h3]; rfl
              have H3 := hide_of h3
              have hud := hu W2.drew rfl
              have HP := hide_of (hp W2.drew rfl)
              clear h3 hu hp hc hz
              go_wp2
              go_region
              go_wp2
              go_roundw
              case rel => exact ⟨k + 1, by omega, by go_num, hQ.put (by rw [(HC.out k).trans (if_pos hk2), H3.out]; rfl) hf hg rfl rfl rfl rfl HP.out⟩
              case measure => simp [intOf]; omega
            · obtain ⟨es, c, hu, hp, hc, hz⟩ := hf.upd Yba.underlying60 Yba.underlying26 hj30 hs30 hIC (.pointer (some ⟨B + 1 + n, 0, none⟩))
              have t1 : (pre k % 3 == 1) = false := by rw [h3]; rfl
              have t2 : (pre k % 3 == 2) = true := by rw [h3]; rfl
              have H3 := hide_of h3
              have hud := hu W2.drew rfl
              have HP := hide_of (hp W2.drew rfl)
              clear h3 hu hp hc hz
              go_wp2
              go_region
              go_wp2
              go_roundw
              case rel => exact ⟨k + 1, by omega, by go_num, hQ.put (by rw [(HC.out k).trans (if_pos hk2), H3.out]; rfl) hf hg rfl rfl rfl rfl HP.out⟩
              case measure => simp [intOf]; omega
          · have crow : wr.cell? ⟨L + 3, k, none⟩ = some (codeV code k k) := cell_of_blk hP.codes (rowF_get hlt)
            have zrow := free_of_blk hP.codes k
            go_upto_if 101 with fail
            have hQ := hP.code
            rw [(HC.out k).trans (if_neg hk2)] at hQ
            clear crow zrow hP
            generalize wr.setCell ⟨L + 3, k, none⟩ (.int .i64 0) = W2 at hQ ⊢
            go_wp2
            go_roundw
            case rel => exact ⟨k + 1, by omega, by go_num, hQ.skip (by rw [(HC.out k).trans (if_neg hk2)]; rfl)⟩
            case measure => simp [intOf]; omega
        · obtain rfl : n = k := by omega
          have mkA := fun W => run_make_room (P := Yba.prog) (t := 25) Yba.underlying25 hi26 hz26 rfl hs26 len1 (by rw [hb26]; omega) (by omega) W
          have mkP := fun W => run_make_rowF (P := Yba.prog) (t := 22) Yba.underlying22 hi4 hz4 rfl hs4 n (by rw [hb4]; omega) (by omega) W
          have hsz := hP.size
          go_upto_if 127 with fail
          have hT0 := P3.start (idx := idx) h1 hP
          clear mkA mkP hsz hP
          generalize (wr.alloc (.cells (rowF len1 (fun _ => .pointer none)) 26)).alloc (.cells (rowF n (fun _ => .bool false)) 4) = W3 at hT0 ⊢
          go_cut [21] from 126 to 148 (fun v w' => CutA B L n st code aw re idx len1 w v w')
          case first =>
            by_cases hn : 0 < n
            · go_wp2_with fail
              go_loopw [21, 130] (fun v i wr => ∃ k : Nat, k ≤ len1 ∧ i = .int .i64 k ∧ v = .slice (some ⟨L + 4, 0, none⟩) k len1 ∧ P3 B L n st code aw re idx len1 k w wr) (fun _ i _ => len1 - (intOf i).toNat)
              case atStart => exact ⟨0, Nat.zero_le _, rfl, rfl, hT0⟩
              case round =>
                obtain ⟨k, hk, rfl, rfl, hP⟩ := hrel
                by_cases hlt : k < len1
                · obtain ⟨b, o, ha, hc⟩ := (r1.below (HB.out ▸ hP.bel)) (by omega)
                  subst ha
                  have hcell := hc k hlt
                  clear hc
                  obtain ⟨hp0, hp1⟩ := hpk k
                  obtain ⟨hJ, hJn⟩ := HI.out k hn
                  have cS : wr.cell? ⟨B, idx k, none⟩ = some (.pointer (some ⟨B + 1 + idx k, 0, none⟩)) := by
                    rw [cell_of_blk hP.row (rowF_get hJn)]; simp [ssV, hJn]
                  go_wp2_with (at_builtin; refine wpList_append_fits _ rfl (.tmp 138) (.tmp 143) 25 rfl (L + 4) 26 i26 1 Yba.underlying25 hi26 hs26 (L + 4) k len1 (argL B idx k) rfl (hP.arg.alloc _) ⟨wr.heap.size, 0, none⟩ 1 1 [.pointer (some ⟨B + 1 + idx k, 0, none⟩)] rfl rfl (cell_one_new _ _ _) (one_ptr _) (by omega) ?_; intro w1 hown1 hg1; obtain ⟨cP, zP⟩ := hP.pick_cell hg1 hJn)
                  go_roundw
                  case rel => exact ⟨_, _, _, _, ⟨k + 1, by omega, by go_num, rfl, hP.step hown1 hg1⟩, rfl, rfl, rfl, rfl⟩
                  case measure => simp [intOf]; omega
                · obtain rfl : k = len1 := by omega
                  go_wp2_with fail
                  go_meet
                  case rel => exact ⟨k, Nat.le_refl _, fun j _ => (HI.out j hn).2, rfl, hP⟩
            · go_wp2_with fail
              go_meet
              case rel => exact ⟨0, Nat.zero_le _, fun j hj => absurd hj (Nat.not_lt_zero _), rfl, hT0⟩
          case rest =>
            obtain ⟨Ln, hLn, hidx, rfl, hP⟩ := hcut
            have hB4 := hP.base
            obtain ⟨f1, hf1, hg1⟩ := hP.left
            obtain ⟨H, hH⟩ : ∃ H, H = wc.heap.size := ⟨_, rfl⟩
            have HH := hide_of hH
            have hHL : L + 6 ≤ H := by rw [hH]; exact hP.size
            have mkC : (Instr.makeSlice 25 (.int .i64 Ln) (.int .i64 Ln)).run Yba.prog wc = .ok (.slice (some ⟨H, 0, none⟩) Ln Ln) (wc.alloc (.cells (rowF Ln (fun _ => .pointer none)) 26)) := by
              rw [hH]; exact run_make_rowF (P := Yba.prog) (t := 25) Yba.underlying25 hi26 hz26 rfl hs26 Ln (by rw [hb26]; omega) (by omega) wc
            have hcur : Hid ((wc.alloc (.cells (rowF Ln (fun _ => .pointer none)) 26)).heap[H]? = some (.cells (rowF Ln (fun _ => .pointer none)).toList.toArray 26 (0, 0))) := by
              rw [hH]; exact blk_new wc _
            have hbA : Below H wc (wc.alloc (.cells (rowF Ln (fun _ => .pointer none)) 26)) := by
              rw [hH]; exact (Below.refl _ _).alloc (Nat.le_refl _) _
            have hpos := copy_src hB4 (hH ▸ hbA) H
            have hlen : (argL B idx Ln).length = Nat.min Ln Ln := by simp [argL]
            have hfit : 0 + (argL B idx Ln).length ≤ (rowF Ln (fun _ => Value.pointer none)).toList.length := by simp [argL, rowF]
            have HPOS := hide_of hpos
            have HLEN := hide_of hlen
            clear hH hpos hlen hP hHL
            go_wp2_with (have _t := hcur; refine wpList_copy_splice rfl (.tmp 152) (.tmp 153) 25 25 rfl 26 Yba.underlying25 (by kernel_rfl) _ _ _ _ _ _ rfl rfl H 0 (rowF Ln (fun _ => .pointer none)).toList 26 hcur.out (argL B idx Ln) HLEN.out HPOS.out hfit (one_args B idx Ln) H wc hbA (Nat.le_refl _) ?_; intro w5 HG5 hB5; clear hcur)
            obtain ⟨N, hN⟩ : ∃ N, N = w5.heap.size := ⟨_, rfl⟩
            refine (new_at w5 N hN.symm).mono ?_
            rintro e w6 ⟨rfl, hs6, hf6, hm6, hch6, hrw6⟩
            have HN := hide_of hN
            clear hN mkC hbA hfit HLEN HPOS
            go_upto_if 161 with fail
            obtain ⟨h40, hf40⟩ := P4.start hB4 HH.out hB5 HG5.out HN.out hs6 hf6 hm6 hch6 hrw6
            have hf1' := hf1.fr hf40 (by simp)
            have hs7 : (w6.alloc (.cells (stCells (.int .i64 3) (.string ⟨#[104]⟩) 0 (.int .i64 0) none) 71)).heap.size = N + 4 := by simp [hs6]
            clear hB4 hB5 HG5 hs6 hf6 hm6 hch6 hrw6 hf40 hf1
            change Code.wp _ _ _ _ (w6.alloc (.cells (stCells (.int .i64 3) (.string ⟨#[104]⟩) 0 (.int .i64 0) none) 71))
            generalize w6.alloc (.cells (stCells (.int .i64 3) (.string ⟨#[104]⟩) 0 (.int .i64 0) none) 71) = W7 at h40 hf1' hs7 ⊢
            go_cut [] from 160 to 173 (fun w' => CutS B L n st code aw re idx len1 Ln H N f1 (preW % 3) w w')
            case first =>
              have c7 : W7.cell? ⟨N + 3, 7, none⟩ = some (.map none) := (st_cell h40.sto).2.1
              have z7 := (st_cell h40.sto).2.2.2
              have hlt7 : N + 3 < W7.heap.size := by omega
              have hmm := @run_makeMap Yba.prog
              rcases (show preW % 3 = 0 ∨ preW % 3 = 1 ∨ preW % 3 = 2 by omega) with h3 | h3 | h3
              · have t1 : (preW % 3 == 1) = false := by rw [h3]; rfl
                have t2 : (preW % 3 == 2) = false := by rw [h3]; rfl
                have H3 : preW % 3 ≠ 2 := by omega
                clear h3
                go_wp2_with fail
                go_meet
                case rel => exact cutS_none h40 hf1' H3
              · have t1 : (preW % 3 == 1) = true := by rw [h3]; rfl
                have H3 : preW % 3 ≠ 2 := by omega
                clear h3
                go_wp2_with fail
                go_meet
                case rel => exact cutS_one h40 hf1' H3 hs7
              · have t1 : (preW % 3 == 1) = false := by rw [h3]; rfl
                have t2 : (preW % 3 == 2) = true := by rw [h3]; rfl
                have H3 := hide_of h3
                clear h3
                have hm0 : PMap (W7.alloc (.map #[] 0)) (N + 4) [] := by have := pmap_new W7; rw [hs7] at this; exact this
                have hicO : IsCells (W7.alloc (.map #[] 0)) (N + 2) := isCells_push (blk_isCells h40.orw)
                obtain ⟨es, c, hu, hp, hc, hz⟩ := hm0.upd Yba.underlying69 Yba.underlying58 hj63 hs63 hicO (.bool true)
                have hud := hu _ rfl
                have HP := hide_of (hp _ rfl)
                have c7' : (setBlock (W7.alloc (.map #[] 0)) (N + 4) (.map es c)).cell? ⟨N + 3, 7, none⟩ = some (.map none) := by
                  rw [hc _ rfl]; exact (World.cell?_of_block (w := W7) (Below.heap_alloc W7 _ _ hlt7)).trans c7
                have z7' : (setBlock (W7.alloc (.map #[] 0)) (N + 4) (.map es c)).frozen? ⟨N + 3, 7, none⟩ = false := by
                  rw [hz _ rfl]; exact (World.frozen?_of_block (w := W7) (Below.heap_alloc W7 _ _ hlt7)).trans z7
                clear hu hp hc hz
                go_wp2_with fail
                go_meet
                case rel => exact cutS_two h40 hf1' H3.out hs7 HP.out
            case rest =>
              obtain ⟨mo, f0, h4, hf4, hwm, hmo, hf0⟩ := hcut
              clear h40 hf1' hs7
              have HF0 := hide_of hf0
              clear hf0
              go_wp2_with fail
              refine (watch_A h4 hf4 hwm hmo hidx (by omega)).mono ?_
              rintro e w8 ⟨rfl, m, h8, hm8, hl8⟩
              clear h4 hf4 hwm hmo
              have hg8 := hide_of (gm_left (st := st) (idx := idx) hg1 Ln hidx)
              have hnq := neq_ptr26
              clear hg1
              go_wp2_with fail
              go_loopw [30] (fun i wr => ∃ k q : Nat, k ≤ Ln ∧ i = .int .i64 k ∧ wr = w8.drewN q) (fun i _ => Ln - (intOf i).toNat)
              case atStart => exact ⟨0, 0, Nat.zero_le _, rfl, rfl⟩
              case round =>
                obtain ⟨k, q, hk, rfl, rfl⟩ := hrel
                by_cases hlt : k < Ln
                · skip
                  have c4 := h8.pb.argCell hlt
                  have cH : w8.cell? ⟨H, k, none⟩ = some (.pointer (some ⟨B + 1 + idx k, 0, none⟩)) := cell_of_blk h8.copy (by simpa using argL_get B idx Ln hlt)
                  go_wp2
                  go_region
                  go_wp2
                  go_roundw
                  case rel => exact ⟨k + 1, _, by omega, by go_num, rfl⟩
                  case measure => simp [intOf]; omega
                · have h9 := h8.drewN q
                  have hm9 := hm8.fr ((Fr.refl [] w8).drewN q) (by simp)
                  have hl9 := hl8.fr ((Fr.refl [] w8).drewN q) (by simp)
                  clear h8 hm8 hl8
                  generalize w8.drewN q = W9 at h9 hm9 hl9 ⊢
                  obtain ⟨c2, c7, z2, z7⟩ := st_cell h9.sto
                  clear c2 z2 z7
                  have hq : ∀ (w : World) (r : Option Nat), (binOp .eql 69 (.map r) (.map none)).run Yba.prog w = .ok (.bool r.isNone) w := fun w r => run_eql_map_nil w _ _ _ r Yba.underlying69
                  have hlk := hm9.look Yba.underlying69 Yba.underlying58 hj63 hs63 (blk_isCells h9.pb.rw) Yba.zeroValue4 W9 rfl
                  rw [look_upd, if_pos rfl] at hlk
                  simp only [Option.getD_some] at hlk
                  go_upto_if 213 with fail
                  clear hlk hq
                  go_cut [] from 214 to 234 (fun w' => w' = W9)
                  case first =>
                    have hHN : L + 6 < N := by have := h9.hH; have := h9.hN; omega
                    have hwl := watches_len (sel := preW % 3) hHN HF0.out
                    have hln := hm9.len Yba.underlying69 3 W9 rfl
                    have hlo := hm9.look Yba.underlying69 Yba.underlying58 hj63 hs63 (blk_isCells h9.orw) Yba.zeroValue4 W9 rfl
                    by_cases h2 : preW % 3 = 2
                    · obtain ⟨e1, e2⟩ := hwl.1 h2
                      rw [e1] at hln
                      rw [e2] at hlo
                      simp only [Option.getD_some] at hlo
                      have t2 : (preW % 3 == 2) = true := by rw [h2]; rfl
                      clear h2 hwl e1 e2 hm9
                      go_wp2_with fail
                      go_meet
                      case rel => rfl
                    · have e1 := hwl.2 h2
                      rw [e1] at hln
                      have t2 : (preW % 3 == 2) = false := by rw [beq_eq_false_iff_ne]; exact h2
                      clear h2 hwl e1 hm9 hlo
                      go_wp2_with fail
                      go_meet
                      case rel => rfl
                  case rest =>
                    rw [hcut]
                    clear hcut c7
                    go_wp2_with (go_at_call 7; refine (try_st h9.sto).mono ?_; rintro e w10 ⟨rfl, hst10, hf10, _⟩)
                    refine (unlock_st hst10).mono ?_
                    rintro e w11 ⟨rfl, hst11, hf11, _⟩
                    have h11 : P4 B L n st code aw re idx len1 Ln H N (some m) 0 w w11 := h9.fr (hf10.trans hf11) (by simp) hst11
                    have hl11 := hl9.fr (hf10.trans hf11) (by have := h9.hH; have := h9.hN; simp; omega)
                    clear h9 hm9 hl9 hst10 hf10 hst11 hf11
                    have c0 : w11.cell? ⟨N + 3, 0, none⟩ = some (.int .i64 3) := cell_of_blk h11.sto rfl
                    have c1 : w11.cell? ⟨N + 3, 1, none⟩ = some (.string ⟨#[104]⟩) := cell_of_blk h11.sto rfl
                    have c4 : w11.cell? ⟨N + 3, 4, none⟩ = some (.map none) := cell_of_blk h11.sto rfl
                    have c5 : w11.cell? ⟨N + 3, 5, none⟩ = some (.map none) := cell_of_blk h11.sto rfl
                    have c6 : w11.cell? ⟨N + 3, 6, none⟩ = some (.int .i64 0) := cell_of_blk h11.sto rfl
                    have q67 : ∀ (w : World) (r : Option Nat), (binOp .neq 67 (.map r) (.map none)).run Yba.prog w = .ok (.bool (!r.isNone)) w := fun w r => run_neq_map_nil w _ _ _ r Yba.underlying67
                    have q68 : ∀ (w : World) (r : Option Nat), (binOp .neq 68 (.map r) (.map none)).run Yba.prog w = .ok (.bool (!r.isNone)) w := fun w r => run_neq_map_nil w _ _ _ r Yba.underlying68
                    go_wp2_with fail
                    clear c0 c1 c4 c5 c6 q67 q68
                    go_loopw [31, 32] (fun c i wr => ∃ k q : Nat, k ≤ n ∧ i = .int .i64 k ∧ c = .int .i64 (cnt st code idx Ln k) ∧ wr = w11.drewN q) (fun _ i _ => n - (intOf i).toNat)
                    case atStart => exact ⟨0, 0, Nat.zero_le _, rfl, rfl, rfl⟩
                    case round =>
                      obtain ⟨k, q, hk, rfl, rfl, rfl⟩ := hrel
                      by_cases hlt : k < n
                      · obtain ⟨b, o, ha, hc⟩ := (r0.below (HB.out ▸ h11.pb.bel)) (by omega)
                        subst ha
                        have cSt := hc k hlt
                        have cPk : w11.cell? ⟨L + 4 + 1, k, none⟩ = some (.bool (pickedB idx Ln k)) := cell_of_blk h11.pb.picked (rowF_get hlt)
                        have cCd : w11.cell? ⟨L + 3, k, none⟩ = some (.int .i64 (code k)) := by
                          rw [cell_of_blk h11.pb.codes (rowF_get hlt)]; simp [codeV, hlt]
                        have cR : w11.cell? ⟨L + 2, 0, none⟩ = some (.map (some L)) := cell_of_blk h11.pb.rw rfl
                        have cS : w11.cell? ⟨B, k, none⟩ = some (.pointer (some ⟨B + 1 + k, 0, none⟩)) := by
                          rw [cell_of_blk h11.pb.row (rowF_get hlt)]; simp [ssV, hlt]
                        have c8 : w11.cell? ⟨B + 1 + k, 8, none⟩ = some (.bool (st k)) := cell_of_blk (h11.pb.sess k hlt) rfl
                        have c7 : w11.cell? ⟨B + 1 + k, 7, none⟩ = some (.bool false) := cell_of_blk (h11.pb.sess k hlt) rfl
                        have c6 : w11.cell? ⟨B + 1 + k, 6, none⟩ = some (.slice none 0 0) := cell_of_blk (h11.pb.sess k hlt) rfl
                        have hlook := hl11.look_ok Yba.underlying60 Yba.underlying26 hj30 hs30 (blk_isCells (h11.pb.sess k hlt)) Yba.zeroValue27 (w11.drewN (q + 1)) rfl
                        rw [hg8.out.2, (GF_val B n st code idx Ln hlt).1, (GF_val B n st code idx Ln hlt).2] at hlook
                        have hcn := cnt_le st code idx Ln k
                        clear hc
                        go_upto_region 70 with fail
                        go_cut [291] from 282 to 291 (fun v w' => v = .bool (pickedB idx Ln k && st k) ∧ w' = w11.drewN q)
                        case first =>
                          by_cases hpk : pickedB idx Ln k = true
                          · go_wp2_with fail
                            go_meet
                            case rel => exact ⟨by rw [hpk]; rfl, rfl⟩
                          · have hpk' : pickedB idx Ln k = false := by simpa using hpk
                            go_wp2_with fail
                            go_meet
                            case rel => exact ⟨by rw [hpk']; rfl, rfl⟩
                        case rest =>
                          obtain ⟨rfl, hw⟩ := hcut
                          rw [hw]
                          clear hw
                          go_upto_if 291 with fail
                          go_cut [33, 34] from 282 to 302 (fun x y w' => x = .bool (okB st code idx Ln k) ∧ y = .pointer (expP B n st code idx Ln k) ∧ w' = w11.drewN q)
                          case first =>
                            go_wp2_with fail
                            · have hA : pickedB idx Ln k = true ∧ st k = true := by assumption
                              go_meet
                              case rel => exact ⟨by rw [(exA (B := B) (n := n) hA).1], by rw [(exA (B := B) (n := n) hA).2], rfl⟩
                            · have hA : pickedB idx Ln k = false ∨ st k = false := by assumption
                              have t1 : (code k == 1) = true := by assumption
                              go_meet
                              case rel => exact ⟨by rw [(exB (B := B) (n := n) hA t1).1], by rw [(exB (B := B) (n := n) hA t1).2], rfl⟩
                            · have hA : pickedB idx Ln k = false ∨ st k = false := by assumption
                              have t2 : (code k == 2) = true := by assumption
                              go_meet
                              case rel => exact ⟨by rw [(exC (B := B) (n := n) hA t2).1], by rw [(exC (B := B) (n := n) hA t2).2], rfl⟩
                            · have hA : pickedB idx Ln k = false ∨ st k = false := by assumption
                              have t1 : (code k == 1) = false := by assumption
                              have t2 : (code k == 2) = false := by assumption
                              go_meet
                              case rel => exact ⟨by rw [(exD (B := B) (n := n) hA t1 t2).1], by rw [(exD (B := B) (n := n) hA t1 t2).2], rfl⟩
                          case rest =>
                            obtain ⟨rfl, rfl, hw⟩ := hcut
                            rw [hw]
                            clear hw
                            have hnp := neq_ptr27
                            go_wp2_with fail
                            go_region
                            go_upto_if 323 with fail
                            go_cut [31] from 323 to 325 (fun x w' => x = .int .i64 (cnt st code idx Ln (k + 1)) ∧ w' = w11.drewN (q + 1))
                            case first =>
                              go_wp2_with fail
                              · have hok : okB st code idx Ln k = true := by assumption
                                go_meet
                                case rel => exact ⟨by rw [cnt_succ, if_pos hok]; go_num, rfl⟩
                              · have hok : okB st code idx Ln k = false := by assumption
                                go_meet
                                case rel => exact ⟨by rw [cnt_succ, if_neg (by rw [hok]; simp)]; go_num, rfl⟩
                            case rest =>
                              obtain ⟨rfl, hw⟩ := hcut
                              rw [hw]
                              clear hw hlook
                              have hsn := fun (W : World) (a : Option Addr) (l c : Nat) => run_neq_slice_nil_any (P := Yba.prog) W 28 116 a l c 0 0 Yba.underlying28
                              go_wp2_with fail
                              go_quiet (fail)
                              go_wp2
                              go_roundw
                              case rel => exact ⟨k + 1, _, by omega, by go_num, rfl, rfl⟩
                              case measure => simp [intOf]; omega
                      · obtain rfl : n = k := by omega
                        have h12 := h11.drewN q
                        have hl12 := hl11.fr ((Fr.refl [] w11).drewN q) (by simp)
                        clear h11 hl11
                        generalize w11.drewN q = W12 at h12 hl12 ⊢
                        have hll := hl12.len Yba.underlying60 3 W12 rfl
                        rw [show _ = cnt st code idx Ln n from len_left hg8.out] at hll
                        have hol := h12.oleft.len Yba.underlying60 3 W12 rfl
                        have hcn := cnt_le st code idx Ln n
                        have cR0 : W12.cell? ⟨L + 2, 0, none⟩ = some (.map (some L)) := cell_of_blk h12.pb.rw rfl
                        have cR1 : W12.cell? ⟨L + 2, 1, none⟩ = some (.int .i64 aw) := cell_of_blk h12.pb.rw rfl
                        have cR2 : W12.cell? ⟨L + 2, 2, none⟩ = some (.int .i64 re) := cell_of_blk h12.pb.rw rfl
                        have cR3 : W12.cell? ⟨L + 2, 3, none⟩ = some (.slice none 0 0) := cell_of_blk h12.pb.rw rfl
                        have cR4 : W12.cell? ⟨L + 2, 4, none⟩ = some (.int .i64 0) := cell_of_blk h12.pb.rw rfl
                        have cR5 : W12.cell? ⟨L + 2, 5, none⟩ = some (.chan (some (L + 1))) := cell_of_blk h12.pb.rw rfl
                        have cO0 : W12.cell? ⟨N + 2, 0, none⟩ = some (.map (some N)) := cell_of_blk h12.orw rfl
                        have cO1 : W12.cell? ⟨N + 2, 1, none⟩ = some (.int .i64 0) := cell_of_blk h12.orw rfl
                        have cP : W12.cell? ⟨B + 1 + n, 3, none⟩ = some (.string ⟨#[112]⟩) := cell_of_blk h12.pb.peer rfl
                        have hch := len_chan h12.pb.chan
                        have hs61 := fun (W : World) (a : Option Addr) (l c : Nat) => run_neq_slice_nil_any (P := Yba.prog) W 61 9 a l c 0 0 Yba.underlying61
                        go_wp2_with fail
                        go_ret
                        exact ⟨rfl, HB.out ▸ h12.pb.bel⟩
end Go.Proofs.Ybulkhczu
