import Derived.Test.YbulkhdaiCp
import Derived.Deep.RegionWith
import Derived.Deep.DeepCutAuto
namespace Go.Proofs.Ybulkhdai
open Go.RowKit

/-- What is known of each response that came in. -/
def Okay (w : World) (n : Nat) (D : Nat → Rsp) (T : Nat → Nat → Nat → ByteArray) : Prop :=
  ∀ i, i < n → RdT w (D i).ta (D i).tl (T i) ∧ ((D i).ta = none → (D i).tl = 0 ∧ (D i).tc = 0) ∧ (D i).tl * 48 ≤ 140737488351232

/-- All that stands when the model is made and its lock tried. -/
structure P2 (n : Nat) (D : Nat → Rsp) (T : Nat → Nat → Nat → ByteArray) (X m : Nat) (E : Nat → Rsp) (K : Nat → Nat) (a' : Option Addr) (cap' : Nat) (w w2 : World) : Prop where
  cp : Cp n D T X n E w2
  mblk : w2.heap[m]? = some (.cells #[.int .i32 0, .int .u32 0, .slice a' n cap', .slice none 0 0] 45 (0, 0))
  rd : Rd3 w2 a' n (stepT K)
  kb : ∀ i, i < n → w2.heap[K i]? = some (.cells (rcells (D i)) 27 (0, 0))
  fr : Fr [] w w2

theorem P2.go {n : Nat} {D : Nat → Rsp} {T : Nat → Nat → Nat → ByteArray} {X m : Nat} {E : Nat → Rsp} {K : Nat → Nat} {a' : Option Addr} {cap' : Nat} {w w2 w3 : World} (h : P2 n D T X m E K a' cap' w w2) (f : Fr [] w2 w3) : P2 n D T X m E K a' cap' w w3 :=
  ⟨h.cp.fr f, f.block h.mblk (by simp), h.rd.fr f (by simp), fun i hi => f.block (h.kb i hi) (by simp), h.fr.trans f⟩

theorem P2.start {n : Nat} {D : Nat → Rsp} {T : Nat → Nat → Nat → ByteArray} {X m : Nat} {E : Nat → Rsp} {K : Nat → Nat} {a' : Option Addr} {cap' : Nat} {w w1 w2 : World} (hc : Cp n D T X n E w1) (hf : Fr [] w w1)
    (b : w2.heap[m]? = some (.cells #[.int .i32 0, .int .u32 0, .slice a' n cap', .slice none 0 0] 45 (0, 0))) (r : Rd3 w2 a' n (stepT K)) (hab : ∀ b o, a' = some ⟨b, o, none⟩ → 0 < n → b ≠ m) (f : Fr [] w1 w2) (hm : w1.heap.size ≤ m) (hk : ∀ i, i < n → w2.heap[K i]? = some (.cells (rcells (D i)) 27 (0, 0))) :
    P2 n D T X m E K a' cap' w ((w2.setCell ⟨m, 0, none⟩ (.int .i32 1)).setCell ⟨m, 0, none⟩ (.int .i32 0)) := by
  have f2 : Fr [m] w2 ((w2.setCell ⟨m, 0, none⟩ (.int .i32 1)).setCell ⟨m, 0, none⟩ (.int .i32 0)) := ((Fr.refl _ _).setCell (by simp) _).setCell (by simp) _
  have f3 : Fr [] w1 ((w2.setCell ⟨m, 0, none⟩ (.int .i32 1)).setCell ⟨m, 0, none⟩ (.int .i32 0)) := ((f.mono (by simp)).trans f2).less (by simp; exact hm)
  refine ⟨hc.fr f3, by rw [blk_setCell (blk_setCell b _) _]; rfl, ?_, fun i hi => ?_, hf.trans f3⟩
  · intro h0
    obtain ⟨b, o, ha, hcc⟩ := r h0
    exact ⟨b, o, ha, fun j hj c hc => f2.cell (hcc j hj c hc) (by simpa using hab b o ha h0)⟩
  · refine f2.block (hk i hi) ?_
    have h1 := hk i hi
    intro hx
    simp at hx
    rw [hx, b] at h1
    simp at h1

set_option maxRecDepth 100000 in
set_option maxHeartbeats 3200000 in
theorem law_walk (a : Option Addr) (n cap : Nat) (D : Nat → Rsp) (T : Nat → Nat → Nat → ByteArray) (w : World) (hn : n ≤ 65536) (h : RdR w a n D) (ok : Okay w n D T) :
    Calls Yba.prog 3 #[.slice a n cap] w fun e w' => e = .returned (.bool true) ∧ Below w.heap.size w w' := by
  have mk := make22 n hn
  go_enter Yba.func3, Yba.ntmps3
  go_wp2_with fail
  obtain ⟨X, hX⟩ : ∃ X, X = w.heap.size := ⟨_, rfl⟩
  have hC0 : Cp n D T X 0 (fun _ => Rsp.zero) (w.alloc (.cells (rowF (n * 7) (cpV (fun _ => Rsp.zero) 0)) 27)) :=
    ⟨by rw [hX]; exact blk_new _ _, fun i hi => absurd hi (by omega)⟩
  have hF0 : Fr [] w (w.alloc (.cells (rowF (n * 7) (cpV (fun _ => Rsp.zero) 0)) 27)) := (Fr.refl _ _).alloc _
  rw [← hX]
  generalize w.alloc (.cells (rowF (n * 7) (cpV (fun _ => Rsp.zero) 0)) 27) = W0 at hC0 hF0 ⊢
  have HX := hide_of hX
  clear hX mk
  go_loopw [4] (fun i wr => ∃ (k : Nat) (E : Nat → Rsp), k ≤ n ∧ i = .int .i64 k ∧ Cp n D T X k E wr ∧ Fr [] w wr) (fun i _ => n - (intOf i).toNat)
  case atStart => exact ⟨0, _, Nat.zero_le _, rfl, hC0, hF0⟩
  case round =>
    obtain ⟨k, E, hk, rfl, hC, hF⟩ := hrel
    by_cases hlt : k < n
    · obtain ⟨b, o, rfl, hc⟩ := h (by omega)
      obtain ⟨k0, k1, k2, k3, k4, k5, k6⟩ := (hc k hlt).fr hF (by simp)
      obtain ⟨o1, o2, o3⟩ := ok k hlt
      have s0 : wr.cell? ⟨X, k * 7, none⟩ = some (cpV E k (k * 7)) := cell_of_blk hC.row (rowF_get (by omega))
      have s1 : wr.cell? ⟨X, k * 7 + 1, none⟩ = some (cpV E k (k * 7 + 1)) := cell_of_blk hC.row (rowF_get (by omega))
      have s2 : wr.cell? ⟨X, k * 7 + 2, none⟩ = some (cpV E k (k * 7 + 2)) := cell_of_blk hC.row (rowF_get (by omega))
      have s3 : wr.cell? ⟨X, k * 7 + 3, none⟩ = some (cpV E k (k * 7 + 3)) := cell_of_blk hC.row (rowF_get (by omega))
      have s4 : wr.cell? ⟨X, k * 7 + 4, none⟩ = some (cpV E k (k * 7 + 4)) := cell_of_blk hC.row (rowF_get (by omega))
      have s5 : wr.cell? ⟨X, k * 7 + 5, none⟩ = some (cpV E k (k * 7 + 5)) := cell_of_blk hC.row (rowF_get (by omega))
      have s6 : wr.cell? ⟨X, k * 7 + 6, none⟩ = some (cpV E k (k * 7 + 6)) := cell_of_blk hC.row (rowF_get (by omega))
      have z0 := free_of_blk hC.row (k * 7)
      have z1 := free_of_blk hC.row (k * 7 + 1)
      have z2 := free_of_blk hC.row (k * 7 + 2)
      have z3 := free_of_blk hC.row (k * 7 + 3)
      have z4 := free_of_blk hC.row (k * 7 + 4)
      have z5 := free_of_blk hC.row (k * 7 + 5)
      have z6 := free_of_blk hC.row (k * 7 + 6)
      have hbX : b ≠ X := by
        have h1 := cell_lt (hc k hlt).1
        have h2 := HX.out
        simp only at h1
        omega
      have O2 := hide_of o2
      have O3 := hide_of o3
      clear o2 o3
      go_wp2_with fail
      have fp := put7_fr wr X k (D k)
      have fw : Fr [] w (put7 wr X k (D k)) := ((hF.mono (by simp)).trans fp).less (by simp; exact Nat.le_of_eq HX.out.symm)
      refine (clone4_any (D k).ta (D k).tl (D k).tc (T k) (put7 wr X k (D k)) O2.out O3.out (o1.fr fw)).mono ?_
      rintro e w1 ⟨a', c', rfl, hr1, hf1, hfr1⟩
      obtain ⟨c7, hb7, hs7⟩ := put7_blk (k := k) (D k) hC.row
      have hb8 := hf1.block hb7 (by simp)
      have q2 : w1.cell? ⟨X, k * 7 + 2, none⟩ = some c7[k * 7 + 2]! := cell_of_blk hb8 (by
        have : k * 7 + 2 < c7.size := by rw [hs7]; simp [rowF]; omega
        simp [this])
      have y2 := free_of_blk hb8 (k * 7 + 2)
      obtain ⟨hC1, hF1⟩ := hC.step (c' := c') hf1 hr1 hfr1
      clear s0 s1 s2 s3 s4 s5 s6 z0 z1 z2 z3 z4 z5 z6 k0 k1 k2 k3 k4 k5 k6 hb7 hfr1 hr1 hb8
      go_wp2_with fail
      go_roundw
      case rel => exact ⟨k + 1, _, by omega, by go_num, hC1, ((hF.mono (by simp)).trans hF1).less (by simp; exact Nat.le_of_eq HX.out.symm)⟩
      case measure => simp [intOf]; omega
    · obtain rfl : n = k := by omega
      clear hC0 hF0
      go_wp2_with fail
      refine (model_any a n cap D wr hn (h.fr hF)).mono ?_
      rintro e w2 ⟨m, K, rfl, ⟨a', cap', hb2, hr2, hab, hf2, hm⟩, hK⟩
      have m0 : w2.cell? ⟨m, 0, none⟩ = some (.int .i32 0) := cell_of_blk hb2 rfl
      have m2 : w2.cell? ⟨m, 2, none⟩ = some (.slice a' n cap') := cell_of_blk hb2 rfl
      have m3 : w2.cell? ⟨m, 3, none⟩ = some (.slice none 0 0) := cell_of_blk hb2 rfl
      have mz := free_of_blk hb2 0
      have hml : m < w2.heap.size := lt_of_block hb2
      have hP := P2.start hC hF hb2 hr2 hab hf2 hm hK
      have H2 := hide_of hb2
      clear hb2 hr2 hab hf2 hm hK hC hF
      go_wp2_with fail
      refine (try_free ⟨m, 0, none⟩ w2 m0 mz).mono ?_
      rintro e w3 ⟨rfl, rfl⟩
      have n0 : (w2.setCell ⟨m, 0, none⟩ (.int .i32 1)).cell? ⟨m, 0, none⟩ = some (.int .i32 1) := cell_of_blk (blk_setCell H2.out _) rfl
      have nz := free_of_blk (blk_setCell (i := 0) H2.out (.int .i32 1)) 0
      go_wp2_with fail
      refine (unlock_held ⟨m, 0, none⟩ _ n0 nz).mono ?_
      rintro e w4 ⟨rfl, rfl⟩
      clear n0 nz m0 m2 m3 mz H2 hml
      generalize (w2.setCell ⟨m, 0, none⟩ (.int .i32 1)).setCell ⟨m, 0, none⟩ (.int .i32 0) = W4 at hP ⊢
      have m2 : W4.cell? ⟨m, 2, none⟩ = some (.slice a' n cap') := cell_of_blk hP.mblk rfl
      go_wp2_with fail
      refine (ctx_any _).mono ?_
      rintro e w5 ⟨rfl, rfl⟩
      go_wp2_with fail
      have hcall := run_eql_fn
      go_loopw [7] (fun i wr => ∃ k : Nat, k ≤ n ∧ i = .int .i64 k ∧ P2 n D T X m E K a' cap' w wr) (fun i _ => n - (intOf i).toNat)
      case atStart => exact ⟨0, Nat.zero_le _, rfl, hP⟩
      case round =>
        clear hP m2
        obtain ⟨k, hk, rfl, hP⟩ := hrel
        have m2 : wr.cell? ⟨m, 2, none⟩ = some (.slice a' n cap') := cell_of_blk hP.mblk rfl
        have hml : m < wr.heap.size := lt_of_block hP.mblk
        by_cases hlt : k < n
        · obtain ⟨b, o, rfl, hc⟩ := hP.rd (by omega)
          have c0 : wr.cell? ⟨b, o + k * 3, none⟩ = some (.int .i64 0) := hc k hlt 0 (by omega)
          have c1 : wr.cell? ⟨b, o + k * 3 + 1, none⟩ = some (.slice none 0 0) := hc k hlt 1 (by omega)
          have c2 : wr.cell? ⟨b, o + k * 3 + 2, none⟩ = some (.func (.func 16) #[] #[.pointer (some ⟨K k, 0, none⟩)]) := hc k hlt 2 (by omega)
          have hsn := fun (W : World) (a : Option Addr) (l c : Nat) => run_neq_slice_nil_any (P := Yba.prog) W 51 _ a l c 0 0 Yba.underlying51
          clear hc
          go_wp2_with fail
          refine (ans_any _ _ (K k) (D k).tx (D k).rf (D k).fi (D k).ta (D k).tl (D k).tc (D k).u0 (D k).u1 (D k).u2 _ (((Fr.refl [] wr).alloc _).block (hP.kb k hlt) (by simp))).mono ?_
          rintro e w6 ⟨rfl, hf6⟩
          have hP6 := hP.go (((Fr.refl [] wr).alloc _).trans hf6)
          have hml6 : m < w6.heap.size := lt_of_block hP6.mblk
          clear m2 c0 c1 c2 hsn hml hP hf6
          go_wp2_with fail
          have hP7 := hP6.go ((Fr.refl [] w6).alloc (.cells (rcells (D k)) 27))
          have hb7 := blk_new w6 (.cells (rcells (D k)) 27)
          unfold rcells at hb7 hP7
          obtain ⟨G, hG⟩ : ∃ G, G = w6.heap.size := ⟨_, rfl⟩
          rw [← hG] at hb7 ⊢
          generalize w6.alloc (.cells #[.string (D k).tx, .string (D k).rf, .slice (D k).ta (D k).tl (D k).tc, .string (D k).fi, .int .i64 (D k).u0, .int .i64 (D k).u1, .int .i64 (D k).u2] 27) = W7 at hP7 hb7 ⊢
          clear hP6 hml6 hG
          have g0 : W7.cell? ⟨G, 0, none⟩ = some (.string (D k).tx) := cell_of_blk hb7 rfl
          have g1 : W7.cell? ⟨G, 1, none⟩ = some (.string (D k).rf) := cell_of_blk hb7 rfl
          have g2 : W7.cell? ⟨G, 2, none⟩ = some (.slice (D k).ta (D k).tl (D k).tc) := cell_of_blk hb7 rfl
          have g3 : W7.cell? ⟨G, 3, none⟩ = some (.string (D k).fi) := cell_of_blk hb7 rfl
          have g4 : W7.cell? ⟨G, 4, none⟩ = some (.int .i64 (D k).u0) := cell_of_blk hb7 rfl
          have g5 : W7.cell? ⟨G, 5, none⟩ = some (.int .i64 (D k).u1) := cell_of_blk hb7 rfl
          have g6 : W7.cell? ⟨G, 6, none⟩ = some (.int .i64 (D k).u2) := cell_of_blk hb7 rfl
          obtain ⟨ea, ec, he, hre, _⟩ := hP7.cp.ent k hlt
          have hc7 := hP7.cp.cells hlt
          rw [he] at hc7
          obtain ⟨x0, x1, x2, x3, x4, x5, x6⟩ := hc7
          simp only at x0 x1 x2 x3 x4 x5 x6
          obtain ⟨o1, o2, o3⟩ := ok k hlt
          have HB : Hid (∀ W, Fr [] W7 W → Calls Yba.prog 9 #[.agg #[.string (D k).tx, .string (D k).rf, .slice (D k).ta (D k).tl (D k).tc, .string (D k).fi, .int .i64 (D k).u0, .int .i64 (D k).u1, .int .i64 (D k).u2], .agg #[.string (D k).tx, .string (D k).rf, .slice ea (D k).tl ec, .string (D k).fi, .int .i64 (D k).u0, .int .i64 (D k).u1, .int .i64 (D k).u2]] W fun e w' => e = .returned (.bool true) ∧ Fr [] W7 w') := fun W hW =>
            (beq_any _ _ _ _ _ _ _ _ _ _ _ (T k) W (by omega) (o1.fr (hP7.fr.trans hW)) (hre.fr hW)).mono (fun e w' ⟨h1, h2⟩ => ⟨h1, hW.trans h2⟩)
          clear o1 o2 o3 he hre hb7
          go_cut [116] from 110 to 116 (fun v wx => v = .bool false ∧ Fr [] W7 wx)
          case first =>
            go_region_with (go_at_call 9; refine (HB.out _ ?_).mono ?_; (first | exact Fr.refl _ _ | exact (Fr.refl _ _).drew); rintro e w' ⟨rfl, hfb⟩)
            all_goals (try go_wp2_with fail)
            all_goals go_meet
            all_goals (first | exact ⟨rfl, hfb⟩ | exact ⟨rfl, hfb.drew⟩)
          case rest =>
            obtain ⟨rfl, hfc⟩ := hcut
            have hPc := hP7.go hfc
            clear hP7 hfc HB g0 g1 g2 g3 g4 g5 g6 x0 x1 x2 x3 x4 x5 x6
            go_wp2_with fail
            go_roundw
            case rel => exact ⟨k + 1, by omega, by go_num, hPc⟩
            case measure => simp [intOf]; omega
        · obtain rfl : n = k := by omega
          go_wp2_with fail
          clear m2 hml
          go_loopw [11] (fun i wr => ∃ k : Nat, k ≤ n ∧ i = .int .i64 k ∧ P2 n D T X m E K a' cap' w wr) (fun i _ => n - (intOf i).toNat)
          case atStart => exact ⟨0, Nat.zero_le _, rfl, hP⟩
          case round =>
            clear hP
            obtain ⟨k, hk, rfl, hP7⟩ := hrel
            by_cases hlt : k < n
            · obtain ⟨b, o, rfl, hc⟩ := h (by omega)
              obtain ⟨g0, g1, g2, g3, g4, g5, g6⟩ := (hc k hlt).fr hP7.fr (by simp)
              obtain ⟨ea, ec, he, hre, _⟩ := hP7.cp.ent k hlt
              have hc7 := hP7.cp.cells hlt
              rw [he] at hc7
              obtain ⟨x0, x1, x2, x3, x4, x5, x6⟩ := hc7
              simp only at x0 x1 x2 x3 x4 x5 x6
              obtain ⟨o1, o2, o3⟩ := ok k hlt
              have HB : Hid (∀ W, Fr [] wr W → Calls Yba.prog 9 #[.agg #[.string (D k).tx, .string (D k).rf, .slice (D k).ta (D k).tl (D k).tc, .string (D k).fi, .int .i64 (D k).u0, .int .i64 (D k).u1, .int .i64 (D k).u2], .agg #[.string (D k).tx, .string (D k).rf, .slice ea (D k).tl ec, .string (D k).fi, .int .i64 (D k).u0, .int .i64 (D k).u1, .int .i64 (D k).u2]] W fun e w' => e = .returned (.bool true) ∧ Fr [] wr w') := fun W hW =>
                (beq_any _ _ _ _ _ _ _ _ _ _ _ (T k) W (by omega) (o1.fr (hP7.fr.trans hW)) (hre.fr hW)).mono (fun e w' ⟨h1, h2⟩ => ⟨h1, hW.trans h2⟩)
              clear o1 o2 o3 he hre hc
              go_wp2_with fail
              go_cut [132] from 123 to 132 (fun v wx => v = .bool false ∧ Fr [] wr wx)
              case first =>
                go_region_with (go_at_call 9; refine (HB.out _ ?_).mono ?_; (first | exact Fr.refl _ _ | exact (Fr.refl _ _).drew); rintro e w' ⟨rfl, hfb⟩)
                all_goals (try go_wp2_with fail)
                all_goals go_meet
                all_goals (first | exact ⟨rfl, hfb⟩ | exact ⟨rfl, hfb.drew⟩)
              case rest =>
                obtain ⟨rfl, hfc⟩ := hcut
                have hPc := hP7.go hfc
                clear hP7 hfc HB g0 g1 g2 g3 g4 g5 g6 x0 x1 x2 x3 x4 x5 x6
                go_wp2_with fail
                go_roundw
                case rel => exact ⟨k + 1, by omega, by go_num, hPc⟩
                case measure => simp [intOf]; omega
            · obtain rfl : n = k := by omega
              go_wp2_with fail
              go_ret
              exact ⟨rfl, hP7.fr.below (Nat.le_refl _) (by simp)⟩

set_option maxHeartbeats 400000 in
theorem law_far (a : Option Addr) (n cap : Nat) (w : World) (hn : ¬ n ≤ 65536) (hm : n ≤ 140737488351232) :
    Calls Yba.prog 3 #[.slice a n cap] w fun e w' => e = .returned (.bool true) ∧ Below w.heap.size w w' := by
  go_enter Yba.func3, Yba.ntmps3
  go_wp2
  go_ret
  exact ⟨rfl, Below.refl _ _⟩
end Go.Proofs.Ybulkhdai
