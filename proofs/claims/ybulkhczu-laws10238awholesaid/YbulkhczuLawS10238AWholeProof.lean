import Derived.Test.YbulkhczuRows
import Derived.Test.YbulkhczuA3
import Derived.WalkKit
import Derived.ProofKit
import Derived.OpenShut
import Derived.ShutString
import Derived.ChangeOld
import Derived.Below
import Derived.Deep.Grids
namespace Go.Proofs.Ybulkhczu.lawS10238AWhole
open Go.ChangeShapes Go.WideShapes Go.ChangeAt Go.RowKit
open Go.ChangeMaps (open_string shut_string)
set_option linter.unusedVariables false

theorem own : ownKnob Yba.prog.godebug = none := by kernel_rfl
theorem laidOut : laidOutB Yba.prog = true := by kernel_rfl

set_option maxRecDepth 100000 in
set_option maxHeartbeats 800000 in
theorem far (a0 a1 a2 : Option Addr) (n cap0 len1 cap1 len2 cap2 : Nat) (preW aw re : Int) (w : World) (h : 65536 < n ∨ 1048576 < len1 ∨ 1048576 < len2) :
    Calls Yba.prog 3 #[.slice a0 n cap0, .slice a1 len1 cap1, .slice a2 len2 cap2, .int .u8 preW, .int .i64 aw, .int .i64 re] w fun e w' => e = .returned (.bool true) ∧ Below w.heap.size w w' := by
  by_cases h0 : 65536 < n
  · go_enter Yba.func3, Yba.ntmps3
    go_wp2
    go_ret
    exact ⟨rfl, Below.refl _ _⟩
  · by_cases h1 : 1048576 < len1
    · have t0 : decide ((65536 : Int) < (n : Int)) = false := by simp; omega
      go_enter Yba.func3, Yba.ntmps3
      go_wp2
      go_ret
      exact ⟨rfl, Below.refl _ _⟩
    · have t0 : decide ((65536 : Int) < (n : Int)) = false := by simp; omega
      have t1 : decide ((1048576 : Int) < (len1 : Int)) = false := by simp; omega
      have h2 : 1048576 < len2 := by omega
      go_enter Yba.func3, Yba.ntmps3
      go_wp2
      go_ret
      exact ⟨rfl, Below.refl _ _⟩

theorem walk (a0 a1 a2 : Option Addr) (n cap0 len1 cap1 len2 cap2 : Nat) (st : Nat → Bool) (pk pre : Nat → Int) (preW aw re : Int) (w : World)
    (r0 : Rds w a0 n (fun i => .bool (st i))) (r1 : Rds w a1 len1 (fun i => .int .u16 (pk i))) (hpk : ∀ i, 0 ≤ pk i ∧ pk i ≤ 65535)
    (r2 : Rds w a2 len2 (fun i => .int .u8 (pre i))) (hpre : ∀ i, 0 ≤ pre i ∧ pre i ≤ 255) (w3 : (Lit.int .u8 preW).wf = true) :
    Calls Yba.prog 3 #[.slice a0 n cap0, .slice a1 len1 cap1, .slice a2 len2 cap2, .int .u8 preW, .int .i64 aw, .int .i64 re] w fun e w' => e = .returned (.bool true) ∧ Below w.heap.size w w' := by
  by_cases h : 65536 < n ∨ 1048576 < len1 ∨ 1048576 < len2
  · exact far a0 a1 a2 n cap0 len1 cap1 len2 cap2 preW aw re w h
  · have b3 := bounds_u8 w3
    refine lawA_walk a0 a1 a2 n cap0 len1 cap1 len2 cap2 st pk pre (fun i => if i < len2 then pre i % 3 else 0) preW aw re w (by omega) (by omega) (by omega) r0 r2 hpre (hide_of (fun i => rfl)) r1 hpk (by omega) (by omega) (fun i => (pk i % (n : Int)).toNat) (hide_of ?_)
    intro i hn
    have hp := hpk i
    have h1 : 0 ≤ pk i % (n : Int) := Int.emod_nonneg _ (by omega)
    have h2 : pk i % (n : Int) < (n : Int) := Int.emod_lt_of_pos _ (by omega)
    constructor
    · omega
    · omega

theorem ints_rds {k : IntKind} {W : World} {x : Addr} {len cap : Nat} {zs : List Int} (hl : len ≤ cap) (hz : zs.length = cap) (hc : ∀ i, i < zs.length → W.cell? (x.add i) = some (.int k (zs.getD i 0))) : Rds W (some x) len (fun i => .int k (zs.getD i 0)) := by
  intro h0
  obtain ⟨b, o, rfl, hc'⟩ := ints_at hc (by omega)
  exact ⟨b, o, rfl, fun i hi => hc' i (by omega)⟩

theorem bools_rds {W : World} {x : Addr} {len cap : Nat} {F : Nat → Bool} (hl : len ≤ cap) (hc : ∀ i, i < cap → W.cell? (x.add i) = some (.bool (F i))) : Rds W (some x) len (fun i => .bool (F i)) := by
  intro h0
  obtain ⟨b, off, spot⟩ := x
  have hspot : spot = none := by simpa [Addr.add] using World.cell?_spot (hc 0 (by omega))
  subst hspot
  exact ⟨b, off, rfl, fun i hi => by rw [← add_plain]; exact hc i (by omega)⟩

theorem wf_all {k : IntKind} {zs : List Int} (h : ∀ n ∈ zs, (Lit.int k n).wf = true) (h0 : (Lit.int k 0).wf = true) (i : Nat) : (Lit.int k (zs.getD i 0)).wf = true := by
  rcases Nat.lt_or_ge i zs.length with h' | h'
  · have e : zs.getD i 0 = zs[i] := by simp [h']
    rw [e]; exact h _ (List.getElem_mem h')
  · have e : zs.getD i 0 = 0 := by simp [h']
    rw [e]; exact h0

set_option maxRecDepth 100000 in
theorem lifted (os : Os) (started : os.Started) (H : Type) (enc : TypeId × Value → H) :
    ReturnsInHanded {} Yba.checked os 3 .any (Rows.lawS10238AWholeSpec.pre6 enc Yba.prog Yba.f3 Rows.lawS10238AWholeRow.domain false) (Rows.lawS10238AWholeSpec.post enc Yba.prog Yba.f3 false true false false) := by
  refine returnsInHanded_of_change (C := Yba.checked) own started (by kernel_rfl) Yba.func3
    (ChangeSpec.witness6 (enc := enc) (C := Yba.checked) false ⟨#[], #[.slice none 0 0, .slice none 0 0, .slice none 0 0, .int .u8 0, .int .i64 0, .int .i64 0], []⟩ 8 (by kernel_rfl) (by kernel_rfl) (by kernel_rfl) (by kernel_rfl)) ?_
  intro W base args ds gs before hval0 hW hcnd _
  have hval : ∀ (j : Nat) t v, Yba.f3.params[j]? = some t → args[j]? = some v → Value.okWide Yba.prog W .any base t v := hval0
  have hW' := hW
  obtain ⟨p, q, hA0, hV, rfl, hfz, hnd⟩ := hW
  have hA : DataW.TrodAll enc Yba.prog W 0 (fun _ => true) true Yba.f3.params.toList args.toList ds p := hA0
  rw [Yba.params3] at hA hval
  obtain ⟨v0, vs0, d0, ds0, p0, q0, hargs, rfl, rfl, h0, r0⟩ := trodAll_cons hA
  obtain ⟨v1, vs1, d1, ds1, p1, q1, rfl, rfl, rfl, h1, r1⟩ := trodAll_cons r0
  obtain ⟨v2, vs2, d2, ds2, p2, q2, rfl, rfl, rfl, h2, r2⟩ := trodAll_cons r1
  obtain ⟨v3, vs3, d3, ds3, p3, q3, rfl, rfl, rfl, h3, r3⟩ := trodAll_cons r2
  obtain ⟨v4, vs4, d4, ds4, p4, q4, rfl, rfl, rfl, h4, r4⟩ := trodAll_cons r3
  obtain ⟨v5, vs5, d5, ds5, p5, q5, rfl, rfl, rfl, h5, r5⟩ := trodAll_cons r4
  obtain ⟨rfl, rfl, rfl⟩ := trodAll_nil r5
  obtain rfl : args = #[v0, v1, v2, v3, v4, v5] := by cases args; simp_all
  obtain ⟨rfl, rfl⟩ := trodVars_none hV
  obtain ⟨a0, len0, cap0, rfl⟩ := okWide_slice Yba.underlying22 (hval 0 22 v0 rfl rfl)
  obtain ⟨a1, len1, cap1, rfl⟩ := okWide_slice Yba.underlying23 (hval 1 23 v1 rfl rfl)
  obtain ⟨a2, len2, cap2, rfl⟩ := okWide_slice Yba.underlying24 (hval 2 24 v2 rfl rfl)
  obtain ⟨a3, rfl, rfl, rfl, w3⟩ := open_int Yba.underlying5 (hval 3 5 v3 rfl rfl) h3
  obtain ⟨a4, rfl, rfl, rfl, w4⟩ := open_int Yba.underlying3 (hval 4 3 v4 rfl rfl) h4
  obtain ⟨a5, rfl, rfl, rfl, w5⟩ := open_int Yba.underlying3 (hval 5 3 v5 rfl rfl) h5
  have k0 := h0
  have k1 := h1
  have k2 := h2
  have lt0 : ∀ x ∈ p0, x.block < W.heap.size := by obtain ⟨m, hm⟩ := k0; exact DataW.trod_lt m _ _ _ hm
  have lt1 : ∀ x ∈ p1, x.block < W.heap.size := by obtain ⟨m, hm⟩ := k1; exact DataW.trod_lt m _ _ _ hm
  have lt2 : ∀ x ∈ p2, x.block < W.heap.size := by obtain ⟨m, hm⟩ := k2; exact DataW.trod_lt m _ _ _ hm
  obtain ⟨st, e0⟩ : ∃ st : Nat → Bool, Rds W a0 len0 (fun i => .bool (st i)) := by
    obtain ⟨fuel, hf⟩ := h0
    rcases Go.Deep.open_bools Yba.underlying22 Yba.underlying4 (by kernel_rfl) hf with ⟨hcs, _⟩ | ⟨x, l, c, F, hcs, _, hl, hm, _, hcell⟩
    · simp [Value.cells] at hcs
      obtain ⟨rfl, rfl, rfl⟩ := hcs
      exact ⟨fun _ => false, fun h => absurd h (by omega)⟩
    · simp [Value.cells] at hcs
      obtain ⟨rfl, rfl, rfl⟩ := hcs
      exact ⟨F, bools_rds hl hcell⟩
  obtain ⟨pk, e1, b1⟩ : ∃ pk : Nat → Int, Rds W a1 len1 (fun i => .int .u16 (pk i)) ∧ ∀ i, (Lit.int .u16 (pk i)).wf = true := by
    obtain ⟨fuel, hf⟩ := h1
    rcases open_ints Yba.underlying23 Yba.underlying65 (by kernel_rfl) hf with ⟨hcs, _⟩ | ⟨x, l, c, zs, hcs, _, hl, hm, hz, _, hcell, hwz⟩
    · simp [Value.cells] at hcs
      obtain ⟨rfl, rfl, rfl⟩ := hcs
      exact ⟨fun _ => 0, fun h => absurd h (by omega), fun _ => rfl⟩
    · simp [Value.cells] at hcs
      obtain ⟨rfl, rfl, rfl⟩ := hcs
      exact ⟨fun i => zs.getD i 0, ints_rds hl (by simpa using hz) hcell, wf_all hwz (by decide)⟩
  obtain ⟨pre, e2, b2⟩ : ∃ pre : Nat → Int, Rds W a2 len2 (fun i => .int .u8 (pre i)) ∧ ∀ i, (Lit.int .u8 (pre i)).wf = true := by
    obtain ⟨fuel, hf⟩ := h2
    rcases open_ints Yba.underlying24 Yba.underlying5 (by kernel_rfl) hf with ⟨hcs, _⟩ | ⟨x, l, c, zs, hcs, _, hl, hm, hz, _, hcell, hwz⟩
    · simp [Value.cells] at hcs
      obtain ⟨rfl, rfl, rfl⟩ := hcs
      exact ⟨fun _ => 0, fun h => absurd h (by omega), fun _ => rfl⟩
    · simp [Value.cells] at hcs
      obtain ⟨rfl, rfl, rfl⟩ := hcs
      exact ⟨fun i => zs.getD i 0, ints_rds hl (by simpa using hz) hcell, wf_all hwz (by decide)⟩
  clear hA0 hval0
  refine (walk a0 a1 a2 len0 cap0 len1 cap1 len2 cap2 st pk pre a3 a4 a5 W e0 e1 (fun i => bounds_u16 (b1 i)) e2 (fun i => bounds_u8 (b2 i)) w3).mono fun e W' ⟨he, bel⟩ => ?_
  subst he
  exact ⟨_, rfl, _, _, _, [], _, [], hW', trodAll_mk1 (shut_bool Yba.underlying4 _), (trodAll_cons_mk (Below.trod laidOut (by kernel_rfl) (of_decide_eq_true (by kernel_rfl)) k0 bel lt0) (trodAll_cons_mk (Below.trod laidOut (by kernel_rfl) (of_decide_eq_true (by kernel_rfl)) k1 bel lt1) (trodAll_cons_mk (Below.trod laidOut (by kernel_rfl) (of_decide_eq_true (by kernel_rfl)) k2 bel lt2) (trodAll_cons_mk (shut_int Yba.underlying5 w3) (trodAll_cons_mk (shut_int Yba.underlying3 w4) (trodAll_cons_mk (shut_int Yba.underlying3 w5) trodAll_mk0)))))), rfl, bel.frame _, fun h => by cases h⟩

theorem over : Rows.lawS10238AWholeRow.holds Yba.pinned (OpenSpec.ofChange Rows.lawS10238AWholeSpec) :=
  OpenClaim.holds_of_wide 3 Yba.f3 rfl rfl rfl rfl rfl rfl rfl ⟨rfl, rfl, rfl, rfl, rfl⟩ rfl rfl rfl rfl rfl (by kernel_rfl) Yba.func3 (by kernel_rfl)
    (of_decide_eq_true (by kernel_rfl)) (by unfold Func.isWrapper; first | (rw [if_pos (by decide +kernel)]; kernel_rfl) | (rw [if_neg (by decide +kernel)]; exact ⟨rfl, rfl⟩))
    (fun os started H enc _ => lifted os started H enc)

/-- ████ THE STATEMENT ████ -/
theorem proved : Rows.LawS10238AWholeSaid := over
#print axioms proved
end Go.Proofs.Ybulkhczu.lawS10238AWhole
