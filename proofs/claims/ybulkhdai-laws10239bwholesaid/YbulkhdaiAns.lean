import Derived.Test.YbulkhdaiClone
import Derived.Laws.EntriesVeiled
namespace Go.Proofs.Ybulkhdai
open Go.RowKit

set_option maxRecDepth 100000 in
set_option maxHeartbeats 800000 in
theorem beq_any (tx rf fi : ByteArray) (ta ta' : Option Addr) (tl tc tc' : Nat) (u0 u1 u2 : Int) (T : Nat → Nat → ByteArray) (w : World) (hl : tl ≤ 140737488351232) (h : RdT w ta tl T) (h' : RdT w ta' tl T) :
    Calls Yba.prog 9 #[.agg #[.string tx, .string rf, .slice ta tl tc, .string fi, .int .i64 u0, .int .i64 u1, .int .i64 u2], .agg #[.string tx, .string rf, .slice ta' tl tc', .string fi, .int .i64 u0, .int .i64 u1, .int .i64 u2]] w fun e w' => e = .returned (.bool true) ∧ Fr [] w w' := by
  go_enter Yba.func9, Yba.ntmps9
  go_wp2_with fail
  have f1 : Fr [] w ((w.alloc (.cells #[.string tx, .string rf, .slice ta tl tc, .string fi, .int .i64 u0, .int .i64 u1, .int .i64 u2] 27)).alloc (.cells #[.string tx, .string rf, .slice ta' tl tc', .string fi, .int .i64 u0, .int .i64 u1, .int .i64 u2] 27)) := ((Fr.refl _ _).alloc _).alloc _
  refine (eq_any ta ta' tl tc tc' T _ hl (h.fr f1) (h'.fr f1)).mono ?_
  rintro e w' ⟨rfl, q, rfl⟩
  go_wp2_with fail
  go_ret
  exact ⟨rfl, f1.drewN q⟩

set_option maxRecDepth 100000 in
set_option maxHeartbeats 800000 in
theorem ctx_any (w : World) : Calls Yba.prog 8 #[] w fun e w' => e = .returned (.iface 82 (.agg #[])) ∧ w' = w := by
  go_enter Yba.func8, Yba.ntmps8
  go_wp2
  go_ret
  exact ⟨rfl, rfl⟩

set_option maxRecDepth 100000 in
set_option maxHeartbeats 800000 in
theorem ans_any (ctx : Value) (rq : Array Value) (K : Nat) (tx rf fi : ByteArray) (ta : Option Addr) (tl tc : Nat) (u0 u1 u2 : Int) (w : World) (hk : w.heap[K]? = some (.cells #[.string tx, .string rf, .slice ta tl tc, .string fi, .int .i64 u0, .int .i64 u1, .int .i64 u2] 27 (0, 0))) :
    Calls Yba.prog 16 #[ctx, .agg rq, .pointer (some ⟨K, 0, none⟩)] w fun e w' => e = .returned (.tuple #[.agg #[.string tx, .string rf, .slice ta tl tc, .string fi, .int .i64 u0, .int .i64 u1, .int .i64 u2], .nilIface]) ∧ Fr [] w w' := by
  have hKl : K < w.heap.size := lt_of_block hk
  have k0 : w.cell? ⟨K, 0, none⟩ = some (.string tx) := cell_of_blk hk rfl
  have k1 : w.cell? ⟨K, 1, none⟩ = some (.string rf) := cell_of_blk hk rfl
  have k2 : w.cell? ⟨K, 2, none⟩ = some (.slice ta tl tc) := cell_of_blk hk rfl
  have k3 : w.cell? ⟨K, 3, none⟩ = some (.string fi) := cell_of_blk hk rfl
  have k4 : w.cell? ⟨K, 4, none⟩ = some (.int .i64 u0) := cell_of_blk hk rfl
  have k5 : w.cell? ⟨K, 5, none⟩ = some (.int .i64 u1) := cell_of_blk hk rfl
  have k6 : w.cell? ⟨K, 6, none⟩ = some (.int .i64 u2) := cell_of_blk hk rfl
  go_enter Yba.func16, Yba.ntmps16
  go_wp2
  exact bodyPost_ret (v := .tuple #[.agg #[.string tx, .string rf, .slice ta tl tc, .string fi, .int .i64 u0, .int .i64 u1, .int .i64 u2], .nilIface]) (by simp [results, Yba.results16, go_sem]) rfl ⟨rfl, ((Fr.refl _ _).alloc _).alloc _⟩

set_option maxRecDepth 100000 in
set_option maxHeartbeats 800000 in
theorem af_any (fn : Fn) (fs cs : Array Value) (w : World) :
    Calls Yba.prog 15 #[.func fn fs cs] w fun e w' => e = .returned (.agg #[.int .i64 0, .slice none 0 0, .func fn fs cs]) ∧ w' = w.alloc (.cells #[.int .i64 0, .slice none 0 0, .func fn fs cs] 54) := by
  go_enter Yba.func15, Yba.ntmps15
  go_wp2
  exact bodyPost_ret (v := .agg #[.int .i64 0, .slice none 0 0, .func fn fs cs]) (by simp [results, Yba.results15, go_sem]) rfl ⟨rfl, rfl⟩

set_option maxRecDepth 100000 in
set_option maxHeartbeats 800000 in
theorem answer_any (tx rf fi : ByteArray) (ta : Option Addr) (tl tc : Nat) (u0 u1 u2 : Int) (w : World) :
    Calls Yba.prog 10 #[.agg #[.string tx, .string rf, .slice ta tl tc, .string fi, .int .i64 u0, .int .i64 u1, .int .i64 u2]] w fun e w' => e = .returned (.agg #[.int .i64 0, .slice none 0 0, .func (.func 16) #[] #[.pointer (some ⟨w.heap.size, 0, none⟩)]]) ∧ w'.heap[w.heap.size]? = some (.cells #[.string tx, .string rf, .slice ta tl tc, .string fi, .int .i64 u0, .int .i64 u1, .int .i64 u2] 27 (0, 0)) ∧ Fr [] w w' := by
  have hmf : ∀ (fn : Fn) (first cap : Array Value) (w : World), (Instr.makeFunc fn first cap).run Yba.prog w = .ok (.func fn first cap) w := fun _ _ _ _ => rfl
  go_enter Yba.func10, Yba.ntmps10
  go_wp2_with (go_at_call 15; refine (af_any _ _ _ _).mono ?_; rintro e w' ⟨rfl, rfl⟩)
  refine bodyPost_ret (v := .agg #[.int .i64 0, .slice none 0 0, .func (.func 16) #[] #[.pointer (some ⟨w.heap.size, 0, none⟩)]]) (by simp [results, Yba.results10, go_sem]) rfl ⟨rfl, ?_, ?_⟩
  · rw [Below.heap_alloc _ _ _ (by simp; omega), Below.heap_alloc _ _ _ (by simp)]
    exact blk_new _ _
  · exact (((Fr.refl _ _).alloc _).alloc _).alloc _

theorem Rd3.fr {w w' : World} {a : Option Addr} {len : Nat} {T : Nat → Nat → Value} {S : List Nat} (h : Rd3 w a len T) (f : Fr S w w') (hS : ∀ b o, a = some ⟨b, o, none⟩ → b ∉ S) : Rd3 w' a len T := by
  intro h0
  obtain ⟨b, o, ha, hc⟩ := h h0
  exact ⟨b, o, ha, fun j hj c hcc => f.cell (hc j hj c hcc) (hS b o ha)⟩

/-- What NewScript leaves. -/
def Made (len : Nat) (K : Nat → Nat) (m : Nat) (w w' : World) : Prop :=
  ∃ a' cap', w'.heap[m]? = some (.cells #[.int .i32 0, .int .u32 0, .slice a' len cap', .slice none 0 0] 45 (0, 0)) ∧ Rd3 w' a' len (stepT K) ∧ (∀ b o, a' = some ⟨b, o, none⟩ → 0 < len → b ≠ m) ∧ Fr [] w w' ∧ w.heap.size ≤ m

set_option maxRecDepth 100000 in
set_option maxHeartbeats 800000 in
theorem newScript_any (ad : Addr) (len cap : Nat) (K : Nat → Nat) (w : World) (hl : len ≤ 65536) (h : Rd3 w (some ad) len (stepT K)) :
    Calls Yba.prog 11 #[.slice (some ad) len cap] w fun e w' => ∃ m, e = .returned (.pointer (some ⟨m, 0, none⟩)) ∧ Made len K m w w' := by
  go_enter Yba.func11, Yba.ntmps11
  go_wp2_with fail
  have f1 : Fr [] w (w.alloc (.cells #[.int .i32 0, .int .u32 0, .slice none 0 0, .slice none 0 0] 45)) := (Fr.refl _ _).alloc _
  have b1 := blk_new w (.cells #[.int .i32 0, .int .u32 0, .slice none 0 0, .slice none 0 0] 45)
  refine (clone17_any ad len cap K _ hl (h.fr f1 (by simp))).mono ?_
  rintro e w1 ⟨a', cap', rfl, hr, hf, hfresh⟩
  have b2 := hf.block b1 (by simp)
  have c2 : w1.cell? ⟨w.heap.size, 2, none⟩ = some (.slice none 0 0) := cell_of_blk b2 rfl
  have z2 := free_of_blk b2 2
  have hne : Hid (∀ b o, a' = some ⟨b, o, none⟩ → 0 < len → b ≠ w.heap.size) := fun b o e _ => by
    have := hfresh b o e
    simp at this
    omega
  clear hfresh
  go_wp2_with fail
  go_ret
  have f2 : Fr [w.heap.size] w1 (w1.setCell ⟨w.heap.size, 2, none⟩ (.slice a' len cap')) := (Fr.refl _ _).setCell (by simp) _
  refine ⟨w.heap.size, rfl, a', cap', by rw [blk_setCell b2]; rfl, ?_, hne.out, ((f1.trans hf).mono (by simp)).trans f2 |>.less (by simp), Nat.le_refl _⟩
  intro h0
  obtain ⟨b, o, ha, hc⟩ := hr h0
  exact ⟨b, o, ha, fun j hj c hcc => f2.cell (hc j hj c hcc) (by simpa using hne.out b o ha h0)⟩
end Go.Proofs.Ybulkhdai
