import Derived.Test.YbulkhdngFmtBase
namespace Go.Proofs.YbulkhdngFmt
open Go.RowKit Go.Extern.Stop Go.Stop Go.Extern
def Ybaf.shape2 : List UInt8 := [5, 5, 0, 0, 0, 0, 0, 0, 0, 105, 110, 116, 54, 52]
theorem Ybaf.op2_100 (name : String) (x : Int) (w : World) : (FmtStop.operand name false 100 false (.iface 2 (.int .i64 x))).run Ybaf.prog w = .ok (Ybaf.shape2, Go.Extern.Stop.digits 8 (x % 2 ^ 64).toNat) w := by kernel_rfl
theorem Ybaf.op2_100w (name : String) (x : Int) (w : World) : (FmtStop.operand name true 100 false (.iface 2 (.int .i64 x))).run Ybaf.prog w = .ok (Ybaf.shape2, Go.Extern.Stop.digits 8 (x % 2 ^ 64).toNat) w := by kernel_rfl
def Ybaf.shape32 : List UInt8 := [18, 18, 0, 0, 0, 0, 0, 0, 0, 97, 105, 114, 113, 117, 111, 114, 117, 109, 46, 68, 101, 99, 105, 115, 105, 111, 110, 3, 0, 0, 0, 0, 0, 0, 0, 0, 5, 0, 0, 0, 0, 0, 0, 0, 86, 97, 108, 117, 101, 0, 0, 0, 0, 0, 0, 0, 0, 5, 5, 0, 0, 0, 0, 0, 0, 0, 105, 110, 116, 54, 52, 0, 6, 0, 0, 0, 0, 0, 0, 0, 66, 97, 108, 108, 111, 116, 0, 0, 0, 0, 0, 0, 0, 0, 18, 16, 0, 0, 0, 0, 0, 0, 0, 97, 105, 114, 113, 117, 111, 114, 117, 109, 46, 66, 97, 108, 108, 111, 116, 2, 0, 0, 0, 0, 0, 0, 0, 0, 5, 0, 0, 0, 0, 0, 0, 0, 80, 104, 97, 115, 101, 0, 0, 0, 0, 0, 0, 0, 0, 5, 3, 0, 0, 0, 0, 0, 0, 0, 105, 110, 116, 0, 11, 0, 0, 0, 0, 0, 0, 0, 67, 111, 111, 114, 100, 105, 110, 97, 116, 111, 114, 0, 0, 0, 0, 0, 0, 0, 0, 5, 3, 0, 0, 0, 0, 0, 0, 0, 105, 110, 116, 0, 4, 0, 0, 0, 0, 0, 0, 0, 84, 105, 99, 107, 0, 0, 0, 0, 0, 0, 0, 0, 5, 3, 0, 0, 0, 0, 0, 0, 0, 105, 110, 116]
theorem Ybaf.op32_118 (name : String) (x0 x1 x2 x3 : Int) (w : World) : (FmtStop.operand name false 118 false (.iface 32 (.agg #[.int .i64 x0, .int .i64 x1, .int .i64 x2, .int .i64 x3]))).run Ybaf.prog w = .ok (Ybaf.shape32, Go.Extern.Stop.digits 8 (x0 % 2 ^ 64).toNat ++ ((Go.Extern.Stop.digits 8 (x1 % 2 ^ 64).toNat ++ (Go.Extern.Stop.digits 8 (x2 % 2 ^ 64).toNat ++ [])) ++ (Go.Extern.Stop.digits 8 (x3 % 2 ^ 64).toNat ++ []))) w := by kernel_rfl
theorem Ybaf.op32_118w (name : String) (x0 x1 x2 x3 : Int) (w : World) : (FmtStop.operand name true 118 false (.iface 32 (.agg #[.int .i64 x0, .int .i64 x1, .int .i64 x2, .int .i64 x3]))).run Ybaf.prog w = .ok (Ybaf.shape32, Go.Extern.Stop.digits 8 (x0 % 2 ^ 64).toNat ++ ((Go.Extern.Stop.digits 8 (x1 % 2 ^ 64).toNat ++ (Go.Extern.Stop.digits 8 (x2 % 2 ^ 64).toNat ++ [])) ++ (Go.Extern.Stop.digits 8 (x3 % 2 ^ 64).toNat ++ []))) w := by kernel_rfl
attribute [local go_sem] Ybaf.call10 Ybaf.guard Ybaf.fmt0 Ybaf.fmt0r Ybaf.fmt1 Ybaf.fmt1r Ybaf.fmt2 Ybaf.fmt2r Ybaf.fmt3 Ybaf.fmt3r Ybaf.fmt4 Ybaf.fmt4r Ybaf.fmt5 Ybaf.fmt5r Ybaf.op3_100 Ybaf.op3_100w Ybaf.op30_118 Ybaf.op30_118w Ybaf.ptr47 Ybaf.elem47 Ybaf.isError47' Ybaf.op2_100 Ybaf.op2_100w Ybaf.op32_118 Ybaf.op32_118w

structure Dec where
  v : Int
  p : Int
  c : Int
  t : Int

def badD (d : Dec) : Bool := !(decide (1 ≤ d.p) && decide (1 ≤ d.c)) || decide (d.t < 0)
def zB (p c : Int) : Bool := (p == 0) && (c == 0)
def bad2 (bp bc par hops : Int) : Bool := zB bp bc && ((par != 0) || (hops != 0))
def bad3 (id bp bc par hops : Int) : Bool := !zB bp bc && (par == id) && ((hops != 0) || (bc != id))
def bad4 (id nodes bp bc par hops : Int) : Bool := !zB bp bc && (par != id) && (decide (par < 1) || decide (hops < 1) || decide (nodes < hops))
def bad6 (ap ac vote : Int) : Bool := zB ap ac && (vote != 0)
def headB (id nodes bp bc par hops vote ap ac : Int) : Bool := !okB bp bc || !okB ap ac || bad2 bp bc par hops || bad3 id bp bc par hops || bad4 id nodes bp bc par hops || lessB bp bc ap ac || bad6 ap ac vote
def anyB (V : Nat → Dec) (k : Nat) : Bool := (List.range k).any fun i => badD (V i)

def Cells4 (w : World) (b p : Nat) (d : Dec) : Prop :=
  w.cell? ⟨b, p, none⟩ = some (.int .i64 d.v) ∧ w.cell? ⟨b, p + 1, none⟩ = some (.int .i64 d.p) ∧ w.cell? ⟨b, p + 2, none⟩ = some (.int .i64 d.c) ∧ w.cell? ⟨b, p + 3, none⟩ = some (.int .i64 d.t)
theorem Cells4.fr {w w' : World} {b p : Nat} {d : Dec} {S : List Nat} (h : Cells4 w b p d) (f : Fr S w w') (hb : b ∉ S) : Cells4 w' b p d :=
  ⟨f.cell h.1 hb, f.cell h.2.1 hb, f.cell h.2.2.1 hb, f.cell h.2.2.2 hb⟩

/-- What checkState answers. -/
def Said (v : Value) (bad : Bool) : Prop := (v = .nilIface ∧ bad = false) ∨ ((∃ a, v = .iface 47 (.pointer (some a))) ∧ bad = true)

/-- The three blocks of checkState's own. -/
structure CS (w : World) (C S Z : Nat) (id nodes bp bc par hops vote ap ac : Int) (X n : Nat) (V : Nat → Dec) (wr : World) : Prop where
  cfg : wr.heap[C]? = some (.cells #[.int .i64 id, .int .i64 nodes, .bool false, .int .i64 0, .int .i64 0, .int .i64 0, .int .i64 0, .bool false, .int .u64 0] 25 (0, 0))
  st : wr.heap[S]? = some (.cells #[.int .i64 bp, .int .i64 bc, .int .i64 par, .int .i64 hops, .int .i64 vote, .int .i64 ap, .int .i64 ac, .slice (some ⟨X, 0, none⟩) n n] 34 (0, 0))
  zr : wr.heap[Z]? = some (.cells #[.int .i64 0, .int .i64 0] 30 (0, 0))
  fr : Fr [] w wr
  hc : ∀ i, i < n → Cells4 wr X (i * 4) (V i)

theorem CS.go {w : World} {C S Z : Nat} {id nodes bp bc par hops vote ap ac : Int} {X n : Nat} {V : Nat → Dec} {wr w' : World} (h : CS w C S Z id nodes bp bc par hops vote ap ac X n V wr) (f : Fr [] wr w') : CS w C S Z id nodes bp bc par hops vote ap ac X n V w' :=
  ⟨f.block h.cfg (by simp), f.block h.st (by simp), f.block h.zr (by simp), h.fr.trans f, fun i hi => (h.hc i hi).fr f (by simp)⟩

theorem CS.start (w : World) (id nodes bp bc par hops vote ap ac : Int) (X n : Nat) (V : Nat → Dec) (hc : ∀ i, i < n → Cells4 w X (i * 4) (V i)) :
    CS w w.heap.size (w.heap.size + 1) (w.heap.size + 1 + 1) id nodes bp bc par hops vote ap ac X n V (((w.alloc (.cells #[.int .i64 id, .int .i64 nodes, .bool false, .int .i64 0, .int .i64 0, .int .i64 0, .int .i64 0, .bool false, .int .u64 0] 25)).alloc (.cells #[.int .i64 bp, .int .i64 bc, .int .i64 par, .int .i64 hops, .int .i64 vote, .int .i64 ap, .int .i64 ac, .slice (some ⟨X, 0, none⟩) n n] 34)).alloc (.cells #[.int .i64 0, .int .i64 0] 30)) := by
  have f : Fr [] w (((w.alloc (.cells #[.int .i64 id, .int .i64 nodes, .bool false, .int .i64 0, .int .i64 0, .int .i64 0, .int .i64 0, .bool false, .int .u64 0] 25)).alloc (.cells #[.int .i64 bp, .int .i64 bc, .int .i64 par, .int .i64 hops, .int .i64 vote, .int .i64 ap, .int .i64 ac, .slice (some ⟨X, 0, none⟩) n n] 34)).alloc (.cells #[.int .i64 0, .int .i64 0] 30)) := (((Fr.refl _ _).alloc _).alloc _).alloc _
  refine ⟨?_, ?_, ?_, f, fun i hi => (hc i hi).fr f (by simp)⟩
  · rw [Below.heap_alloc _ _ _ (by simp; omega), Below.heap_alloc _ _ _ (by simp)]
    exact blk_new _ _
  · rw [Below.heap_alloc _ _ _ (by simp)]
    simpa using blk_new (w.alloc (.cells #[.int .i64 id, .int .i64 nodes, .bool false, .int .i64 0, .int .i64 0, .int .i64 0, .int .i64 0, .bool false, .int .u64 0] 25)) (.cells #[.int .i64 bp, .int .i64 bc, .int .i64 par, .int .i64 hops, .int .i64 vote, .int .i64 ap, .int .i64 ac, .slice (some ⟨X, 0, none⟩) n n] 34)
  · simpa using blk_new ((w.alloc (.cells #[.int .i64 id, .int .i64 nodes, .bool false, .int .i64 0, .int .i64 0, .int .i64 0, .int .i64 0, .bool false, .int .u64 0] 25)).alloc (.cells #[.int .i64 bp, .int .i64 bc, .int .i64 par, .int .i64 hops, .int .i64 vote, .int .i64 ap, .int .i64 ac, .slice (some ⟨X, 0, none⟩) n n] 34)) (.cells #[.int .i64 0, .int .i64 0] 30)

theorem CS.cells {w : World} {C S Z : Nat} {id nodes bp bc par hops vote ap ac : Int} {X n : Nat} {V : Nat → Dec} {wr : World} (h : CS w C S Z id nodes bp bc par hops vote ap ac X n V wr) :
    wr.cell? ⟨S, 0, none⟩ = some (.int .i64 bp) ∧ wr.cell? ⟨S, 1, none⟩ = some (.int .i64 bc) ∧ wr.cell? ⟨S, 2, none⟩ = some (.int .i64 par) ∧ wr.cell? ⟨S, 3, none⟩ = some (.int .i64 hops) ∧ wr.cell? ⟨S, 4, none⟩ = some (.int .i64 vote) ∧ wr.cell? ⟨S, 5, none⟩ = some (.int .i64 ap) ∧ wr.cell? ⟨S, 6, none⟩ = some (.int .i64 ac) ∧ wr.cell? ⟨S, 7, none⟩ = some (.slice (some ⟨X, 0, none⟩) n n) ∧
    wr.cell? ⟨C, 0, none⟩ = some (.int .i64 id) ∧ wr.cell? ⟨C, 1, none⟩ = some (.int .i64 nodes) ∧ wr.cell? ⟨Z, 0, none⟩ = some (.int .i64 0) ∧ wr.cell? ⟨Z, 1, none⟩ = some (.int .i64 0) :=
  ⟨cell_of_blk h.st rfl, cell_of_blk h.st rfl, cell_of_blk h.st rfl, cell_of_blk h.st rfl, cell_of_blk h.st rfl, cell_of_blk h.st rfl, cell_of_blk h.st rfl, cell_of_blk h.st rfl, cell_of_blk h.cfg rfl, cell_of_blk h.cfg rfl, cell_of_blk h.zr rfl, cell_of_blk h.zr rfl⟩

theorem head1 {id nodes bp bc par hops vote ap ac : Int} (h : okB bp bc = false) : headB id nodes bp bc par hops vote ap ac = true := by simp [headB, h]
theorem head1' {id nodes bp bc par hops vote ap ac : Int} (h : okB ap ac = false) : headB id nodes bp bc par hops vote ap ac = true := by simp [headB, h]
theorem head2 {id nodes bp bc par hops vote ap ac : Int} (h : true = bad2 bp bc par hops) : headB id nodes bp bc par hops vote ap ac = true := by simp [headB, ← h]
theorem head3 {id nodes bp bc par hops vote ap ac : Int} (h : true = bad3 id bp bc par hops) : headB id nodes bp bc par hops vote ap ac = true := by simp [headB, ← h]
theorem head4 {id nodes bp bc par hops vote ap ac : Int} (h : true = bad4 id nodes bp bc par hops) : headB id nodes bp bc par hops vote ap ac = true := by simp [headB, ← h]
theorem head5 {id nodes bp bc par hops vote ap ac : Int} (h : lessB bp bc ap ac = true) : headB id nodes bp bc par hops vote ap ac = true := by simp [headB, h]
theorem head6 {id nodes bp bc par hops vote ap ac : Int} (h : true = bad6 ap ac vote) : headB id nodes bp bc par hops vote ap ac = true := by simp [headB, ← h]
theorem head0 {id nodes bp bc par hops vote ap ac : Int} (h1 : okB bp bc = true) (h1' : okB ap ac = true) (h2 : false = bad2 bp bc par hops) (h3 : false = bad3 id bp bc par hops) (h4 : false = bad4 id nodes bp bc par hops) (h5 : lessB bp bc ap ac = false) (h6 : false = bad6 ap ac vote) : headB id nodes bp bc par hops vote ap ac = false := by
  simp [headB, h1, h1', ← h2, ← h3, ← h4, h5, ← h6]

theorem badD_z {d : Dec} (h : (d.p == 0) = true) : badD d = true := by
  have : d.p = 0 := by simpa using h
  simp [badD, this]
theorem badD_f {d : Dec} (h : okB d.p d.c = false) : badD d = true := by
  simp [okB] at h
  simp [badD]
  omega
theorem badD_t {d : Dec} (h : okB d.p d.c = true) (hz : zB d.p d.c = false) : badD d = decide (d.t < 0) := by
  have h1 : 1 ≤ d.p ∧ 1 ≤ d.c := by
    simp [okB] at h
    simp [zB] at hz
    omega
  simp [badD, h1.1, h1.2]
theorem any_succ {V : Nat → Dec} {k : Nat} (h : anyB V k = false) (h' : false = badD (V k)) : anyB V (k + 1) = false := by
  unfold anyB at *
  rw [List.range_succ, List.any_append, h, List.any_cons, ← h']
  rfl
theorem any_true {V : Nat → Dec} {k n : Nat} (h : k < n) (h' : true = badD (V k)) : anyB V n = true := by
  unfold anyB
  rw [List.any_eq_true]
  exact ⟨k, by simpa using h, h'.symm⟩

theorem said_err {a : Addr} {b : Bool} (h : b = true) : Said (.iface 47 (.pointer (some a))) b := .inr ⟨⟨_, rfl⟩, h⟩

set_option maxRecDepth 100000 in
set_option maxHeartbeats 3200000 in
theorem check_any (F : Interp) (id nodes bp bc par hops vote ap ac : Int) (X n : Nat) (V : Nat → Dec) (w : World) (hF : F.answers w.tape) (hn : n ≤ 1048576) (hc : ∀ i, i < n → Cells4 w X (i * 4) (V i)) :
    Calls Ybaf.prog 5 #[.agg #[.int .i64 id, .int .i64 nodes, .bool false, .int .i64 0, .int .i64 0, .int .i64 0, .int .i64 0, .bool false, .int .u64 0], .agg #[.int .i64 bp, .int .i64 bc, .int .i64 par, .int .i64 hops, .int .i64 vote, .int .i64 ap, .int .i64 ac, .slice (some ⟨X, 0, none⟩) n n]] w
      fun e w' => ∃ v, e = .returned v ∧ Fr [] w w' ∧ Said v (headB id nodes bp bc par hops vote ap ac || anyB V n) := by
  have hS := CS.start w id nodes bp bc par hops vote ap ac X n V hc
  clear hc
  go_enter Ybaf.func5, Ybaf.ntmps5
  go_wp2_with fail
  generalize ((w.alloc _).alloc _).alloc _ = W0 at hS ⊢
  obtain ⟨C, hC⟩ : ∃ C, C = w.heap.size := ⟨_, rfl⟩
  obtain ⟨S, hSS⟩ : ∃ S, S = w.heap.size + 1 := ⟨_, rfl⟩
  obtain ⟨Z, hZ⟩ : ∃ Z, Z = w.heap.size + 1 + 1 := ⟨_, rfl⟩
  rw [← hZ, ← hSS, ← hC] at hS ⊢
  clear hZ hSS hC
  refine (valid_any bp bc W0).mono ?_
  rintro e w1 ⟨rfl, rfl⟩
  have hS1 := hS.go ((Fr.refl [] W0).alloc (.cells #[.int .i64 bp, .int .i64 bc] 30))
  clear hS
  generalize W0.alloc (.cells #[.int .i64 bp, .int .i64 bc] 30) = W1 at hS1 ⊢
  obtain ⟨s0, s1, s2, s3, s4, s5, s6, s7, c0, c1, z0, z1⟩ := hS1.cells
  have hSl : S < W1.heap.size := lt_of_block hS1.st
  cases hb : okB bp bc with
  | false =>
    have HB := hide_of hb
    clear hb
    go_wp2_with fail
    refine (invalid_any F bp bc ap ac _ (by rw [hS1.fr.tape]; exact hF)).mono ?_
    rintro e w2 ⟨⟨a, rfl⟩, hf2⟩
    go_wp2_with fail
    go_ret
    exact ⟨_, rfl, hS1.fr.trans hf2, said_err (by rw [head1 HB.out]; rfl)⟩
  | true =>
    have HB := hide_of hb
    clear hb
    go_wp2_with fail
    refine (valid_any ap ac W1).mono ?_
    rintro e w1 ⟨rfl, rfl⟩
    have hS2 := hS1.go ((Fr.refl [] W1).alloc (.cells #[.int .i64 ap, .int .i64 ac] 30))
    clear hS1 s0 s1 s2 s3 s4 s5 s6 s7 c0 c1 z0 z1 hSl
    generalize W1.alloc (.cells #[.int .i64 ap, .int .i64 ac] 30) = W2 at hS2 ⊢
    obtain ⟨s0, s1, s2, s3, s4, s5, s6, s7, c0, c1, z0, z1⟩ := hS2.cells
    cases ha : okB ap ac with
    | false =>
      have HA := hide_of ha
      clear ha
      go_wp2_with fail
      refine (invalid_any F bp bc ap ac _ (by rw [hS2.fr.tape]; exact hF)).mono ?_
      rintro e w2 ⟨⟨a, rfl⟩, hf2⟩
      go_wp2_with fail
      go_ret
      exact ⟨_, rfl, hS2.fr.trans hf2, said_err (by rw [head1' HA.out]; rfl)⟩
    | true =>
      have HA := hide_of ha
      clear ha
      go_upto_region 5 with fail
      go_cut [22] from 23 to 36 (fun v w' => ∃ t, v = .bool t ∧ Hid (t = bad2 bp bc par hops) ∧ w' = W2)
      case first =>
        by_cases q1 : bp = 0
        · have r1 := eq_true q1
          have B1 : Hid ((bp == 0) = true) := by unfold Hid; simpa using q1
          clear q1
          by_cases q2 : bc = 0
          · have r2 := eq_true q2
            have B2 : Hid ((bc == 0) = true) := by unfold Hid; simpa using q2
            clear q2
            cases p1 : (par != 0)
            · go_wp2_with fail
              go_meet
              case rel => exact ⟨_, rfl, by unfold Hid bad2 zB; rw [B1.out, B2.out, p1]; rfl, rfl⟩
            · go_wp2_with fail
              go_meet
              case rel => exact ⟨_, rfl, by unfold Hid bad2 zB; rw [B1.out, B2.out, p1]; rfl, rfl⟩
          · have B2 : Hid ((bc == 0) = false) := by unfold Hid; simpa using q2
            go_wp2_with fail
            go_meet
            case rel => exact ⟨_, rfl, by unfold Hid bad2 zB; rw [B1.out, B2.out]; rfl, rfl⟩
        · have B1 : Hid ((bp == 0) = false) := by unfold Hid; simpa using q1
          go_wp2_with fail
          go_meet
          case rel => exact ⟨_, rfl, by unfold Hid bad2 zB; rw [B1.out]; rfl, rfl⟩
      case rest =>
        obtain ⟨t2, rfl, H2, hw⟩ := hcut
        rw [hw]
        clear hw
        cases t2 with
        | true =>
          have hF' := answers_open (show F.answers W2.tape by rw [hS2.fr.tape]; exact hF)
          go_wp2
          go_ret
          exact ⟨_, rfl, hS2.fr.trans (by repeat (first | exact Fr.refl _ _ | apply Fr.alloc | apply Fr.drew)), said_err (by rw [head2 H2.out]; rfl)⟩
        | false =>
          go_upto_region 7 with fail
          go_cut [45] from 46 to 69 (fun v w' => ∃ t, v = .bool t ∧ Hid (t = bad3 id bp bc par hops) ∧ w' = W2)
          case first =>
            by_cases q1 : bp = 0
            · have r1 := eq_true q1
              have B1 : Hid ((bp == 0) = true) := by unfold Hid; simpa using q1
              clear q1
              by_cases q2 : bc = 0
              · have r2 := eq_true q2
                have B2 : Hid ((bc == 0) = true) := by unfold Hid; simpa using q2
                clear q2
                go_wp2_with fail
                go_meet
                case rel => exact ⟨_, rfl, by unfold Hid bad3 zB; rw [B1.out, B2.out]; rfl, rfl⟩
              · have B2 : Hid ((bc == 0) = false) := by unfold Hid; simpa using q2
                cases p1 : (par == id)
                · go_wp2_with fail
                  go_meet
                  case rel => exact ⟨_, rfl, by unfold Hid bad3 zB; rw [B1.out, B2.out, p1]; rfl, rfl⟩
                · cases p2 : (hops != 0)
                  · go_wp2_with fail
                    go_meet
                    case rel => exact ⟨_, rfl, by unfold Hid bad3 zB; rw [B1.out, B2.out, p1, p2]; rfl, rfl⟩
                  · go_wp2_with fail
                    go_meet
                    case rel => exact ⟨_, rfl, by unfold Hid bad3 zB; rw [B1.out, B2.out, p1, p2]; rfl, rfl⟩
            · have B1 : Hid ((bp == 0) = false) := by unfold Hid; simpa using q1
              cases p1 : (par == id)
              · go_wp2_with fail
                go_meet
                case rel => exact ⟨_, rfl, by unfold Hid bad3 zB; rw [B1.out, p1]; rfl, rfl⟩
              · cases p2 : (hops != 0)
                · go_wp2_with fail
                  go_meet
                  case rel => exact ⟨_, rfl, by unfold Hid bad3 zB; rw [B1.out, p1, p2]; rfl, rfl⟩
                · go_wp2_with fail
                  go_meet
                  case rel => exact ⟨_, rfl, by unfold Hid bad3 zB; rw [B1.out, p1, p2]; rfl, rfl⟩
          case rest =>
            obtain ⟨t3, rfl, H3, hw⟩ := hcut
            rw [hw]
            clear hw
            cases t3 with
            | true =>
              have hF' := answers_open (show F.answers W2.tape by rw [hS2.fr.tape]; exact hF)
              go_wp2
              go_ret
              exact ⟨_, rfl, hS2.fr.trans (by repeat (first | exact Fr.refl _ _ | apply Fr.alloc | apply Fr.drew)), said_err (by rw [head3 H3.out]; rfl)⟩
            | false =>
              go_upto_region 8 with fail
              go_cut [45] from 70 to 97 (fun v w' => ∃ t, v = .bool t ∧ Hid (t = bad4 id nodes bp bc par hops) ∧ w' = W2)
              case first =>
                by_cases q1 : bp = 0
                · have r1 := eq_true q1
                  have B1 : Hid ((bp == 0) = true) := by unfold Hid; simpa using q1
                  clear q1
                  by_cases q2 : bc = 0
                  · have r2 := eq_true q2
                    have B2 : Hid ((bc == 0) = true) := by unfold Hid; simpa using q2
                    clear q2
                    go_wp2_with fail
                    go_meet
                    case rel => exact ⟨_, rfl, by unfold Hid bad4 zB; rw [B1.out, B2.out]; rfl, rfl⟩
                  · have B2 : Hid ((bc == 0) = false) := by unfold Hid; simpa using q2
                    cases p1 : (par != id)
                    · go_wp2_with fail
                      go_meet
                      case rel => exact ⟨_, rfl, by unfold Hid bad4 zB; rw [B1.out, B2.out, p1]; rfl, rfl⟩
                    · cases p2 : decide (par < 1)
                      · cases p3 : decide (hops < 1)
                        · go_wp2_with fail
                          go_meet
                          case rel => exact ⟨_, rfl, by unfold Hid bad4 zB; rw [B1.out, B2.out, p1, p2, p3]; rfl, rfl⟩
                        · go_wp2_with fail
                          go_meet
                          case rel => exact ⟨_, rfl, by unfold Hid bad4 zB; rw [B1.out, B2.out, p1, p2, p3]; rfl, rfl⟩
                      · go_wp2_with fail
                        go_meet
                        case rel => exact ⟨_, rfl, by unfold Hid bad4 zB; rw [B1.out, B2.out, p1, p2]; rfl, rfl⟩
                · have B1 : Hid ((bp == 0) = false) := by unfold Hid; simpa using q1
                  cases p1 : (par != id)
                  · go_wp2_with fail
                    go_meet
                    case rel => exact ⟨_, rfl, by unfold Hid bad4 zB; rw [B1.out, p1]; rfl, rfl⟩
                  · cases p2 : decide (par < 1)
                    · cases p3 : decide (hops < 1)
                      · go_wp2_with fail
                        go_meet
                        case rel => exact ⟨_, rfl, by unfold Hid bad4 zB; rw [B1.out, p1, p2, p3]; rfl, rfl⟩
                      · go_wp2_with fail
                        go_meet
                        case rel => exact ⟨_, rfl, by unfold Hid bad4 zB; rw [B1.out, p1, p2, p3]; rfl, rfl⟩
                    · go_wp2_with fail
                      go_meet
                      case rel => exact ⟨_, rfl, by unfold Hid bad4 zB; rw [B1.out, p1, p2]; rfl, rfl⟩
              case rest =>
                obtain ⟨t4, rfl, H4, hw⟩ := hcut
                rw [hw]
                clear hw
                cases t4 with
                | true =>
                  have hF' := answers_open (show F.answers W2.tape by rw [hS2.fr.tape]; exact hF)
                  go_wp2
                  go_ret
                  exact ⟨_, rfl, hS2.fr.trans (by repeat (first | exact Fr.refl _ _ | apply Fr.alloc | apply Fr.drew)), said_err (by rw [head4 H4.out]; rfl)⟩
                | false =>
                  go_wp2_with fail
                  refine (less_any bp bc ap ac W2).mono ?_
                  rintro e w3 ⟨rfl, hf3⟩
                  have hS3 := hS2.go hf3
                  clear s0 s1 s2 s3 s4 s5 s6 s7 c0 c1 z0 z1 hf3 hS2
                  obtain ⟨s0, s1, s2, s3, s4, s5, s6, s7, c0, c1, z0, z1⟩ := hS3.cells
                  cases hl : lessB bp bc ap ac with
                  | true =>
                    have HL := hide_of hl
                    clear hl
                    have hF' := answers_open (show F.answers w3.tape by rw [hS3.fr.tape]; exact hF)
                    go_wp2
                    go_ret
                    exact ⟨_, rfl, hS3.fr.trans (by repeat (first | exact Fr.refl _ _ | apply Fr.alloc | apply Fr.drew)), said_err (by rw [head5 HL.out]; rfl)⟩
                  | false =>
                    have HL := hide_of hl
                    clear hl
                    go_upto_region 12 with fail
                    go_cut [123] from 124 to 132 (fun v w' => ∃ t, v = .bool t ∧ Hid (t = bad6 ap ac vote) ∧ w' = w3)
                    case first =>
                        by_cases q1 : ap = 0
                        · have r1 := eq_true q1
                          have B1 : Hid ((ap == 0) = true) := by unfold Hid; simpa using q1
                          clear q1
                          by_cases q2 : ac = 0
                          · have r2 := eq_true q2
                            have B2 : Hid ((ac == 0) = true) := by unfold Hid; simpa using q2
                            clear q2
                            go_wp2_with fail
                            go_meet
                            case rel => exact ⟨_, rfl, by unfold Hid bad6 zB; rw [B1.out, B2.out]; rfl, rfl⟩
                          · have B2 : Hid ((ac == 0) = false) := by unfold Hid; simpa using q2
                            go_wp2_with fail
                            go_meet
                            case rel => exact ⟨_, rfl, by unfold Hid bad6 zB; rw [B1.out, B2.out]; rfl, rfl⟩
                        · have B1 : Hid ((ap == 0) = false) := by unfold Hid; simpa using q1
                          go_wp2_with fail
                          go_meet
                          case rel => exact ⟨_, rfl, by unfold Hid bad6 zB; rw [B1.out]; rfl, rfl⟩
                    case rest =>
                      obtain ⟨t6, rfl, H6, hw⟩ := hcut
                      rw [hw]
                      clear hw
                      cases t6 with
                      | true =>
                        have hF' := answers_open (show F.answers w3.tape by rw [hS3.fr.tape]; exact hF)
                        go_wp2
                        go_ret
                        exact ⟨_, rfl, hS3.fr.trans (by repeat (first | exact Fr.refl _ _ | apply Fr.alloc | apply Fr.drew)), said_err (by rw [head6 H6.out]; rfl)⟩
                      | false =>
                        have HD : Hid (headB id nodes bp bc par hops vote ap ac = false) := head0 HB.out HA.out H2.out H3.out H4.out HL.out H6.out
                        clear HB HA H2 H3 H4 HL H6
                        go_wp2_with fail
                        clear s0 s1 s2 s3 s4 s5 s6 s7 c0 c1 z0 z1
                        go_loopw [141] (fun i wr => ∃ k : Nat, k ≤ n ∧ i = .int .i64 k ∧ CS w C S Z id nodes bp bc par hops vote ap ac X n V wr ∧ Hid (anyB V k = false)) (fun i _ => n - (intOf i).toNat)
                        case atStart => exact ⟨0, Nat.zero_le _, rfl, hS3, rfl⟩
                        case round =>
                          clear hS3
                          obtain ⟨k, hk, rfl, hS4, HK⟩ := hrel
                          by_cases hlt : k < n
                          · obtain ⟨d0, d1, d2, d3⟩ := hS4.hc k hlt
                            go_upto_region 17 with fail
                            have hS5 := hS4.go ((Fr.refl [] wr).alloc (.cells #[.int .i64 (V k).v, .int .i64 (V k).p, .int .i64 (V k).c, .int .i64 (V k).t] 32))
                            have hb5 := blk_new wr (.cells #[.int .i64 (V k).v, .int .i64 (V k).p, .int .i64 (V k).c, .int .i64 (V k).t] 32)
                            obtain ⟨G, hG⟩ : ∃ G, G = wr.heap.size := ⟨_, rfl⟩
                            rw [← hG] at hb5 ⊢
                            generalize wr.alloc (.cells #[.int .i64 (V k).v, .int .i64 (V k).p, .int .i64 (V k).c, .int .i64 (V k).t] 32) = W5 at hS5 hb5 ⊢
                            clear hS4 hG d0 d1 d2 d3
                            have g0 : W5.cell? ⟨G, 0, none⟩ = some (.int .i64 (V k).v) := cell_of_blk hb5 rfl
                            have g1 : W5.cell? ⟨G, 1, none⟩ = some (.int .i64 (V k).p) := cell_of_blk hb5 rfl
                            have g2 : W5.cell? ⟨G, 2, none⟩ = some (.int .i64 (V k).c) := cell_of_blk hb5 rfl
                            have g3 : W5.cell? ⟨G, 3, none⟩ = some (.int .i64 (V k).t) := cell_of_blk hb5 rfl
                            obtain ⟨_, _, _, _, _, _, _, _, _, _, z0, z1⟩ := hS5.cells
                            have hGl : G < W5.heap.size := lt_of_block hb5
                            go_cut [160] from 146 to 160 (fun v w' => ∃ t, v = .bool t ∧ Hid (t = badD (V k)) ∧ Fr [] W5 w')
                            case first =>
                                  by_cases q1 : (V k).p = 0
                                  · have r1 := eq_true q1
                                    have B1 : Hid (((V k).p == 0) = true) := by unfold Hid; simpa using q1
                                    clear q1
                                    by_cases q2 : (V k).c = 0
                                    · have r2 := eq_true q2
                                      have B2 : Hid (((V k).c == 0) = true) := by unfold Hid; simpa using q2
                                      clear q2
                                      go_wp2_with fail
                                      go_meet
                                      case rel => exact ⟨_, rfl, (badD_z B1.out).symm, Fr.refl _ _⟩
                                    · have B2 : Hid (((V k).c == 0) = false) := by unfold Hid; simpa using q2
                                      go_wp2_with fail
                                      refine (valid_any (V k).p (V k).c _).mono ?_
                                      rintro e w6 ⟨rfl, rfl⟩
                                      cases ho : okB (V k).p (V k).c with
                                      | false =>
                                        have HO := hide_of ho
                                        clear ho
                                        go_wp2_with fail
                                        go_meet
                                        case rel => exact ⟨_, rfl, (badD_f HO.out).symm, (Fr.refl _ _).alloc _⟩
                                      | true =>
                                        have HO := hide_of ho
                                        clear ho
                                        go_wp2_with fail
                                        go_meet
                                        case rel => exact ⟨_, rfl, (badD_t HO.out (by unfold zB; rw [B1.out, B2.out]; rfl)).symm, (Fr.refl _ _).alloc _⟩
                                  · have B1 : Hid (((V k).p == 0) = false) := by unfold Hid; simpa using q1
                                    go_wp2_with fail
                                    refine (valid_any (V k).p (V k).c _).mono ?_
                                    rintro e w6 ⟨rfl, rfl⟩
                                    cases ho : okB (V k).p (V k).c with
                                    | false =>
                                      have HO := hide_of ho
                                      clear ho
                                      go_wp2_with fail
                                      go_meet
                                      case rel => exact ⟨_, rfl, (badD_f HO.out).symm, (Fr.refl _ _).alloc _⟩
                                    | true =>
                                      have HO := hide_of ho
                                      clear ho
                                      go_wp2_with fail
                                      go_meet
                                      case rel => exact ⟨_, rfl, (badD_t HO.out (by unfold zB; rw [B1.out]; rfl)).symm, (Fr.refl _ _).alloc _⟩
                            case rest =>
                              obtain ⟨t7, rfl, H7, hf6⟩ := hcut
                              have hS6 := hS5.go hf6
                              have hb6 := hf6.block hb5 (by simp)
                              clear g0 g1 g2 g3 z0 z1 hS5 hb5 hGl hf6
                              have g0 : wc.cell? ⟨G, 0, none⟩ = some (.int .i64 (V k).v) := cell_of_blk hb6 rfl
                              have g1 : wc.cell? ⟨G, 1, none⟩ = some (.int .i64 (V k).p) := cell_of_blk hb6 rfl
                              have g2 : wc.cell? ⟨G, 2, none⟩ = some (.int .i64 (V k).c) := cell_of_blk hb6 rfl
                              have g3 : wc.cell? ⟨G, 3, none⟩ = some (.int .i64 (V k).t) := cell_of_blk hb6 rfl
                              have hGl : G < wc.heap.size := lt_of_block hb6
                              cases t7 with
                              | true =>
                                have hF' := answers_open (show F.answers wc.tape by rw [hS6.fr.tape]; exact hF)
                                go_wp2
                                go_ret
                                exact ⟨_, rfl, hS6.fr.trans (by repeat (first | exact Fr.refl _ _ | apply Fr.alloc | apply Fr.drew)), said_err (by rw [any_true hlt H7.out, Bool.or_true])⟩
                              | false =>
                                go_wp2_with fail
                                go_roundw
                                case rel => exact ⟨k + 1, by omega, by go_num, hS6, any_succ HK.out H7.out⟩
                                case measure => simp [intOf]; omega
                          · obtain rfl : n = k := by omega
                            go_wp2_with fail
                            go_ret
                            exact ⟨_, rfl, hS4.fr, .inl ⟨rfl, by rw [HD.out, HK.out]; rfl⟩⟩
end Go.Proofs.YbulkhdngFmt
