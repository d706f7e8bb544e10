import Derived.Test.YbulkhbweParts
import Derived.Laws.CopyOwn
import Derived.Deep.DeepCutAuto
namespace Go.Proofs.Ybulkhbwe
open Go.RowKit

theorem Yba.info2 : (Yba.prog.info? 2).map (fun i => (i.zero, i.size, i.bytes)) = some (some (.int .i64 0), 1, 8) := by kernel_rfl

def NilLen (a : Option Addr) (len : Nat) : Prop := a = none → len = 0

theorem lt_cell {w : World} {a : Addr} {v : Value} (h : w.cell? a = some v) : a.block < w.heap.size := by
  rcases Nat.lt_or_ge a.block w.heap.size with h' | h'
  · exact h'
  · unfold World.cell? at h
    simp [Array.getElem?_eq_none h'] at h

theorem Rd.below {w w' : World} {a : Option Addr} {len : Nat} {zs : List Int} (h : Rd w a len zs) (hb : Below w.heap.size w w') : Rd w' a len zs := by
  refine ⟨h.1, fun h0 => ?_⟩
  obtain ⟨b, o, ha, hc⟩ := h.2 h0
  refine ⟨b, o, ha, fun i hi => ?_⟩
  have := hc i hi
  rw [hb.cell (p := ⟨b, o + i, none⟩) (lt_cell this)]
  exact this

theorem made_block {w : World} {base e g n : Nat} {xs : List Value} (h : w.ownsRow base e 1 (.slice (some ⟨g, 0, none⟩) n n) n xs) :
    ∃ cur : List Value, w.heap[g]? = some (.cells cur.toArray e (0, 0)) ∧ cur.length = n := by
  obtain ⟨_, h2⟩ := h
  rcases h2 with ⟨h2, _⟩ | ⟨g', cap, cur, hv, hg, hh, r1, r2, r3, r4⟩
  · simp at h2
  · simp at hv
    obtain ⟨rfl, rfl⟩ := hv
    exact ⟨cur.toList, by simpa using hh, by simpa using r3⟩

theorem copy_pos {w w1 : World} {a : Option Addr} {len : Nat} {zs : List Int} (g : Nat) (h : Rd w a len zs) (hb : Below w.heap.size w w1) :
    0 < (zs.map (Value.int .i64)).length → some (⟨g, 0, none⟩ : Addr) = some ⟨g, 0, none⟩ ∧ ∃ ad, a = some ad ∧ ∀ j v, (zs.map (Value.int .i64))[j]? = some v → w1.cell? (ad.add j) = some v := by
  intro h0
  obtain ⟨hz, hp⟩ := h.below hb
  obtain ⟨b, o, ha, hc⟩ := hp (by simpa [hz] using h0)
  refine ⟨rfl, _, ha, fun j v hj => ?_⟩
  have hjl : j < zs.length := by
    rcases Nat.lt_or_ge j zs.length with h' | h'
    · exact h'
    · simp [h'] at hj
  rw [show (⟨b, o, none⟩ : Addr).add j = ⟨b, o + j, none⟩ from by simp [Addr.add], hc j (by omega)]
  simp [List.getElem?_eq_getElem hjl] at hj
  simp [List.getElem?_eq_getElem hjl, hj]

theorem copied {w : World} {g len : Nat} {cur : List Value} {zs : List Int} (hl : cur.length = len) (hz : zs.length = len)
    (h : w.heap[g]? = some (.cells (splice cur 0 (zs.map (Value.int .i64))).toArray 2 (0, 0))) : Rd w (some ⟨g, 0, none⟩) len zs := by
  refine ⟨hz, fun _ => ⟨g, 0, rfl, fun i hi => ?_⟩⟩
  have hiz : i < zs.length := by omega
  simp [World.cell?, h, splice, hl, hz, hi]

theorem one_ints (zs : List Int) : ∀ v ∈ zs.map (Value.int .i64), v.oneCell' = true := by
  intro v hv
  simp at hv
  obtain ⟨a, _, rfl⟩ := hv
  rfl

def U (zs : List Int) : Int := sumI zs % 18446744073709551616

theorem U_step (zs : List Int) (n : Nat) (h : n < zs.length) : IntKind.u64.wrap (U (zs.drop (n + 1)) + IntKind.u64.wrap (zs[n]?.getD 0)) = U (zs.drop n) := by
  rw [IntKind.wrap_u64, IntKind.wrap_u64]
  unfold U
  rw [List.drop_eq_getElem_cons h]
  simp only [sumI, List.getElem?_eq_getElem h, Option.getD_some]
  omega

theorem S_U (zs : List Int) : wrap64 (U zs) = S zs := by
  unfold U S wrap64
  omega

theorem drew_below (w : World) (n : Nat) : Below w.heap.size w (w.drewN n) := ⟨rfl, rfl, rfl, Nat.le_refl _, fun _ _ => rfl⟩

set_option maxHeartbeats 400000 in
theorem law_walk (a0 : ByteArray) (a1 a2 : Option Addr) (len1 cap1 len2 cap2 : Nat) (z1 z2 : List Int) (w : World) (hs : len2 + len1 ≤ 1048576)
    (n1 : a1 = none → len1 = 0) (n2 : a2 = none → len2 = 0)
    (r1 : Rd w a1 len1 z1) (r2 : Rd w a2 len2 z2) :
    Calls Yba.prog 3 #[.string a0, .slice a1 len1 cap1, .slice a2 len2 cap2] w fun e w' => e = .returned (.bool true) ∧ Below w.heap.size w w' := by
  have hq := @run_neq_slice_nil_any Yba.prog
  obtain ⟨i0, hi, hz0, hz1, hz2⟩ := info_parts Yba.info2
  have hm1 : i0.bytes * len1 ≤ 281474976710656 := by rw [hz2]; omega
  have hm2 : i0.bytes * len2 ≤ 281474976710656 := by rw [hz2]; omega
  have hx1 : len1 ≤ maxLen := by unfold maxLen; omega
  have hx2 : len2 ≤ maxLen := by unfold maxLen; omega
  have N1 : NilLen a1 len1 := n1
  have N2 : NilLen a2 len2 := n2
  clear n1 n2
  go_enter Yba.func3, Yba.ntmps3
  go_upto_if 20 with fail
  go_cut [7] (fun v w' => ∃ ab c, v = .slice ab len1 c ∧ ab.isNone = a1.isNone ∧ Rd w' ab len1 z1 ∧ Below w.heap.size w w')
  case first =>
    rcases a1 with _ | x1
    · go_wp2
      go_meet
      case rel => exact ⟨none, 0, by rw [N1 rfl], rfl, r1, Below.refl _ _⟩
    · go_wp2_with (first | (at_make; refine wpList_make_full _ rfl (.tmp 22) (.tmp 22) 22 rfl w.heap.size 2 i0 (.int .i64 0) 1 Yba.underlying22 hi hz0 hz1 .i64 .i64 _ _ len1 rfl rfl rfl rfl hm1 hx1 (Nat.le_refl _) ?_; intro w1 hown hgrow; have hb1 := (Below.refl w.heap.size w).grown hgrow (Nat.le_refl _) (fun k hk => by cases hk); obtain ⟨cur, hcur, hlen⟩ := made_block hown; have Hcur : Hid (w1.heap[w.heap.size]? = some (.cells cur.toArray 2 (0, 0))) := hcur; clear hcur hown hgrow) | (have _t := Hcur; refine wpList_copy_splice rfl (.tmp 24) (.tmp 25) 22 22 rfl 2 Yba.underlying22 (by kernel_rfl) _ _ _ _ _ _ rfl rfl w.heap.size 0 cur 2 Hcur.out (z1.map (Value.int .i64)) (by simp [r1.1]) (copy_pos _ r1 hb1) (by simp [hlen, r1.1]) (one_ints _) w.heap.size w hb1 (Nat.le_refl _) ?_; intro w2 HG2 hB2; clear Hcur))
      go_meet
      case rel => exact ⟨some ⟨w.heap.size, 0, none⟩, len1, rfl, rfl, copied hlen r1.1 HG2.out, hB2⟩
  case rest =>
    obtain ⟨ab, cb, rfl, hab, rb, hbw⟩ := hcut
    have r2c : Rd wc a2 len2 z2 := r2.below hbw
    go_upto_if 28 with fail
    obtain ⟨W, hW⟩ : ∃ W, W = wc := ⟨_, rfl⟩
    rw [← hW] at rb hbw r2c ⊢
    clear hW
    go_cut [8] (fun v w' => ∃ ab c, v = .slice ab len2 c ∧ ab.isNone = a2.isNone ∧ Rd w' ab len2 z2 ∧ Below W.heap.size W w')
    case first =>
      rcases a2 with _ | x2
      · go_wp2
        go_meet
        case rel => exact ⟨none, 0, by rw [N2 rfl], rfl, r2c, Below.refl _ _⟩
      · go_wp2_with (first | (at_make; refine wpList_make_full _ rfl (.tmp 30) (.tmp 30) 22 rfl W.heap.size 2 i0 (.int .i64 0) 1 Yba.underlying22 hi hz0 hz1 .i64 .i64 _ _ len2 rfl rfl rfl rfl hm2 hx2 (Nat.le_refl _) ?_; intro w1 hown hgrow; have hb1 := (Below.refl W.heap.size W).grown hgrow (Nat.le_refl _) (fun k hk => by cases hk); obtain ⟨cur, hcur, hlen⟩ := made_block hown; have Hcur : Hid (w1.heap[W.heap.size]? = some (.cells cur.toArray 2 (0, 0))) := hcur; clear hcur hown hgrow) | (have _t := Hcur; refine wpList_copy_splice rfl (.tmp 32) (.tmp 33) 22 22 rfl 2 Yba.underlying22 (by kernel_rfl) _ _ _ _ _ _ rfl rfl W.heap.size 0 cur 2 Hcur.out (z2.map (Value.int .i64)) (by simp [r2c.1]) (copy_pos _ r2c hb1) (by simp [hlen, r2c.1]) (one_ints _) W.heap.size W hb1 (Nat.le_refl _) ?_; intro w2 HG2 hB2; clear Hcur))
        go_meet
        case rel => exact ⟨some ⟨W.heap.size, 0, none⟩, len2, rfl, rfl, copied hlen r2c.1 HG2.out, hB2⟩
    case rest =>
      obtain ⟨ac, cc, rfl, hac, rc, hcw⟩ := hcut
      have rb' := rb.below hcw
      have hww : Below w.heap.size w wc := hbw.trans (hcw.mono hbw.size)
      clear rb hbw hcw r2c hm1 hm2 hx1 hx2 hi hz0 hz1 hz2
      go_wp2_with fail
      have hal : Below wc.heap.size wc (wc.alloc (Obj.cells #[Value.string a0, Value.slice ab len1 cb, Value.slice ac len2 cc] 25)) := (Below.refl _ _).alloc (Nat.le_refl _) _
      have rcX := rc.below hal
      have rbX := rb'.below hal
      have r1X := (r1.below hww).below hal
      have r2X := (r2.below hww).below hal
      have hwX : Below w.heap.size w (wc.alloc (Obj.cells #[Value.string a0, Value.slice ab len1 cb, Value.slice ac len2 cc] 25)) := hww.alloc hww.size _
      clear rc rb' hww hal
      refine (count_any wc.heap.size len2 cc ac z2 _ (by omega) (by simp) rcX).mono ?_
      rintro e w' ⟨rfl, rfl⟩
      go_wp2_with fail
      go_loop [11, 12] (fun u i => ∃ j : Int, -1 ≤ j ∧ j < len2 ∧ i = .int .i64 j ∧ u = .int .u64 (U (z2.drop (j + 1).toNat))) (fun _ i => (intOf i + 1).toNat)
      case atStart => exact ⟨(len2 : Int) - 1, by omega, by omega, rfl, by rw [show ((len2 : Int) - 1 + 1).toNat = len2 from by omega, List.drop_of_length_le (by have := r2.1; omega)]; rfl⟩
      case round =>
        obtain ⟨j, hj0, hj1, rfl, rfl⟩ := hrel
        by_cases hj : 0 ≤ j
        · obtain ⟨b, o, ha2, hc⟩ := r2X.2 (by omega)
          subst ha2
          obtain ⟨n, rfl⟩ := Int.eq_ofNat_of_zero_le hj
          have hcn := hc n (by omega)
          clear hc
          have hU : Hid (IntKind.u64.wrap (U (z2.drop (n + 1)) + IntKind.u64.wrap (z2[n]?.getD 0)) = U (z2.drop n)) := U_step z2 n (by have := r2.1; omega)
          go_wp2
          go_round
          case rel => exact ⟨(n : Int) - 1, by omega, by omega, rfl, by rw [show ((n : Int) - 1 + 1).toNat = n from by omega, hU.out]⟩
          case measure => simp [intOf]
        · have hSU : (S z2 != wrap64 (U (z2.drop (j + 1).toNat))) = false := by
            rw [show (j + 1).toNat = 0 from by omega, List.drop_zero, S_U]; simp
          go_wp2_with fail
          refine (eq_any ab a1 len1 cb cap1 z1 _ (by omega) (by rw [hab]; simp) rbX r1X).mono ?_
          rintro e w' ⟨rfl, n1, rfl⟩
          go_wp2_with fail
          refine (eq_any ac a2 len2 cc cap2 z2 _ (by omega) (by rw [hac]; simp) (rcX.below (drew_below _ _)) (r2X.below (drew_below _ _))).mono ?_
          rintro e w' ⟨rfl, n2, rfl⟩
          go_wp2_with fail
          go_ret
          exact ⟨rfl, hwX.trans ((drew_below _ _).mono hwX.size)⟩
end Go.Proofs.Ybulkhbwe
