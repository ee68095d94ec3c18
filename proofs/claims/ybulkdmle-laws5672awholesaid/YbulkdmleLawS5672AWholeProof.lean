/-
  A proof of 'Rows.LawS5672AWholeSaid' (the Go function bayescast.LawS5672AWhole): the walks of the Go text, then the row's step (the frame that the kit's tool wrote for this function).
-/
import Derived.Test.YbulkdmleRows
import Derived.WalkKit
import Derived.ProofKit
import Derived.OpenShut
import Derived.ShutString
import Derived.WalkLawsBesides
namespace Go.Proofs.Ybulkdmle.lawS5672AWhole
open Go.ChangeShapes Go.WideShapes Go.ChangeAt Go.RowKit
open Go.ChangeMaps (open_string shut_string)
set_option linter.unusedVariables false      -- a walk need not use every 'w<i>' (that an integer argument fits its kind)

theorem own : ownKnob Yba.prog.godebug = none := by kernel_rfl

/-! ### bits, plainly; the callees; the law's ways -/
theorem pow_lt (k : Nat) (hk : k < 64) : 2 ^ k < 18446744073709551616 := by
  have h : 2 ^ k < 2 ^ 64 := Nat.pow_lt_pow_right (by omega) hk
  omega
theorem wrap_pow (k : Nat) (hk : k < 64) : IntKind.u64.wrap (2 ^ k) = (2 : Int) ^ k := by
  rw [IntKind.wrap_u64]
  have h := pow_lt k hk
  have e : ((2 : Int) ^ k) = ((2 ^ k : Nat) : Int) := by simp
  rw [e]
  exact Int.emod_eq_of_lt (Int.natCast_nonneg _) (by have := Int.ofNat_lt.2 h; exact this)
theorem and_zero (U k : Nat) (h : U.testBit k = false) : U &&& 2 ^ k = 0 := by
  apply Nat.eq_of_testBit_eq
  intro i
  rw [Nat.testBit_and, Nat.testBit_two_pow, Nat.zero_testBit]
  by_cases hi : k = i
  · subst hi; rw [h]; rfl
  · simp [hi]
theorem and_set (U k : Nat) (h : U.testBit k = true) : ¬ U &&& 2 ^ k = 0 := by
  intro e
  have : (U &&& 2 ^ k).testBit k = true := by rw [Nat.testBit_and, h, Nat.testBit_two_pow]; simp
  rw [e, Nat.zero_testBit] at this
  cases this
theorem or_add (X p U : Nat) (hand : X &&& p = 0) (hor : X ||| p = U) (hle : X + p < 18446744073709551616) : X + p = U := by
  have hb := BitVec.add_eq_or_of_and_eq_zero (BitVec.ofNat 64 X) (BitVec.ofNat 64 p) (by
    apply BitVec.eq_of_toNat_eq
    rw [BitVec.toNat_and, BitVec.toNat_ofNat, BitVec.toNat_ofNat, Nat.mod_eq_of_lt (by omega), Nat.mod_eq_of_lt (by omega), hand]; rfl)
  have hn := congrArg BitVec.toNat hb
  rw [BitVec.toNat_add, BitVec.toNat_or, BitVec.toNat_ofNat, BitVec.toNat_ofNat, Nat.mod_eq_of_lt (a := X) (by omega), Nat.mod_eq_of_lt (a := p) (by omega), Nat.mod_eq_of_lt (by omega), hor] at hn
  exact hn
theorem and_not (U k : Nat) (hU : U < 18446744073709551616) (hk : k < 64) (h : U.testBit k = true) : (U &&& (18446744073709551615 - 2 ^ k)) + 2 ^ k = U := by
  have hp := pow_lt k hk
  have hm : ∀ i, (18446744073709551615 - 2 ^ k).testBit i = (decide (i < 64) && !(2 ^ k).testBit i) := by
    intro i
    have hs := Nat.testBit_two_pow_sub_succ (x := 2 ^ k) (n := 64) (by omega) i
    rw [← hs]
    congr 1
    omega
  have hor : (U &&& (18446744073709551615 - 2 ^ k)) ||| 2 ^ k = U := by
    apply Nat.eq_of_testBit_eq
    intro i
    rw [Nat.testBit_or, Nat.testBit_and, hm, Nat.testBit_two_pow]
    by_cases hi : k = i
    · subst hi; rw [h]; simp
    · by_cases hi64 : i < 64
      · simp [hi, hi64]
      · have hz : U.testBit i = false := by
          apply Nat.testBit_lt_two_pow
          have : 2 ^ 64 ≤ 2 ^ i := Nat.pow_le_pow_right (by omega) (by omega)
          omega
        rw [hz]; simp [hi]
  have hand : (U &&& (18446744073709551615 - 2 ^ k)) &&& 2 ^ k = 0 := by
    apply and_zero
    rw [Nat.testBit_and, hm, Nat.testBit_two_pow]; simp
  have hle : (U &&& (18446744073709551615 - 2 ^ k)) ≤ 18446744073709551615 - 2 ^ k := Nat.and_le_right
  exact or_add _ (2 ^ k) U hand hor (by omega)
theorem cast_pow (k : Nat) : ((2 : Int) ^ k) = ((2 ^ k : Nat) : Int) := by simp
theorem bit_zero (U k : Nat) (hU : U < 18446744073709551616) (hk : k < 64) (h : U.testBit k = false) : (bits .and .u64 (U : Int) (2 ^ k) == 0) = true := by
  rw [cast_pow, u64_and_nat U (2 ^ k) hU (pow_lt k hk), and_zero U k h]; rfl
theorem bit_set (U k : Nat) (hU : U < 18446744073709551616) (hk : k < 64) (h : U.testBit k = true) : (bits .and .u64 (U : Int) (2 ^ k) == 0) = false := by
  rw [cast_pow, u64_and_nat U (2 ^ k) hU (pow_lt k hk)]
  have := and_set U k h
  simp only [beq_eq_false_iff_ne]
  omega
theorem bit_not (U k : Nat) (hU : U < 18446744073709551616) (hk : k < 64) (h : U.testBit k = true) : bits .andNot .u64 (U : Int) (2 ^ k) = (U : Int) - 2 ^ k := by
  rw [cast_pow, u64_andNot_nat U (2 ^ k) hU (pow_lt k hk)]
  have := and_not U k hU hk h
  omega
theorem and_none (U : Nat) (hU : U < 18446744073709551616) : (bits .and .u64 (U : Int) 0 == 0) = true := by
  have h := u64_and_nat U 0 hU (by omega)
  rw [Nat.and_zero] at h
  have h' : bits .and .u64 (U : Int) 0 = 0 := h
  rw [h']; rfl
theorem shr_bit (U k : Nat) (hU : U < 18446744073709551616) : (bits .and .u64 ((U : Int) / 2 ^ k) 1 == 1) = U.testBit k := by
  have h := u64_and_nat (U / 2 ^ k) 1 (Nat.lt_of_le_of_lt (Nat.div_le_self _ _) hU) (by omega)
  rw [Nat.and_one_is_mod] at h
  have e : ((U / 2 ^ k : Nat) : Int) = (U : Int) / 2 ^ k := by rw [Int.natCast_ediv, cast_pow]
  rw [e] at h
  have h' : bits .and .u64 ((U : Int) / 2 ^ k) 1 = ((U / 2 ^ k % 2 : Nat) : Int) := h
  rw [h', Nat.testBit_eq_decide_div_mod_eq]
  rcases Nat.mod_two_eq_zero_or_one (U / 2 ^ k) with e0 | e0 <;> rw [e0] <;> rfl
theorem pow_le_of_bit (U k : Nat) (h : U.testBit k = true) : (2 : Int) ^ k ≤ (U : Int) := by
  have := Nat.ge_two_pow_of_testBit h
  rw [cast_pow]
  exact Int.ofNat_le.2 this
theorem pow_pos' (k : Nat) : (1 : Int) ≤ (2 : Int) ^ k := by
  rw [cast_pow]
  have := Nat.two_pow_pos k
  exact Int.ofNat_le.2 this
theorem pow_dbl (j : Nat) (hj : j + 1 < 64) : IntKind.u64.wrap (2 ^ j * 2) = (2 : Int) ^ (j + 1) := by
  rw [← wrap_pow (j + 1) hj, Int.pow_succ]
theorem wb_in (k : Nat) (hk : k < 64) (w : World) :
    Calls Yba.prog 13 #[.int .u64 ((k : Int) + 1)] w fun e w' => e = .returned (.int .u64 (2 ^ k)) ∧ w' = w := by
  have h0 : (((k : Int) + 1) == 0) = false := by simp; omega
  have h1 : ¬ 64 < (k : Int) + 1 := by omega
  go_enter Yba.func13, Yba.ntmps13
  go_wp2
  rw [wrap_pow k hk]
  go_ret
  exact ⟨rfl, rfl⟩
theorem wb_out (b : Int) (hb : b = 0 ∨ 64 < b) (w : World) :
    Calls Yba.prog 13 #[.int .u64 b] w fun e w' => e = .returned (.int .u64 0) ∧ w' = w := by
  rcases hb with rfl | hb
  · go_enter Yba.func13, Yba.ntmps13
    go_wp2
    go_ret
    exact ⟨rfl, rfl⟩
  · have h0 : (b == 0) = false := by simp; omega
    go_enter Yba.func13, Yba.ntmps13
    go_wp2
    go_ret
    exact ⟨rfl, rfl⟩
theorem hear_none (w : World) (u b bit : Int) (B : Nat) (c0 : w.cell? ⟨B, 0, none⟩ = some (.int .u64 u)) (hz : (bits .and .u64 u bit == 0) = true)
    (hw : ∀ w, Calls Yba.prog 13 #[.int .u64 b] w fun e w' => e = .returned (.int .u64 bit) ∧ w' = w) :
    Calls Yba.prog 5 #[.pointer (some ⟨B, 0, none⟩), .int .u64 b] w fun e w' => e = .returned (.tuple #[.int .i64 0, .int .i64 0]) ∧ w' = w := by
  have H : Hid (∀ w, Calls Yba.prog 13 #[.int .u64 b] w fun e w' => e = .returned (.int .u64 bit) ∧ w' = w) := hw
  clear hw
  go_enter Yba.func5, Yba.ntmps5
  go_wp2_with (go_at_call 13; refine (H.out _).mono ?_; rintro e w' ⟨rfl, rfl⟩)
  go_ret2
  exact ⟨rfl, rfl⟩
theorem hear_some (w : World) (u l b bit : Int) (B : Nat) (lost : Bool)
    (c0 : w.cell? ⟨B, 0, none⟩ = some (.int .u64 u)) (c1 : w.cell? ⟨B, 1, none⟩ = some (.int .u64 l)) (f0 : w.frozen? ⟨B, 0, none⟩ = false)
    (hz : (bits .and .u64 u bit == 0) = false) (hl : (bits .and .u64 l bit == 0) = !lost)
    (hw : ∀ w, Calls Yba.prog 13 #[.int .u64 b] w fun e w' => e = .returned (.int .u64 bit) ∧ w' = w) :
    Calls Yba.prog 5 #[.pointer (some ⟨B, 0, none⟩), .int .u64 b] w fun e w' => e = .returned (.tuple #[.int .i64 (if lost then -1 else 0), .int .i64 1]) ∧ w' = w.setCell ⟨B, 0, none⟩ (.int .u64 (bits .andNot .u64 u bit)) := by
  have H : Hid (∀ w, Calls Yba.prog 13 #[.int .u64 b] w fun e w' => e = .returned (.int .u64 bit) ∧ w' = w) := hw
  clear hw
  cases lost
  · simp only [Bool.not_false] at hl
    go_enter Yba.func5, Yba.ntmps5
    go_wp2_with (go_at_call 13; refine (H.out _).mono ?_; rintro e w' ⟨rfl, rfl⟩)
    go_ret2
    exact ⟨rfl, rfl⟩
  · simp only [Bool.not_true] at hl
    go_enter Yba.func5, Yba.ntmps5
    go_wp2_with (go_at_call 13; refine (H.out _).mono ?_; rintro e w' ⟨rfl, rfl⟩)
    go_ret2
    exact ⟨rfl, rfl⟩

set_option maxHeartbeats 400000 in
theorem walk_out (U L : Nat) (a2 : Int) (hU : U < 18446744073709551616) (h : a2 = 0 ∨ 64 < a2) (w : World) :
    Calls Yba.prog 3 #[.int .u64 (U : Int), .int .u64 (L : Int), .int .u64 a2] w fun e w' => e = .returned (.bool true) ∧ Grown w w' := by
  have hz := and_none U hU
  have H : Hid (∀ w, Calls Yba.prog 13 #[.int .u64 a2] w fun e w' => e = .returned (.int .u64 0) ∧ w' = w) := wb_out a2 h
  by_cases h1 : 1 ≤ a2
  · have h2 : ¬ a2 ≤ 64 := by omega
    clear h
    go_enter Yba.func3, Yba.ntmps3
    go_wp2_with (go_at_call 5; refine (hear_none _ (U : Int) a2 0 w.heap.size (by simp) hz H.out).mono ?_; rintro e w' ⟨rfl, rfl⟩)
    go_ret
    exact ⟨rfl, (Grown.refl _).alloc _ _⟩
  · clear h
    go_enter Yba.func3, Yba.ntmps3
    go_wp2_with (go_at_call 5; refine (hear_none _ (U : Int) a2 0 w.heap.size (by simp) hz H.out).mono ?_; rintro e w' ⟨rfl, rfl⟩)
    go_ret
    exact ⟨rfl, (Grown.refl _).alloc _ _⟩
set_option maxHeartbeats 400000 in
theorem walk_clear (U L k : Nat) (hk : k < 64) (hU : U < 18446744073709551616) (ht : U.testBit k = false) (w : World) :
    Calls Yba.prog 3 #[.int .u64 (U : Int), .int .u64 (L : Int), .int .u64 ((k : Int) + 1)] w fun e w' => e = .returned (.bool true) ∧ Grown w w' := by
  have hz := bit_zero U k hU hk ht
  have hs := shr_bit U k hU
  rw [ht] at hs
  have H : Hid (∀ w, Calls Yba.prog 13 #[.int .u64 ((k : Int) + 1)] w fun e w' => e = .returned (.int .u64 (2 ^ k)) ∧ w' = w) := wb_in k hk
  have h1 : 1 ≤ (k : Int) + 1 := by omega
  have h2 : (k : Int) + 1 ≤ 64 := by omega
  clear ht hU
  go_enter Yba.func3, Yba.ntmps3
  go_wp2_with (go_at_call 5; refine (hear_none _ (U : Int) ((k : Int) + 1) (2 ^ k) w.heap.size (by simp) hz H.out).mono ?_; rintro e w' ⟨rfl, rfl⟩)
  go_ret
  exact ⟨rfl, (Grown.refl _).alloc _ _⟩
set_option maxHeartbeats 400000 in
theorem walk_set (U L k : Nat) (lost : Bool) (hk : k < 64) (hU : U < 18446744073709551616) (hL : L < 18446744073709551616) (ht : U.testBit k = true) (hl : L.testBit k = lost) (w : World) :
    Calls Yba.prog 3 #[.int .u64 (U : Int), .int .u64 (L : Int), .int .u64 ((k : Int) + 1)] w fun e w' => e = .returned (.bool true) ∧ Grown w w' := by
  have hz := bit_set U k hU hk ht
  have hs := shr_bit U k hU
  have hsl := shr_bit L k hL
  rw [ht] at hs
  rw [hl] at hsl
  have hn : Hid (bits .andNot .u64 (U : Int) (2 ^ k) = (U : Int) - 2 ^ k) := bit_not U k hU hk ht
  have hll : (bits .and .u64 (L : Int) (2 ^ k) == 0) = !lost := by
    cases lost
    · exact bit_zero L k hL hk hl
    · exact bit_set L k hL hk hl
  have hge := pow_le_of_bit U k ht
  have hpos := pow_pos' k
  have H : Hid (∀ w, Calls Yba.prog 13 #[.int .u64 ((k : Int) + 1)] w fun e w' => e = .returned (.int .u64 (2 ^ k)) ∧ w' = w) := wb_in k hk
  have h1 : 1 ≤ (k : Int) + 1 := by omega
  have h2 : (k : Int) + 1 ≤ 64 := by omega
  clear ht hl hL
  cases lost
  · go_enter Yba.func3, Yba.ntmps3
    go_wp2_with (go_at_call 5; refine (hear_some _ (U : Int) (L : Int) ((k : Int) + 1) (2 ^ k) w.heap.size false (by simp) (by simp) (by simp) hz hll H.out).mono ?_; rintro e w' ⟨rfl, rfl⟩; rw [hn.out])
    go_loop [14, 15] (fun t i => ∃ j : Nat, j ≤ k ∧ i = .int .u64 ((j : Int) + 1) ∧ t = .int .u64 (2 ^ j)) (fun _ i => k + 1 - (intOf i).toNat)
    case atStart => exact ⟨0, Nat.zero_le _, rfl, rfl⟩
    case round =>
      obtain ⟨j, hj, rfl, rfl⟩ := hrel
      by_cases hlt : j < k
      · have hd : Hid (IntKind.u64.wrap (2 ^ j * 2) = (2 : Int) ^ (j + 1)) := pow_dbl j (by omega)
        go_wp2
        rw [hd.out]
        go_round
        case rel => exact ⟨j + 1, by omega, by go_num, rfl⟩
        case measure => simp [intOf]; omega
      · have hjk : j = k := by omega
        subst hjk
        go_wp2
        go_ret
        exact ⟨rfl, (Grown.refl _).alloc _ _⟩
  · go_enter Yba.func3, Yba.ntmps3
    go_wp2_with (go_at_call 5; refine (hear_some _ (U : Int) (L : Int) ((k : Int) + 1) (2 ^ k) w.heap.size true (by simp) (by simp) (by simp) hz hll H.out).mono ?_; rintro e w' ⟨rfl, rfl⟩; rw [hn.out])
    go_loop [14, 15] (fun t i => ∃ j : Nat, j ≤ k ∧ i = .int .u64 ((j : Int) + 1) ∧ t = .int .u64 (2 ^ j)) (fun _ i => k + 1 - (intOf i).toNat)
    case atStart => exact ⟨0, Nat.zero_le _, rfl, rfl⟩
    case round =>
      obtain ⟨j, hj, rfl, rfl⟩ := hrel
      by_cases hlt : j < k
      · have hd : Hid (IntKind.u64.wrap (2 ^ j * 2) = (2 : Int) ^ (j + 1)) := pow_dbl j (by omega)
        go_wp2
        rw [hd.out]
        go_round
        case rel => exact ⟨j + 1, by omega, by go_num, rfl⟩
        case measure => simp [intOf]; omega
      · have hjk : j = k := by omega
        subst hjk
        go_wp2
        go_ret
        exact ⟨rfl, (Grown.refl _).alloc _ _⟩
/-! ### STEP 1: THE WALK: the Go text returns true. 'Grown w w'': the world has at most new blocks (Derived/RowKit3.lean). Part the cases AHEAD of 'go_enter' where a test parts the walk; take each callee by a contract of your own. -/
theorem walk (a0 : Int) (a1 : Int) (a2 : Int) (w0 : (Lit.int .u64 a0).wf = true) (w1 : (Lit.int .u64 a1).wf = true) (w2 : (Lit.int .u64 a2).wf = true) (w : World) :
    Calls Yba.prog 3 #[.int .u64 a0, .int .u64 a1, .int .u64 a2] w fun e w' => e = .returned (.bool true) ∧ Grown w w' := by
  have hb0 := bounds_u64 w0
  have hb1 := bounds_u64 w1
  have hb2 := bounds_u64 w2
  clear w0 w1 w2
  obtain ⟨U, rfl⟩ := Int.eq_ofNat_of_zero_le hb0.1
  obtain ⟨L, rfl⟩ := Int.eq_ofNat_of_zero_le hb1.1
  by_cases h : a2 = 0 ∨ 64 < a2
  · exact walk_out U L a2 (by omega) h w
  · obtain ⟨k, hk⟩ := Int.eq_ofNat_of_zero_le (a := a2 - 1) (by omega)
    have e : a2 = (k : Int) + 1 := by omega
    subst e
    cases ht : U.testBit k
    · exact walk_clear U L k (by omega) (by omega) ht w
    · exact walk_set U L k (L.testBit k) (by omega) (by omega) (by omega) ht rfl w

/-! ### THE ROW's STEP: WRITTEN OUT: LEAVE IT -/
set_option maxRecDepth 100000 in
theorem lifted (os : Os) (started : os.Started) (H : Type) (enc : TypeId × Value → H) :
    ReturnsInHanded {} Yba.checked os 3 .any (Rows.lawS5672AWholeSpec.pre6 enc Yba.prog Yba.f3 Rows.lawS5672AWholeRow.domain false) (Rows.lawS5672AWholeSpec.post enc Yba.prog Yba.f3 false true false false) := by
  refine returnsInHanded_of_change (C := Yba.checked) own started (by kernel_rfl) Yba.func3
    (ChangeSpec.witness6 (enc := enc) (C := Yba.checked) false ⟨#[], #[.int .u64 0, .int .u64 0, .int .u64 0], []⟩ 8 (by kernel_rfl) (by kernel_rfl) (by kernel_rfl) (by kernel_rfl)) ?_
  intro W base args ds gs before hval0 hW hcnd _
  have hval : ∀ (j : Nat) t v, Yba.f3.params[j]? = some t → args[j]? = some v → Value.okWide Yba.prog W .any base t v := hval0
  have hW' := hW
  obtain ⟨p, q, hA0, hV, rfl, hfz, hnd⟩ := hW
  have hA : DataW.TrodAll enc Yba.prog W 0 (fun _ => true) true Yba.f3.params.toList args.toList ds p := hA0
  rw [Yba.params3] at hA hval
  obtain ⟨v0, vs0, d0, ds0, p0, q0, hargs, rfl, rfl, h0, r0⟩ := trodAll_cons hA
  obtain ⟨v1, vs1, d1, ds1, p1, q1, rfl, rfl, rfl, h1, r1⟩ := trodAll_cons r0
  obtain ⟨v2, vs2, d2, ds2, p2, q2, rfl, rfl, rfl, h2, r2⟩ := trodAll_cons r1
  obtain ⟨rfl, rfl, rfl⟩ := trodAll_nil r2
  obtain rfl : args = #[v0, v1, v2] := by cases args; simp_all
  obtain ⟨rfl, rfl⟩ := trodVars_none hV
  obtain ⟨a0, rfl, rfl, rfl, w0⟩ := open_int Yba.underlying22 (hval 0 22 v0 rfl rfl) h0
  obtain ⟨a1, rfl, rfl, rfl, w1⟩ := open_int Yba.underlying22 (hval 1 22 v1 rfl rfl) h1
  obtain ⟨a2, rfl, rfl, rfl, w2⟩ := open_int Yba.underlying22 (hval 2 22 v2 rfl rfl) h2
  clear hA0 hval0
  simp only [List.append_nil] at hW'
  refine (walk a0 a1 a2 w0 w1 w2 W).mono fun e W' ⟨he, hg⟩ => ?_
  subst he
  exact ⟨_, rfl, post_of_same (pa := []) (pv := []) hW' (fun _ _ _ => (trodAll_cons_mk (shut_bool Yba.underlying4 _) trodAll_mk0)) (fun sp _ => (trodAll_cons_mk (shut_int Yba.underlying22 w0) (trodAll_cons_mk (shut_int Yba.underlying22 w1) (trodAll_cons_mk (shut_int Yba.underlying22 w2) trodAll_mk0)))) (fun _ _ => rfl) rfl
    (hg.frame _) hg.2.1 (ok_one (by kernel_rfl) rfl (okWide_bool_mk Yba.underlying4 _))⟩

theorem over : Rows.lawS5672AWholeRow.holds Yba.pinned (OpenSpec.ofChange Rows.lawS5672AWholeSpec) :=
  OpenClaim.holds_of_wide 3 Yba.f3 rfl rfl rfl rfl rfl rfl rfl ⟨rfl, rfl, rfl, rfl, rfl⟩ rfl rfl rfl rfl rfl (by kernel_rfl) Yba.func3 (by kernel_rfl)
    (of_decide_eq_true (by kernel_rfl)) (by unfold Func.isWrapper; first | (rw [if_pos (by decide +kernel)]; kernel_rfl) | (rw [if_neg (by decide +kernel)]; exact ⟨rfl, rfl⟩))
    (fun os started H enc _ => lifted os started H enc)

/-- ████ THE STATEMENT ████ -/
theorem proved : Rows.LawS5672AWholeSaid :=
  over
end Go.Proofs.Ybulkdmle.lawS5672AWhole
