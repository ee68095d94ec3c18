/-
  A proof of 'Rows.LawS5674BWholeSaid' (the Go function tamis.LawS5674BWhole): the walks of the Go text, then the row's step (the frame that the kit's tool wrote for this function).
-/
import Derived.Test.YbulkdmmgRows
import Derived.WalkKit
import Derived.ProofKit
import Derived.OpenShut
import Derived.ShutString
namespace Go.Proofs.Ybulkdmmg.lawS5674BWhole
open Go.ChangeShapes Go.WideShapes Go.ChangeAt Go.RowKit
open Go.ChangeMaps (open_string shut_string)
set_option linter.unusedVariables false      -- a walk need not use every 'w<i>' (that an integer argument fits its kind)

theorem own : ownKnob Yba.prog.godebug = none := by kernel_rfl

theorem td (n : Int) (h : n ≤ 0) : n.tdiv 1000000000 = -((-n) / 1000000000) := by
  have e : n = -(-n) := by omega
  rw [e, Int.neg_tdiv, Int.tdiv_eq_ediv_of_nonneg (by omega)]; simp
theorem tm (n : Int) (h : n ≤ 0) : n.tmod 1000000000 = -((-n) % 1000000000) := by
  have e : n = -(-n) := by omega
  rw [e, Int.neg_tmod, Int.tmod_eq_emod_of_nonneg (by omega)]; simp
theorem w32 (x : Int) (h : -2147483648 ≤ x) (h2 : x ≤ 2147483647) : wrap32 x = x := by unfold wrap32; omega
theorem w64 (x : Int) (h : -9223372036854775808 ≤ x) (h2 : x ≤ 9223372036854775807) : wrap64 x = x := by unfold wrap64; omega
theorem wu64 (x : Int) (h : 0 ≤ x) (h2 : x ≤ 18446744073709551615) : IntKind.u64.wrap x = x := by
  have e : IntKind.u64.wrap x = x % 18446744073709551616 := by
    simp [IntKind.wrap, IntKind.signed, IntKind.bits]
  rw [e]; omega
theorem d1 (n : Int) (h0 : n < 0) (h1 : -9223372036854775808 ≤ n) (h : 0 ≤ wrap32 (n.tmod 1000000000)) : n.tdiv 1000000000 = n / 1000000000 ∧ wrap32 (n.tmod 1000000000) = n % 1000000000 := by
  rw [tm n (by omega), w32 _ (by omega) (by omega)] at h ⊢
  rw [td n (by omega)]
  constructor <;> omega
theorem d2 (n : Int) (h0 : n < 0) (h1 : -9223372036854775808 ≤ n) (h : wrap32 (n.tmod 1000000000) < 0) : wrap64 (n.tdiv 1000000000 - 1) = n / 1000000000 ∧ wrap32 (wrap32 (n.tmod 1000000000) + 1000000000) = n % 1000000000 := by
  rw [tm n (by omega), w32 (-(-n % 1000000000)) (by omega) (by omega)] at h ⊢
  rw [td n (by omega), w32 _ (by omega) (by omega), w64 _ (by omega) (by omega)]
  constructor <;> omega
theorem d3 (n : Int) (h0 : n < 0) (h1 : -9223372036854775808 ≤ n) : wrap64 (wrap64 (-wrap64 (IntKind.u64.wrap (-(n + 1).tdiv 1000000000))) - 1) = n / 1000000000 ∧ wrap32 (IntKind.u64.wrap (999999999 + (n + 1).tmod 1000000000)) = n % 1000000000 := by
  rw [tm (n + 1) (by omega), td (n + 1) (by omega), wu64 (- -(-(n + 1) / 1000000000)) (by omega) (by omega), wu64 (999999999 + -(-(n + 1) % 1000000000)) (by omega) (by omega), w32 _ (by omega) (by omega), w64 (- -(-(n + 1) / 1000000000)) (by omega) (by omega), w64 (-(- -(-(n + 1) / 1000000000))) (by omega) (by omega), w64 _ (by omega) (by omega)]
  constructor <;> omega
theorem dur_any (n : Int) (h0 : -9223372036854775808 ≤ n) (h1 : n ≤ 9223372036854775807) (w : World) :
    Calls Yba.prog 5 #[.int .i64 n] w fun e w' => e = .returned (.agg #[.int .i64 (n / 1000000000), .int .i32 (n % 1000000000)]) ∧ ∀ W, Grown W w → Grown W w' := by
  by_cases hn : 0 ≤ n
  · clear h0
    go_enter Yba.func5, Yba.ntmps5
    go_wp2
    exact bodyPost_ret (v := .agg #[.int .i64 (n / 1000000000), .int .i32 (n % 1000000000)]) (by simp [results, Yba.results5, go_sem]) rfl ⟨rfl, fun _ h => h.alloc _ _⟩
  · have hn' : n < 0 := by omega
    clear hn h1
    go_enter Yba.func5, Yba.ntmps5
    go_wp2
    · have h : wrap32 (n.tmod 1000000000) < 0 := by assumption
      obtain ⟨e1, e2⟩ := d2 n hn' h0 h
      rw [e1, e2]
      exact bodyPost_ret (v := .agg #[.int .i64 (n / 1000000000), .int .i32 (n % 1000000000)]) (by simp [results, Yba.results5, go_sem]) rfl ⟨rfl, fun _ h => h.alloc _ _⟩
    · have h : 0 ≤ wrap32 (n.tmod 1000000000) := by assumption
      obtain ⟨e1, e2⟩ := d1 n hn' h0 h
      rw [e1, e2]
      exact bodyPost_ret (v := .agg #[.int .i64 (n / 1000000000), .int .i32 (n % 1000000000)]) (by simp [results, Yba.results5, go_sem]) rfl ⟨rfl, fun _ h => h.alloc _ _⟩
theorem floor_any (n : Int) (h0 : -9223372036854775808 ≤ n) (h1 : n ≤ 9223372036854775807) (w : World) :
    Calls Yba.prog 6 #[.int .i64 n] w fun e w' => e = .returned (.tuple #[.int .i64 (n / 1000000000), .int .i32 (n % 1000000000)]) ∧ w' = w := by
  by_cases hn : 0 ≤ n
  · clear h0
    go_enter Yba.func6, Yba.ntmps6
    go_wp2
    go_ret2
    exact ⟨rfl, rfl⟩
  · have hn' : n < 0 := by omega
    clear hn h1
    go_enter Yba.func6, Yba.ntmps6
    go_wp2
    obtain ⟨e1, e2⟩ := d3 n hn' h0
    rw [e1, e2]
    go_ret2
    exact ⟨rfl, rfl⟩

/-! ### STEP 1: THE WALK: the Go text returns true. -/
theorem walk (a0 : Int) (w0 : (Lit.int .i64 a0).wf = true) (w : World) :
    Calls Yba.prog 3 #[.int .i64 a0] w fun e w' => e = .returned (.bool true) ∧ Grown w w' := by
  have hb := bounds_i64 w0
  obtain ⟨b0, b1⟩ := hb
  have m0 : 0 ≤ a0 % 1000000000 := by omega
  have m1 : a0 % 1000000000 < 1000000000 := by omega
  clear w0
  go_enter Yba.func3, Yba.ntmps3
  go_wp2_with (first | (go_at_call 5; refine (dur_any _ b0 b1 _).mono ?_; rintro e w' ⟨rfl, hg⟩) | (go_at_call 6; refine (floor_any _ b0 b1 _).mono ?_; rintro e w' ⟨rfl, rfl⟩))
  go_ret
  exact ⟨rfl, (hg w (Grown.refl w)).alloc _ _⟩

/-! ### THE ROW's STEP: WRITTEN OUT: LEAVE IT -/
set_option maxRecDepth 100000 in
theorem lifted (os : Os) (started : os.Started) (H : Type) (enc : TypeId × Value → H) :
    ReturnsInHanded {} Yba.checked os 3 .any (Rows.lawS5674BWholeSpec.pre6 enc Yba.prog Yba.f3 Rows.lawS5674BWholeRow.domain false) (Rows.lawS5674BWholeSpec.post enc Yba.prog Yba.f3 false true false false) := by
  refine returnsInHanded_of_change (C := Yba.checked) own started (by kernel_rfl) Yba.func3
    (ChangeSpec.witness6 (enc := enc) (C := Yba.checked) false ⟨#[], #[.int .i64 0], []⟩ 8 (by kernel_rfl) (by kernel_rfl) (by kernel_rfl) (by kernel_rfl)) ?_
  intro W base args ds gs before hval0 hW hcnd _
  have hval : ∀ (j : Nat) t v, Yba.f3.params[j]? = some t → args[j]? = some v → Value.okWide Yba.prog W .any base t v := hval0
  have hW' := hW
  obtain ⟨p, q, hA0, hV, rfl, hfz, hnd⟩ := hW
  have hA : DataW.TrodAll enc Yba.prog W 0 (fun _ => true) true Yba.f3.params.toList args.toList ds p := hA0
  rw [Yba.params3] at hA hval
  obtain ⟨v0, vs0, d0, ds0, p0, q0, hargs, rfl, rfl, h0, r0⟩ := trodAll_cons hA
  obtain ⟨rfl, rfl, rfl⟩ := trodAll_nil r0
  obtain rfl : args = #[v0] := by cases args; simp_all
  obtain ⟨rfl, rfl⟩ := trodVars_none hV
  obtain ⟨a0, rfl, rfl, rfl, w0⟩ := open_int Yba.underlying2 (hval 0 2 v0 rfl rfl) h0
  clear hA0 hval0
  simp only [List.append_nil] at hW'
  refine (walk a0 w0 W).mono fun e W' ⟨he, hg⟩ => ?_
  subst he
  exact ⟨_, rfl, post_of_same (pa := []) (pv := []) hW' (fun _ _ _ => (trodAll_cons_mk (shut_bool Yba.underlying4 _) trodAll_mk0)) (fun sp _ => (trodAll_cons_mk (shut_int Yba.underlying2 w0) trodAll_mk0)) (fun _ _ => rfl) rfl
    (hg.frame _) hg.2.1 (ok_one (by kernel_rfl) rfl (okWide_bool_mk Yba.underlying4 _))⟩

theorem over : Rows.lawS5674BWholeRow.holds Yba.pinned (OpenSpec.ofChange Rows.lawS5674BWholeSpec) :=
  OpenClaim.holds_of_wide 3 Yba.f3 rfl rfl rfl rfl rfl rfl rfl ⟨rfl, rfl, rfl, rfl, rfl⟩ rfl rfl rfl rfl rfl (by kernel_rfl) Yba.func3 (by kernel_rfl)
    (of_decide_eq_true (by kernel_rfl)) (by unfold Func.isWrapper; first | (rw [if_pos (by decide +kernel)]; kernel_rfl) | (rw [if_neg (by decide +kernel)]; exact ⟨rfl, rfl⟩))
    (fun os started H enc _ => lifted os started H enc)

/-- ████ THE STATEMENT ████ -/
theorem proved : Rows.LawS5674BWholeSaid :=
  over
end Go.Proofs.Ybulkdmmg.lawS5674BWhole
