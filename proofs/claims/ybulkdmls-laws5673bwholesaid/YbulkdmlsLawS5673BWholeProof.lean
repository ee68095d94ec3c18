/-
  A proof of 'Rows.LawS5673BWholeSaid' (the Go function scenario.LawS5673BWhole): the walks of the Go text, then the row's step (the frame that the kit's tool wrote for this function).
-/
import Derived.Test.YbulkdmlsRows
import Derived.WalkKit
import Derived.ProofKit
import Derived.OpenShut
import Derived.ShutString
import Derived.BigQuiet
import Derived.Deep.QuietTactic
namespace Go.Proofs.Ybulkdmls.lawS5673BWhole
open Go.ChangeShapes Go.WideShapes Go.ChangeAt Go.RowKit
open Go.ChangeMaps (open_string shut_string)
set_option linter.unusedVariables false      -- a walk need not use every 'w<i>' (that an integer argument fits its kind)

theorem own : ownKnob Yba.prog.godebug = none := by kernel_rfl


theorem rowOf_table_false (a0 a1 a2 a3 a4 : ByteArray) (h : a2.toList.isEmpty = true) (w : World) :
    Calls Yba.prog 4 #[.agg #[.string a0, .string a1, .string a2, .string a3, .string a4, .bool false]] w fun e w' =>
      e = .returned (.agg #[.string a0, .string a1, .string { data := #[78, 85, 76, 76] }, .string { data := #[84, 65, 66, 76, 69] }, .string a3, .string { data := #[71, 82, 65, 78, 84, 69, 68] }, .string { data := #[78, 85, 76, 76] }]) ∧ ∀ W, Grown W w → Grown W w' := by
  go_enter Yba.func4, Yba.ntmps4
  go_wp2
  exact bodyPost_ret (v := .agg #[.string a0, .string a1, .string { data := #[78, 85, 76, 76] }, .string { data := #[84, 65, 66, 76, 69] }, .string a3, .string { data := #[71, 82, 65, 78, 84, 69, 68] }, .string { data := #[78, 85, 76, 76] }]) (by simp [results, Yba.results4, go_sem]) rfl ⟨rfl, fun _ h => ((h.alloc _ _).alloc _ _).alloc _ _⟩
theorem rowOf_table_true (a0 a1 a2 a3 a4 : ByteArray) (h : a2.toList.isEmpty = true) (w : World) :
    Calls Yba.prog 4 #[.agg #[.string a0, .string a1, .string a2, .string a3, .string a4, .bool true]] w fun e w' =>
      e = .returned (.agg #[.string a0, .string a1, .string { data := #[78, 85, 76, 76] }, .string { data := #[84, 65, 66, 76, 69] }, .string a3, .string { data := #[87, 65, 73, 84, 73, 78, 71] }, .string { data := #[78, 85, 76, 76] }]) ∧ ∀ W, Grown W w → Grown W w' := by
  go_enter Yba.func4, Yba.ntmps4
  go_wp2
  exact bodyPost_ret (v := .agg #[.string a0, .string a1, .string { data := #[78, 85, 76, 76] }, .string { data := #[84, 65, 66, 76, 69] }, .string a3, .string { data := #[87, 65, 73, 84, 73, 78, 71] }, .string { data := #[78, 85, 76, 76] }]) (by simp [results, Yba.results4, go_sem]) rfl ⟨rfl, fun _ h => ((h.alloc _ _).alloc _ _).alloc _ _⟩
theorem rowOf_record_false (a0 a1 a2 a3 a4 : ByteArray) (h : a2.toList.isEmpty = false) (w : World) :
    Calls Yba.prog 4 #[.agg #[.string a0, .string a1, .string a2, .string a3, .string a4, .bool false]] w fun e w' =>
      e = .returned (.agg #[.string a0, .string a1, .string a2, .string { data := #[82, 69, 67, 79, 82, 68] }, .string a3, .string { data := #[71, 82, 65, 78, 84, 69, 68] }, .string a4]) ∧ ∀ W, Grown W w → Grown W w' := by
  go_enter Yba.func4, Yba.ntmps4
  go_wp2
  exact bodyPost_ret (v := .agg #[.string a0, .string a1, .string a2, .string { data := #[82, 69, 67, 79, 82, 68] }, .string a3, .string { data := #[71, 82, 65, 78, 84, 69, 68] }, .string a4]) (by simp [results, Yba.results4, go_sem]) rfl ⟨rfl, fun _ h => ((h.alloc _ _).alloc _ _).alloc _ _⟩
theorem rowOf_record_true (a0 a1 a2 a3 a4 : ByteArray) (h : a2.toList.isEmpty = false) (w : World) :
    Calls Yba.prog 4 #[.agg #[.string a0, .string a1, .string a2, .string a3, .string a4, .bool true]] w fun e w' =>
      e = .returned (.agg #[.string a0, .string a1, .string a2, .string { data := #[82, 69, 67, 79, 82, 68] }, .string a3, .string { data := #[87, 65, 73, 84, 73, 78, 71] }, .string a4]) ∧ ∀ W, Grown W w → Grown W w' := by
  go_enter Yba.func4, Yba.ntmps4
  go_wp2
  exact bodyPost_ret (v := .agg #[.string a0, .string a1, .string a2, .string { data := #[82, 69, 67, 79, 82, 68] }, .string a3, .string { data := #[87, 65, 73, 84, 73, 78, 71] }, .string a4]) (by simp [results, Yba.results4, go_sem]) rfl ⟨rfl, fun _ h => ((h.alloc _ _).alloc _ _).alloc _ _⟩


/-- two rows of seven strings, the same in both, laid one behind the other -/
theorem two_rows (w' : World) (s0 s1 s2 s3 s4 s5 s6 : ByteArray) : ∃ f : Nat → ByteArray, ∀ j, j < 7 →
    ((w'.alloc (.cells #[.string s0, .string s1, .string s2, .string s3, .string s4, .string s5, .string s6] 25)).alloc (.cells #[.string s0, .string s1, .string s2, .string s3, .string s4, .string s5, .string s6] 24)).cell? ⟨w'.heap.size, j, none⟩ = some (.string (f j)) ∧
    ((w'.alloc (.cells #[.string s0, .string s1, .string s2, .string s3, .string s4, .string s5, .string s6] 25)).alloc (.cells #[.string s0, .string s1, .string s2, .string s3, .string s4, .string s5, .string s6] 24)).cell? ⟨w'.heap.size + 1, j, none⟩ = some (.string (f j)) := by
  refine ⟨fun j => [s0, s1, s2, s3, s4, s5, s6].getD j ByteArray.empty, fun j hj => ?_⟩
  match j, hj with
  | 0, _ => constructor <;> simp
  | 1, _ => constructor <;> simp
  | 2, _ => constructor <;> simp
  | 3, _ => constructor <;> simp
  | 4, _ => constructor <;> simp
  | 5, _ => constructor <;> simp
  | 6, _ => constructor <;> simp

theorem size_of_empty {s : ByteArray} (h : s.toList.isEmpty = true) : s.size = 0 := by
  rw [← decide_eq_emptyBytes] at h
  have h' : s = ByteArray.empty := of_decide_eq_true h
  rw [h']; rfl
theorem size_of_not {s : ByteArray} (h : s.toList.isEmpty = false) : ¬ s.size = 0 := by
  rw [← decide_eq_emptyBytes] at h
  have h' : ¬ s = ByteArray.empty := of_decide_eq_false h
  intro h0
  apply h'
  cases s with
  | mk d =>
    have : d = #[] := by apply Array.eq_empty_of_size_eq_zero; exact h0
    subst this; rfl

/-! ### STEP 1: THE WALK -/
set_option maxHeartbeats 400000 in
theorem walk_table_false (a0 : ByteArray) (a1 : ByteArray) (a2 : ByteArray) (a3 : ByteArray) (a4 : ByteArray) (w2 : a2.size ≤ maxLen) (hz : a2.toList.isEmpty = true) (w : World) :
    Calls Yba.prog 3 #[.string a0, .string a1, .string a2, .string a3, .string a4, .bool false] w fun e w' => e = .returned (.bool true) ∧ Grown w w' := by
  unfold maxLen at w2
  have hz2 := size_of_empty hz
  go_enter Yba.func3, Yba.ntmps3
  go_wp2_with (go_at_call 4; refine (rowOf_table_false _ _ _ _ _ hz _).mono ?_; rintro e w' ⟨rfl, hg⟩)
  obtain ⟨f, hf⟩ := two_rows w' a0 a1 { data := #[78, 85, 76, 76] } { data := #[84, 65, 66, 76, 69] } a3 { data := #[71, 82, 65, 78, 84, 69, 68] } { data := #[78, 85, 76, 76] }
  go_loopw [20] (fun i wr => ∃ k : Nat, k ≤ 7 ∧ i = .int .i64 k ∧ (∀ j, j < 7 → wr.cell? ⟨w'.heap.size, j, none⟩ = some (.string (f j)) ∧ wr.cell? ⟨w'.heap.size + 1, j, none⟩ = some (.string (f j))) ∧ Grown w wr) (fun i _ => 7 - (intOf i).toNat)
  case atStart => exact ⟨0, Nat.zero_le _, rfl, hf, ((hg w ((Grown.refl w).alloc _ _)).alloc _ _).alloc _ _⟩
  case round =>
    obtain ⟨k, hk, rfl, hc, hgr⟩ := hrel
    clear hf hg
    by_cases hlt : k < 7
    · obtain ⟨c1, c2⟩ := hc k hlt
      have H : Hid (∀ j, j < 7 → wr.cell? ⟨w'.heap.size, j, none⟩ = some (.string (f j)) ∧ wr.cell? ⟨w'.heap.size + 1, j, none⟩ = some (.string (f j))) := hc
      clear hc
      go_wp2
      go_quiet (fail)
      go_wp2
      go_roundw
      case rel => exact ⟨k + 1, by omega, by go_num, H.out, hgr⟩
      case measure => simp [intOf]; omega
    · clear hc
      go_wp2
      go_ret
      exact ⟨rfl, hgr⟩
set_option maxHeartbeats 400000 in
theorem walk_table_true (a0 : ByteArray) (a1 : ByteArray) (a2 : ByteArray) (a3 : ByteArray) (a4 : ByteArray) (w2 : a2.size ≤ maxLen) (hz : a2.toList.isEmpty = true) (w : World) :
    Calls Yba.prog 3 #[.string a0, .string a1, .string a2, .string a3, .string a4, .bool true] w fun e w' => e = .returned (.bool true) ∧ Grown w w' := by
  unfold maxLen at w2
  have hz2 := size_of_empty hz
  go_enter Yba.func3, Yba.ntmps3
  go_wp2_with (go_at_call 4; refine (rowOf_table_true _ _ _ _ _ hz _).mono ?_; rintro e w' ⟨rfl, hg⟩)
  obtain ⟨f, hf⟩ := two_rows w' a0 a1 { data := #[78, 85, 76, 76] } { data := #[84, 65, 66, 76, 69] } a3 { data := #[87, 65, 73, 84, 73, 78, 71] } { data := #[78, 85, 76, 76] }
  go_loopw [20] (fun i wr => ∃ k : Nat, k ≤ 7 ∧ i = .int .i64 k ∧ (∀ j, j < 7 → wr.cell? ⟨w'.heap.size, j, none⟩ = some (.string (f j)) ∧ wr.cell? ⟨w'.heap.size + 1, j, none⟩ = some (.string (f j))) ∧ Grown w wr) (fun i _ => 7 - (intOf i).toNat)
  case atStart => exact ⟨0, Nat.zero_le _, rfl, hf, ((hg w ((Grown.refl w).alloc _ _)).alloc _ _).alloc _ _⟩
  case round =>
    obtain ⟨k, hk, rfl, hc, hgr⟩ := hrel
    clear hf hg
    by_cases hlt : k < 7
    · obtain ⟨c1, c2⟩ := hc k hlt
      have H : Hid (∀ j, j < 7 → wr.cell? ⟨w'.heap.size, j, none⟩ = some (.string (f j)) ∧ wr.cell? ⟨w'.heap.size + 1, j, none⟩ = some (.string (f j))) := hc
      clear hc
      go_wp2
      go_quiet (fail)
      go_wp2
      go_roundw
      case rel => exact ⟨k + 1, by omega, by go_num, H.out, hgr⟩
      case measure => simp [intOf]; omega
    · clear hc
      go_wp2
      go_ret
      exact ⟨rfl, hgr⟩
set_option maxHeartbeats 400000 in
theorem walk_record_false (a0 : ByteArray) (a1 : ByteArray) (a2 : ByteArray) (a3 : ByteArray) (a4 : ByteArray) (w2 : a2.size ≤ maxLen) (hz : a2.toList.isEmpty = false) (w : World) :
    Calls Yba.prog 3 #[.string a0, .string a1, .string a2, .string a3, .string a4, .bool false] w fun e w' => e = .returned (.bool true) ∧ Grown w w' := by
  unfold maxLen at w2
  have hz2 := size_of_not hz
  go_enter Yba.func3, Yba.ntmps3
  go_wp2_with (go_at_call 4; refine (rowOf_record_false _ _ _ _ _ hz _).mono ?_; rintro e w' ⟨rfl, hg⟩)
  obtain ⟨f, hf⟩ := two_rows w' a0 a1 a2 { data := #[82, 69, 67, 79, 82, 68] } a3 { data := #[71, 82, 65, 78, 84, 69, 68] } a4
  go_loopw [20] (fun i wr => ∃ k : Nat, k ≤ 7 ∧ i = .int .i64 k ∧ (∀ j, j < 7 → wr.cell? ⟨w'.heap.size, j, none⟩ = some (.string (f j)) ∧ wr.cell? ⟨w'.heap.size + 1, j, none⟩ = some (.string (f j))) ∧ Grown w wr) (fun i _ => 7 - (intOf i).toNat)
  case atStart => exact ⟨0, Nat.zero_le _, rfl, hf, ((hg w ((Grown.refl w).alloc _ _)).alloc _ _).alloc _ _⟩
  case round =>
    obtain ⟨k, hk, rfl, hc, hgr⟩ := hrel
    clear hf hg
    by_cases hlt : k < 7
    · obtain ⟨c1, c2⟩ := hc k hlt
      have H : Hid (∀ j, j < 7 → wr.cell? ⟨w'.heap.size, j, none⟩ = some (.string (f j)) ∧ wr.cell? ⟨w'.heap.size + 1, j, none⟩ = some (.string (f j))) := hc
      clear hc
      go_wp2
      go_quiet (fail)
      go_wp2
      go_roundw
      case rel => exact ⟨k + 1, by omega, by go_num, H.out, hgr⟩
      case measure => simp [intOf]; omega
    · clear hc
      go_wp2
      go_ret
      exact ⟨rfl, hgr⟩
set_option maxHeartbeats 400000 in
theorem walk_record_true (a0 : ByteArray) (a1 : ByteArray) (a2 : ByteArray) (a3 : ByteArray) (a4 : ByteArray) (w2 : a2.size ≤ maxLen) (hz : a2.toList.isEmpty = false) (w : World) :
    Calls Yba.prog 3 #[.string a0, .string a1, .string a2, .string a3, .string a4, .bool true] w fun e w' => e = .returned (.bool true) ∧ Grown w w' := by
  unfold maxLen at w2
  have hz2 := size_of_not hz
  go_enter Yba.func3, Yba.ntmps3
  go_wp2_with (go_at_call 4; refine (rowOf_record_true _ _ _ _ _ hz _).mono ?_; rintro e w' ⟨rfl, hg⟩)
  obtain ⟨f, hf⟩ := two_rows w' a0 a1 a2 { data := #[82, 69, 67, 79, 82, 68] } a3 { data := #[87, 65, 73, 84, 73, 78, 71] } a4
  go_loopw [20] (fun i wr => ∃ k : Nat, k ≤ 7 ∧ i = .int .i64 k ∧ (∀ j, j < 7 → wr.cell? ⟨w'.heap.size, j, none⟩ = some (.string (f j)) ∧ wr.cell? ⟨w'.heap.size + 1, j, none⟩ = some (.string (f j))) ∧ Grown w wr) (fun i _ => 7 - (intOf i).toNat)
  case atStart => exact ⟨0, Nat.zero_le _, rfl, hf, ((hg w ((Grown.refl w).alloc _ _)).alloc _ _).alloc _ _⟩
  case round =>
    obtain ⟨k, hk, rfl, hc, hgr⟩ := hrel
    clear hf hg
    by_cases hlt : k < 7
    · obtain ⟨c1, c2⟩ := hc k hlt
      have H : Hid (∀ j, j < 7 → wr.cell? ⟨w'.heap.size, j, none⟩ = some (.string (f j)) ∧ wr.cell? ⟨w'.heap.size + 1, j, none⟩ = some (.string (f j))) := hc
      clear hc
      go_wp2
      go_quiet (fail)
      go_wp2
      go_roundw
      case rel => exact ⟨k + 1, by omega, by go_num, H.out, hgr⟩
      case measure => simp [intOf]; omega
    · clear hc
      go_wp2
      go_ret
      exact ⟨rfl, hgr⟩

theorem walk (a0 : ByteArray) (a1 : ByteArray) (a2 : ByteArray) (a3 : ByteArray) (a4 : ByteArray) (a5 : Bool) (w0 : a0.size ≤ maxLen) (w1 : a1.size ≤ maxLen) (w2 : a2.size ≤ maxLen) (w3 : a3.size ≤ maxLen) (w4 : a4.size ≤ maxLen) (w : World) :
    Calls Yba.prog 3 #[.string a0, .string a1, .string a2, .string a3, .string a4, .bool a5] w fun e w' => e = .returned (.bool true) ∧ Grown w w' := by
  cases hz : a2.toList.isEmpty <;> cases a5
  · exact walk_record_false a0 a1 a2 a3 a4 w2 hz w
  · exact walk_record_true a0 a1 a2 a3 a4 w2 hz w
  · exact walk_table_false a0 a1 a2 a3 a4 w2 hz w
  · exact walk_table_true a0 a1 a2 a3 a4 w2 hz w

/-! ### THE ROW's STEP: WRITTEN OUT: LEAVE IT -/
set_option maxRecDepth 100000 in
theorem lifted (os : Os) (started : os.Started) (H : Type) (enc : TypeId × Value → H) :
    ReturnsInHanded {} Yba.checked os 3 .any (Rows.lawS5673BWholeSpec.pre6 enc Yba.prog Yba.f3 Rows.lawS5673BWholeRow.domain false) (Rows.lawS5673BWholeSpec.post enc Yba.prog Yba.f3 false true false false) := by
  refine returnsInHanded_of_change (C := Yba.checked) own started (by kernel_rfl) Yba.func3
    (ChangeSpec.witness6 (enc := enc) (C := Yba.checked) false ⟨#[], #[.string ByteArray.empty, .string ByteArray.empty, .string ByteArray.empty, .string ByteArray.empty, .string ByteArray.empty, .bool false], []⟩ 8 (by kernel_rfl) (by kernel_rfl) (by kernel_rfl) (by kernel_rfl)) ?_
  intro W base args ds gs before hval0 hW hcnd _
  have hval : ∀ (j : Nat) t v, Yba.f3.params[j]? = some t → args[j]? = some v → Value.okWide Yba.prog W .any base t v := hval0
  have hW' := hW
  obtain ⟨p, q, hA0, hV, rfl, hfz, hnd⟩ := hW
  have hA : DataW.TrodAll enc Yba.prog W 0 (fun _ => true) true Yba.f3.params.toList args.toList ds p := hA0
  rw [Yba.params3] at hA hval
  obtain ⟨v0, vs0, d0, ds0, p0, q0, hargs, rfl, rfl, h0, r0⟩ := trodAll_cons hA
  obtain ⟨v1, vs1, d1, ds1, p1, q1, rfl, rfl, rfl, h1, r1⟩ := trodAll_cons r0
  obtain ⟨v2, vs2, d2, ds2, p2, q2, rfl, rfl, rfl, h2, r2⟩ := trodAll_cons r1
  obtain ⟨v3, vs3, d3, ds3, p3, q3, rfl, rfl, rfl, h3, r3⟩ := trodAll_cons r2
  obtain ⟨v4, vs4, d4, ds4, p4, q4, rfl, rfl, rfl, h4, r4⟩ := trodAll_cons r3
  obtain ⟨v5, vs5, d5, ds5, p5, q5, rfl, rfl, rfl, h5, r5⟩ := trodAll_cons r4
  obtain ⟨rfl, rfl, rfl⟩ := trodAll_nil r5
  obtain rfl : args = #[v0, v1, v2, v3, v4, v5] := by cases args; simp_all
  obtain ⟨rfl, rfl⟩ := trodVars_none hV
  obtain ⟨a0, rfl, rfl, rfl, w0⟩ := open_string Yba.underlying9 (hval 0 9 v0 rfl rfl) h0
  obtain ⟨a1, rfl, rfl, rfl, w1⟩ := open_string Yba.underlying9 (hval 1 9 v1 rfl rfl) h1
  obtain ⟨a2, rfl, rfl, rfl, w2⟩ := open_string Yba.underlying9 (hval 2 9 v2 rfl rfl) h2
  obtain ⟨a3, rfl, rfl, rfl, w3⟩ := open_string Yba.underlying9 (hval 3 9 v3 rfl rfl) h3
  obtain ⟨a4, rfl, rfl, rfl, w4⟩ := open_string Yba.underlying9 (hval 4 9 v4 rfl rfl) h4
  obtain ⟨a5, rfl, rfl, rfl⟩ := open_bool Yba.underlying4 (hval 5 4 v5 rfl rfl) h5
  clear hA0 hval0
  simp only [List.append_nil] at hW'
  refine (walk a0 a1 a2 a3 a4 a5 w0 w1 w2 w3 w4 W).mono fun e W' ⟨he, hg⟩ => ?_
  subst he
  exact ⟨_, rfl, post_of_same (pa := []) (pv := []) hW' (fun _ _ _ => (trodAll_cons_mk (shut_bool Yba.underlying4 _) trodAll_mk0)) (fun sp _ => (trodAll_cons_mk (shut_string Yba.underlying9 w0) (trodAll_cons_mk (shut_string Yba.underlying9 w1) (trodAll_cons_mk (shut_string Yba.underlying9 w2) (trodAll_cons_mk (shut_string Yba.underlying9 w3) (trodAll_cons_mk (shut_string Yba.underlying9 w4) (trodAll_cons_mk (shut_bool Yba.underlying4 _) trodAll_mk0))))))) (fun _ _ => rfl) rfl
    (hg.frame _) hg.2.1 (ok_one (by kernel_rfl) rfl (okWide_bool_mk Yba.underlying4 _))⟩

theorem over : Rows.lawS5673BWholeRow.holds Yba.pinned (OpenSpec.ofChange Rows.lawS5673BWholeSpec) :=
  OpenClaim.holds_of_wide 3 Yba.f3 rfl rfl rfl rfl rfl rfl rfl ⟨rfl, rfl, rfl, rfl, rfl⟩ rfl rfl rfl rfl rfl (by kernel_rfl) Yba.func3 (by kernel_rfl)
    (of_decide_eq_true (by kernel_rfl)) (by unfold Func.isWrapper; first | (rw [if_pos (by decide +kernel)]; kernel_rfl) | (rw [if_neg (by decide +kernel)]; exact ⟨rfl, rfl⟩))
    (fun os started H enc _ => lifted os started H enc)

/-- ████ THE STATEMENT ████ -/
theorem proved : Rows.LawS5673BWholeSaid :=
  over
end Go.Proofs.Ybulkdmls.lawS5673BWhole
