/-
  A proof of 'Rows.LawS5671CWholeSaid' (the Go function trace.LawS5671CWhole): the law out of its walks (YbulkdmkqC0 .. YbulkdmkqC9); the row's step is the frame that the kit's tool writes for slices of integers, turned by hand at the slice of structs.
-/
import Derived.Test.YbulkdmkqRows
import Derived.Test.YbulkdmkqC8
import Derived.Test.YbulkdmkqC9
import Derived.Deep.Slices
import Derived.Lib.SmallJoins
import Derived.WalkKit
import Derived.ProofKit
import Derived.OpenShut
import Derived.ShutString
import Derived.ChangeOld
import Derived.Below
namespace Go.Proofs.Ybulkdmkq.lawS5671CWhole
open Go.ChangeShapes Go.WideShapes Go.ChangeAt Go.RowKit
open Go.ChangeMaps (open_string shut_string)
set_option linter.unusedVariables false

theorem own : ownKnob Yba.prog.godebug = none := by kernel_rfl
theorem laidOut : laidOutB Yba.prog = true := by kernel_rfl

theorem cells45 : Yba.prog.cellsOf 45 = 4 := by kernel_rfl
theorem cells5 : Yba.prog.cellsOf 5 = 1 := by kernel_rfl
theorem cells27 : Yba.prog.cellsOf 27 = 1 := by kernel_rfl
theorem cells3 : Yba.prog.cellsOf 3 = 1 := by kernel_rfl
/-- WHAT THE WALK IS TOLD OF THE EVENTS THAT CAME IN -/
def IsEvs (w : World) (a : Option Addr) (n c : Nat) : Prop :=
  n ≤ c ∧ c ≤ maxLen ∧ (0 < n → ∃ (b o : Nat) (P K S : Nat → Nat) (ln : Nat → Int), a = some ⟨b, o, none⟩ ∧ (∀ i, P i < 256) ∧ (∀ i, K i < 256) ∧ (∀ i, S i < 65536) ∧ EvsAt w b o n P K S ln)
theorem opened {H : Type} {enc : TypeId × Value → H} {w : World} {fuel : Nat} {a0 : Option Addr} {len cap : Nat} {x : DataW H × List MemPlace} (h : DataW.trod enc Yba.prog w 0 (fun _ => true) true fuel 42 [.slice a0 len cap] = some x) : IsEvs w a0 len cap := by
  rcases Go.Deep.open_slice Yba.underlying42 h with ⟨h0, _⟩ | ⟨a, len', cap', m, n, D, Pl, hcs, _, hl, hm, hmm, _, hx⟩
  · simp at h0
    obtain ⟨rfl, rfl, rfl⟩ := h0
    exact ⟨Nat.le_refl _, Nat.zero_le _, fun h => absurd h (Nat.lt_irrefl 0)⟩
  · simp at hcs
    obtain ⟨rfl, rfl, rfl⟩ := hcs
    refine ⟨hl, hm, fun hpos => ?_⟩
    have hlm : len ≤ m := by rw [hmm]; simp; exact hl
    have each : ∀ i, i < len → ∃ q : Nat × Nat × Nat × Int, w.cell? (a.add (i * 4)) = some (.int .u8 (q.1 : Int)) ∧ w.cell? (a.add (i * 4 + 1)) = some (.int .u8 (q.2.1 : Int)) ∧ w.cell? (a.add (i * 4 + 2)) = some (.int .u16 (q.2.2.1 : Int)) ∧ w.cell? (a.add (i * 4 + 3)) = some (.int .i64 q.2.2.2) ∧ q.1 < 256 ∧ q.2.1 < 256 ∧ q.2.2.1 < 65536 := by
      intro i hi
      obtain ⟨cs', h1, h2⟩ := hx i (by omega)
      rw [cells45] at h1
      obtain ⟨_, hlen, hcell⟩ := World.cells?_some h1
      obtain ⟨y0, y1, y2, y3, n', _, _, g0, g1, g2, g3⟩ := Go.Joins.trod_struct4 Yba.underlying45 h2
      match cs', hlen with
      | [c0, c1, c2, c3], _ =>
        obtain ⟨n0, e0, _, b0⟩ := DataW.trod_int Yba.underlying5 g0
        obtain ⟨n1, e1, _, b1⟩ := DataW.trod_int Yba.underlying5 g1
        obtain ⟨n2, e2, _, b2⟩ := DataW.trod_int Yba.underlying27 g2
        obtain ⟨n3, e3, _, b3⟩ := DataW.trod_int Yba.underlying3 g3
        simp [cells5, cells27, cells3] at e0 e1 e2 e3
        subst e0 e1 e2 e3
        have k0 := bounds_u8 b0
        have k1 := bounds_u8 b1
        have k2 := bounds_u16 b2
        obtain ⟨m0, rfl⟩ := Int.eq_ofNat_of_zero_le k0.1
        obtain ⟨m1, rfl⟩ := Int.eq_ofNat_of_zero_le k1.1
        obtain ⟨m2, rfl⟩ := Int.eq_ofNat_of_zero_le k2.1
        have t0 := hcell 0 (by omega)
        have t1 := hcell 1 (by omega)
        have t2 := hcell 2 (by omega)
        have t3 := hcell 3 (by omega)
        rw [Go.Deep.add_add] at t0 t1 t2 t3
        exact ⟨(m0, m1, m2, n3), by simpa using t0, by simpa using t1, by simpa using t2, by simpa using t3, show m0 < 256 by omega, show m1 < 256 by omega, show m2 < 65536 by omega⟩
    obtain ⟨q, hq⟩ := Go.Deep.choose_lt each
    obtain ⟨b, o, s⟩ := a
    have hs : s = none := by simpa [Addr.add] using World.cell?_spot (hq 0 hpos).1
    subst hs
    have hq' : ∀ i, i < len → w.cell? ⟨b, o + i * 4, none⟩ = some (.int .u8 ((q i).1 : Int)) ∧ w.cell? ⟨b, o + i * 4 + 1, none⟩ = some (.int .u8 ((q i).2.1 : Int)) ∧ w.cell? ⟨b, o + i * 4 + 2, none⟩ = some (.int .u16 ((q i).2.2.1 : Int)) ∧ w.cell? ⟨b, o + i * 4 + 3, none⟩ = some (.int .i64 (q i).2.2.2) := fun i hi => by
      obtain ⟨t0, t1, t2, t3, _⟩ := hq i hi
      rw [Go.WideShapes.add_plain] at t0 t1 t2 t3
      exact ⟨t0, t1, t2, t3⟩
    have hb : b < w.heap.size := by
      have t0 := (hq' 0 hpos).1
      rcases Nat.lt_or_ge b w.heap.size with hl | hl
      · exact hl
      · have : w.heap[b]? = none := Array.getElem?_eq_none hl
        simp [World.cell?, this] at t0
    refine ⟨b, o, fun i => (q i).1 % 256, fun i => (q i).2.1 % 256, fun i => (q i).2.2.1 % 65536, fun i => (q i).2.2.2, rfl, fun i => Nat.mod_lt _ (by omega), fun i => Nat.mod_lt _ (by omega), fun i => Nat.mod_lt _ (by omega), hb, fun i hi => ?_⟩
    obtain ⟨_, _, _, _, l0, l1, l2⟩ := hq i hi
    show w.cell? ⟨b, o + i * 4, none⟩ = some (.int .u8 (((q i).1 % 256 : Nat) : Int)) ∧ w.cell? ⟨b, o + i * 4 + 1, none⟩ = some (.int .u8 (((q i).2.1 % 256 : Nat) : Int)) ∧ w.cell? ⟨b, o + i * 4 + 2, none⟩ = some (.int .u16 (((q i).2.2.1 % 65536 : Nat) : Int)) ∧ w.cell? ⟨b, o + i * 4 + 3, none⟩ = some (.int .i64 (q i).2.2.2)
    rw [Nat.mod_eq_of_lt l0, Nat.mod_eq_of_lt l1, Nat.mod_eq_of_lt l2]
    exact hq' i hi

/-! ### STEP 1: THE WALK: the Go text returns true, and writes nothing that was there -/
theorem walk (a0 : Option Addr) (len0 cap0 : Nat) (a1 : Int) (w : World) (w0 : IsEvs w a0 len0 cap0) (w1 : (Lit.int .u8 a1).wf = true) :
    Calls Yba.prog 4 #[.slice a0 len0 cap0, .int .u8 a1] w fun e w' => e = .returned (.bool true) ∧ Below w.heap.size w w' := by
  have hb := bounds_u8 w1
  obtain ⟨f, rfl⟩ := Int.eq_ofNat_of_zero_le hb.1
  obtain ⟨hnc, hc, hev⟩ := w0
  rcases Nat.lt_or_ge 65536 len0 with hbig | hbig
  · exact law_long a0 len0 cap0 f w hbig hnc hc
  rcases Nat.eq_zero_or_pos len0 with h0 | hpos
  · subst h0
    exact law_none a0 cap0 f w hc (by omega)
  · obtain ⟨b, o, P, K, S, ln, rfl, hP, hK, hS, he⟩ := hev hpos
    exact law_some b o len0 cap0 f P K S ln w hpos hbig hnc hc hP hK hS he (by omega)

/-! ### THE ROW's STEP: WRITTEN OUT: LEAVE IT -/
set_option maxRecDepth 100000 in
theorem lifted (os : Os) (started : os.Started) (H : Type) (enc : TypeId × Value → H) :
    ReturnsInHanded {} Yba.checked os 4 .any (Rows.lawS5671CWholeSpec.pre6 enc Yba.prog Yba.f4 Rows.lawS5671CWholeRow.domain false) (Rows.lawS5671CWholeSpec.post enc Yba.prog Yba.f4 false true false false) := by
  refine returnsInHanded_of_change (C := Yba.checked) own started (by kernel_rfl) Yba.func4
    (ChangeSpec.witness6 (enc := enc) (C := Yba.checked) false ⟨#[], #[.slice none 0 0, .int .u8 0], []⟩ 8 (by kernel_rfl) (by kernel_rfl) (by kernel_rfl) (by kernel_rfl)) ?_
  intro W base args ds gs before hval0 hW hcnd _
  have hval : ∀ (j : Nat) t v, Yba.f4.params[j]? = some t → args[j]? = some v → Value.okWide Yba.prog W .any base t v := hval0
  have hW' := hW
  obtain ⟨p, q, hA0, hV, rfl, hfz, hnd⟩ := hW
  have hA : DataW.TrodAll enc Yba.prog W 0 (fun _ => true) true Yba.f4.params.toList args.toList ds p := hA0
  rw [Yba.params4] at hA hval
  obtain ⟨v0, vs0, d0, ds0, p0, q0, hargs, rfl, rfl, h0, r0⟩ := trodAll_cons hA
  obtain ⟨v1, vs1, d1, ds1, p1, q1, rfl, rfl, rfl, h1, r1⟩ := trodAll_cons r0
  obtain ⟨rfl, rfl, rfl⟩ := trodAll_nil r1
  obtain rfl : args = #[v0, v1] := by cases args; simp_all
  obtain ⟨rfl, rfl⟩ := trodVars_none hV
  obtain ⟨a0, len0, cap0, rfl⟩ := okWide_slice Yba.underlying42 (hval 0 42 v0 rfl rfl)
  have k0 := h0
  have lt0 : ∀ x ∈ p0, x.block < W.heap.size := by obtain ⟨m, hm⟩ := k0; exact DataW.trod_lt m _ _ _ hm
  have w0 : IsEvs W a0 len0 cap0 := by
    obtain ⟨fuel, hf⟩ := h0
    exact opened (by simpa [Value.cells] using hf)
  obtain ⟨a1, rfl, rfl, rfl, w1⟩ := open_int Yba.underlying5 (hval 1 5 v1 rfl rfl) h1
  clear hA0 hval0
  refine (walk a0 len0 cap0 a1 W w0 w1).mono fun e W' ⟨he, bel⟩ => ?_
  subst he
  exact ⟨_, rfl, _, _, _, [], _, [], hW', trodAll_mk1 (shut_bool Yba.underlying4 _), (trodAll_cons_mk (Below.trod laidOut (by kernel_rfl) (of_decide_eq_true (by kernel_rfl)) k0 bel lt0) (trodAll_cons_mk (shut_int Yba.underlying5 w1) trodAll_mk0)), rfl, bel.frame _, fun h => by cases h⟩

theorem over : Rows.lawS5671CWholeRow.holds Yba.pinned (OpenSpec.ofChange Rows.lawS5671CWholeSpec) :=
  OpenClaim.holds_of_wide 4 Yba.f4 rfl rfl rfl rfl rfl rfl rfl ⟨rfl, rfl, rfl, rfl, rfl⟩ rfl rfl rfl rfl rfl (by kernel_rfl) Yba.func4 (by kernel_rfl)
    (of_decide_eq_true (by kernel_rfl)) (by unfold Func.isWrapper; first | (rw [if_pos (by decide +kernel)]; kernel_rfl) | (rw [if_neg (by decide +kernel)]; exact ⟨rfl, rfl⟩))
    (fun os started H enc _ => lifted os started H enc)

/-- ████ THE STATEMENT ████ -/
theorem proved : Rows.LawS5671CWholeSaid := over
end Go.Proofs.Ybulkdmkq.lawS5671CWhole
