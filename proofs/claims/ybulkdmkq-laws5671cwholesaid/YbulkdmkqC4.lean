import Derived.Test.YbulkdmkqC2
namespace Go.Proofs.Ybulkdmkq.lawS5671CWhole
open Go.RowKit
set_option linter.unusedVariables false
open Go.Deep

/-- block b is a row of type t whose first m cells hold 'f' -/
def Has (w : World) (b : Nat) (t : TypeId) (m : Nat) (f : Nat → Value) : Prop := ∃ c : Array Value, w.heap[b]? = some (.cells c t (0, 0)) ∧ ∀ i, i < m → c[i]? = some (f i)
namespace Has
variable {w w' : World} {b : Nat} {t : TypeId} {m : Nat} {f : Nat → Value}
theorem cell (h : Has w b t m f) {i : Nat} (hi : i < m) : w.cell? ⟨b, i, none⟩ = some (f i) := by
  obtain ⟨c, hb, hc⟩ := h
  simp [World.cell?, hb, hc i hi]
theorem lt (h : Has w b t m f) : b < w.heap.size := by
  obtain ⟨c, hb, _⟩ := h
  exact lt_of_block hb
theorem of_block (h : Has w b t m f) (e : w'.heap[b]? = w.heap[b]?) : Has w' b t m f := by
  obtain ⟨c, hb, hc⟩ := h
  exact ⟨c, e.trans hb, hc⟩
end Has
theorem has_of_row {w : World} {b t n : Nat} {f : Nat → Value} (h : w.rowIs b t n f) : Has w b t n f := by
  obtain ⟨c, hb, _, hc⟩ := h
  exact ⟨c, hb, hc⟩
theorem has_of_own {w : World} {B e sz n : Nat} {v : Value} {xs : List Value} {f : Nat → Value} (h : w.ownsRow B e sz v n xs) (hnn : v ≠ .slice none 0 0) (hx : ∀ i, i < n * sz → xs[i]? = some (f i)) : ∃ O cap, v = .slice (some ⟨O, 0, none⟩) n cap ∧ n ≤ cap ∧ B ≤ O ∧ Has w O e (n * sz) f := by
  obtain ⟨_, hcase⟩ := h
  rcases hcase with ⟨h0, _⟩ | ⟨g, cap, cur, rfl, hg, hh, hn, hcap, hsz, htake⟩
  · exact absurd h0 hnn
  · refine ⟨g, cap, rfl, hn, hg, cur, hh, fun i hi => ?_⟩
    have := hx i hi
    rw [← htake, List.getElem?_take_of_lt hi] at this
    simpa using this
theorem info31 : (Yba.prog.info? 31).map (fun i => (i.zero, i.size, i.bytes)) = some (some (.agg #[.string ByteArray.empty, .int .i64 0, .string ByteArray.empty, .string ByteArray.empty, .string ByteArray.empty, .int .i64 0, .int .i64 0]), 7, 88) := by kernel_rfl
theorem eql_nil26 (w : World) (a : Option Addr) (n c n' c' : Nat) : (binOp .eql 26 (.slice a n c) (.slice none n' c')).run Yba.prog w = .ok (.bool a.isNone) w := Lib.run_eql_slice_nil w _ _ a n c n' c' Yba.underlying26
set_option maxHeartbeats 800000 in
theorem clone_any (E n : Nat) (g : Nat → Value) (w : World) (hE : w.rowIs E 31 (n * 7) g) (hone : ∀ o, (g o).oneCell' = true) (hn : n ≤ 65536) :
    Calls Yba.prog 5 #[.slice (some ⟨E, 0, none⟩) n n] w fun e w' => ∃ O cap, e = .returned (.slice (some ⟨O, 0, none⟩) n cap) ∧ n ≤ cap ∧ w.heap.size ≤ O ∧ Has w' O 31 (n * 7) g ∧ Below w.heap.size w w' := by
  obtain ⟨i0, hi, hz0, hz1, hz2⟩ := info_parts info31
  have q := eql_nil26
  have A : Hid (w.rowIs E 31 (n * 7) g) := hE
  clear hE
  go_enter Yba.func5, Yba.ntmps5
  go_wp2_with (at_builtin; refine wpList_append_own _ rfl _ _ 26 rfl w.heap.size 31 i0 (.agg #[.string ByteArray.empty, .int .i64 0, .string ByteArray.empty, .string ByteArray.empty, .string ByteArray.empty, .int .i64 0, .int .i64 0]) 7 88 Yba.underlying26 hi hz0 hz1 hz2 rfl (by decide) _ _ _ rfl (World.ownsRow_made w #[] 0 (Nat.le_refl _) (Nat.zero_le _) rfl) ⟨E, 0, none⟩ n n ((List.range (n * 7)).map g) rfl ?qc1 ?qc2 ?qc3 ?qc4 ?qc5 ?qc6 ?_)
  case qc1 => simp
  case qc2 =>
    intro j u hj
    have hjn : j < n * 7 := by
      have := (List.getElem?_eq_some_iff.1 hj).1
      simpa using this
    have e : ((List.range (n * 7)).map g)[j]? = some (g j) := by simp [hjn]
    rw [e] at hj
    rw [← hj]
    show (w.alloc _).cell? (Addr.add ⟨E, 0, none⟩ j) = _
    rw [Go.WideShapes.add_plain, Nat.zero_add, World.cell?_alloc_past _ _ _ A.out.lt]
    exact A.out.cell hjn
  case qc3 => intro u hu; obtain ⟨o, _, rfl⟩ := List.mem_map.1 hu; exact hone o
  case qc4 => unfold maxLen; omega
  case qc5 => omega
  case qc6 => simp
  intro v' w1 hown hgrow hnil
  have hnn : v' ≠ .slice none 0 0 := by first | exact hnil | (intro e; exact absurd (hnil.1 e).1 (by simp))
  obtain ⟨O, cap, hv, hcap, hO, hhas⟩ := has_of_own (f := g) (by simpa using hown) hnn (fun i hi => by simp [hi])
  have hb : Below w.heap.size w w1 := ((Below.refl _ w).alloc (Nat.le_refl _) _).grown hgrow (by simp) (by intro k hk; simp [Value.ownBlock] at hk; omega)
  have F : Hid (n ≤ cap ∧ w.heap.size ≤ O ∧ Has w1 O 31 (n * 7) g ∧ Below w.heap.size w w1) := ⟨hcap, hO, hhas, hb⟩
  clear hown hgrow hnil hnn hcap hO hhas hb
  rw [hv]
  clear hv
  go_wp2
  go_ret
  exact ⟨O, cap, rfl, F.out⟩
set_option maxHeartbeats 800000 in
theorem equalEvents (E O n cap : Nat) (p k x : Nat → Nat) (ln : Nat → Int) (w : World) (hE : Has w E 31 (n * 7) (evc p k x ln)) (hO : Has w O 31 (n * 7) (evc p k x ln)) (hn : n ≤ 65536) :
    Calls Yba.prog 7 #[.slice (some ⟨E, 0, none⟩) n n, .slice (some ⟨O, 0, none⟩) n cap] w fun e w' => e = .returned (.bool true) ∧ ∃ q, w' = w.drewN q := by
  go_enter Yba.func7, Yba.ntmps7
  go_wp2
  go_loopw [13] (fun t wr => ∃ i : Nat, i ≤ n ∧ t = .int .i64 i ∧ ∃ q, wr = w.drewN q) (fun t _ => n - (intOf t).toNat)
  case atStart => exact ⟨0, Nat.zero_le _, rfl, 0, rfl⟩
  case round =>
    obtain ⟨i, hi, rfl, q, rfl⟩ := hrel
    by_cases hlt : i < n
    · have c0 := hE.cell (i := i * 7) (by omega)
      have c1 := hE.cell (i := i * 7 + 1) (by omega)
      have c2 := hE.cell (i := i * 7 + 2) (by omega)
      have c3 := hE.cell (i := i * 7 + 3) (by omega)
      have c4 := hE.cell (i := i * 7 + 4) (by omega)
      have c5 := hE.cell (i := i * 7 + 5) (by omega)
      have c6 := hE.cell (i := i * 7 + 6) (by omega)
      have d0 := hO.cell (i := i * 7) (by omega)
      have d1 := hO.cell (i := i * 7 + 1) (by omega)
      have d2 := hO.cell (i := i * 7 + 2) (by omega)
      have d3 := hO.cell (i := i * 7 + 3) (by omega)
      have d4 := hO.cell (i := i * 7 + 4) (by omega)
      have d5 := hO.cell (i := i * 7 + 5) (by omega)
      have d6 := hO.cell (i := i * 7 + 6) (by omega)
      rw [evc0] at c0 d0
      rw [evc1] at c1 d1
      rw [evc2] at c2 d2
      rw [evc3] at c3 d3
      rw [evc4] at c4 d4
      rw [evc5] at c5 d5
      rw [evc6] at c6 d6
      clear hE hO
      go_wp2
      go_quiet (fail)
      go_wp2
      go_roundw
      case rel => exact ⟨i + 1, by omega, by go_num, _, rfl⟩
      case measure => simp [intOf]; omega
    · clear hE hO
      go_wp2
      go_ret
      exact ⟨rfl, _, rfl⟩
set_option maxHeartbeats 800000 in
theorem equalInts (G H n : Nat) (f : Nat → Int) (w : World) (hG : Has w G 3 n (fun j => .int .i64 (f j))) (hH : Has w H 3 n (fun j => .int .i64 (f j))) (hn : n ≤ 65536) :
    Calls Yba.prog 12 #[.slice (some ⟨G, 0, none⟩) n n, .slice (some ⟨H, 0, none⟩) n n] w fun e w' => e = .returned (.bool true) ∧ ∃ q, w' = w.drewN q := by
  go_enter Yba.func12, Yba.ntmps12
  go_wp2
  go_loopw [13] (fun t wr => ∃ i : Nat, i ≤ n ∧ t = .int .i64 i ∧ ∃ q, wr = w.drewN q) (fun t _ => n - (intOf t).toNat)
  case atStart => exact ⟨0, Nat.zero_le _, rfl, 0, rfl⟩
  case round =>
    obtain ⟨i, hi, rfl, q, rfl⟩ := hrel
    by_cases hlt : i < n
    · have c0 := hG.cell hlt
      have d0 := hH.cell hlt
      clear hG hH
      go_wp2
      go_quiet (fail)
      go_wp2
      go_roundw
      case rel => exact ⟨i + 1, by omega, by go_num, _, rfl⟩
      case measure => simp [intOf]; omega
    · clear hG hH
      go_wp2
      go_ret
      exact ⟨rfl, _, rfl⟩
end Go.Proofs.Ybulkdmkq.lawS5671CWhole
