import Derived.Test.YbulkdmkqC5
namespace Go.Proofs.Ybulkdmkq.lawS5671CWhole
open Go.RowKit
set_option linter.unusedVariables false
open Go.Deep

/-- the world in which stampWith is called: the fault, the count of calls, the clocks, the log -/
def W3 (w1 : World) (f : Nat) : World :=
  (((w1.alloc (.cells #[.string { data := #[122, 122, 32, 99, 108, 111, 99, 107, 32, 102, 97, 117, 108, 116] }] 77)).alloc (.cells #[.int .i64 0] 3)).alloc
    (.cells #[.int .i64 0, .int .i64 0, .pointer (some ⟨w1.heap.size + 1, 0, none⟩), .int .i64 (f : Int), .iface 75 (.pointer (some ⟨w1.heap.size, 0, none⟩)),
      .int .i64 1, .int .i64 0, .pointer (some ⟨w1.heap.size + 1, 0, none⟩), .int .i64 (f : Int), .iface 75 (.pointer (some ⟨w1.heap.size, 0, none⟩)),
      .int .i64 2, .int .i64 0, .pointer (some ⟨w1.heap.size + 1, 0, none⟩), .int .i64 (f : Int), .iface 75 (.pointer (some ⟨w1.heap.size, 0, none⟩))] 50)).alloc (.cells #[.slice none 0 0] 51)

/-- WHAT IS KNOWN BEHIND stampWith: a askings were logged -/
structure After (w : World) (n O L a : Nat) (p k x : Nat → Nat) (ln : Nat → Int) (w4 : World) : Prop where
  base : Base w w4
  ev : Has w4 (w.heap.size + 1 + 1) 31 (n * 7) (evc p k x ln)
  orig : Has w4 O 31 (n * 7) (evc p k x ln)
  log : ∃ ao cl, w4.heap[L]? = some (.cells #[.slice ao a cl] 51 (0, 0)) ∧ (0 < a → ∃ g, ao = some ⟨g, 0, none⟩ ∧ Has w4 g 9 a (fun m => .string (name (p m))))
def LawOk (w w1 : World) (n O f : Nat) (p k x : Nat → Nat) (ln : Nat → Int) (e : Ending) (w4 : World) : Prop :=
  (∀ m, m < n → ¬ m + 1 = f) ∧ ∃ G, e = .returned (.tuple #[.slice (some ⟨G, 0, none⟩) n n, .nilIface]) ∧ Has w4 G 3 n (fun j => .int .i64 (stamps p k x n j)) ∧ After w n O (w1.heap.size + 1 + 1 + 1) n p k x ln w4
def LawBad (w w1 : World) (n O f : Nat) (p k x : Nat → Nat) (ln : Nat → Int) (e : Ending) (w4 : World) : Prop :=
  ∃ i X, i < n ∧ i + 1 = f ∧ e = .returned (.tuple #[.slice none 0 0, .iface 61 (.pointer (some ⟨X, 0, none⟩))]) ∧ w4.heap[X]? = some (.cells #[.int .i64 (ln i), .iface 75 (.pointer (some ⟨w1.heap.size, 0, none⟩))] 64 (0, 0)) ∧ After w n O (w1.heap.size + 1 + 1 + 1) (i + 1) p k x ln w4

theorem log_of_own {w : World} {B L a : Nat} {lv : Value} {p : Nat → Nat} (h1 : w.heap[L]? = some (.cells #[lv] 51 (0, 0))) (h2 : w.ownsRow B 9 1 lv a ((List.range a).map fun m => .string (name (p m)))) :
    ∃ ao cl, w.heap[L]? = some (.cells #[.slice ao a cl] 51 (0, 0)) ∧ (0 < a → ∃ g, ao = some ⟨g, 0, none⟩ ∧ Has w g 9 a (fun m => .string (name (p m)))) := by
  obtain ⟨_, hcase⟩ := h2
  rcases hcase with ⟨rfl, h0⟩ | ⟨g, cap, cur, rfl, hg, hh, hn, hcap, hsz, htake⟩
  · subst h0
    exact ⟨none, 0, h1, fun h => absurd h (Nat.lt_irrefl 0)⟩
  · refine ⟨_, cap, h1, fun _ => ⟨g, rfl, cur, hh, fun i hi => ?_⟩⟩
    have hx : ((List.range a).map fun m => Value.string (name (p m)))[i]? = some (.string (name (p i))) := by simp [hi]
    rw [← htake, List.getElem?_take_of_lt (by omega)] at hx
    simpa using hx
theorem size3 (w1 : World) (f : Nat) : (W3 w1 f).heap.size = w1.heap.size + 1 + 1 + 1 + 1 := by
  unfold W3
  rw [World.size_alloc, World.size_alloc, World.size_alloc, World.size_alloc]
theorem below3 (w1 : World) (f : Nat) : Below w1.heap.size w1 (W3 w1 f) := by
  unfold W3
  exact ((((Below.refl _ w1).alloc (Nat.le_refl _) _).alloc (by simp) _).alloc (by simp <;> omega) _).alloc (by simp <;> omega) _
theorem block3 (w1 : World) (f : Nat) : (W3 w1 f).heap[w1.heap.size + 1]? = some (.cells #[.int .i64 0] 3 (0, 0)) ∧ (W3 w1 f).heap[w1.heap.size + 1 + 1 + 1]? = some (.cells #[.slice none 0 0] 51 (0, 0)) := by
  constructor
  · unfold W3
    rw [Below.heap_alloc _ _ _ (by simp <;> omega), Below.heap_alloc _ _ _ (by simp)]
    have e : (w1.alloc (.cells #[.string { data := #[122, 122, 32, 99, 108, 111, 99, 107, 32, 102, 97, 117, 108, 116] }] 77)).heap.size = w1.heap.size + 1 := World.size_alloc _ _
    rw [← e]
    exact heap_top _ _
  · unfold W3
    rw [show w1.heap.size + 1 + 1 + 1 = (((w1.alloc (.cells #[.string { data := #[122, 122, 32, 99, 108, 111, 99, 107, 32, 102, 97, 117, 108, 116] }] 77)).alloc (.cells #[.int .i64 0] 3)).alloc
    (.cells #[.int .i64 0, .int .i64 0, .pointer (some ⟨w1.heap.size + 1, 0, none⟩), .int .i64 (f : Int), .iface 75 (.pointer (some ⟨w1.heap.size, 0, none⟩)),
      .int .i64 1, .int .i64 0, .pointer (some ⟨w1.heap.size + 1, 0, none⟩), .int .i64 (f : Int), .iface 75 (.pointer (some ⟨w1.heap.size, 0, none⟩)),
      .int .i64 2, .int .i64 0, .pointer (some ⟨w1.heap.size + 1, 0, none⟩), .int .i64 (f : Int), .iface 75 (.pointer (some ⟨w1.heap.size, 0, none⟩))] 50)).heap.size by rw [World.size_alloc, World.size_alloc, World.size_alloc]]
    exact heap_top _ _
theorem clk_lit (p : Nat → Nat) (K f : Nat) (bad : Value) (o : Nat) (ho : o < 15) : (#[.int .i64 0, .int .i64 0, .pointer (some ⟨K, 0, none⟩), .int .i64 (f : Int), bad, .int .i64 1, .int .i64 0, .pointer (some ⟨K, 0, none⟩), .int .i64 (f : Int), bad, .int .i64 2, .int .i64 0, .pointer (some ⟨K, 0, none⟩), .int .i64 (f : Int), bad] : Array Value)[o]? = some (clk p K f bad 0 o) := by
  match o, ho with
  | 0, _ => rfl
  | 1, _ => rfl
  | 2, _ => rfl
  | 3, _ => rfl
  | 4, _ => rfl
  | 5, _ => rfl
  | 6, _ => rfl
  | 7, _ => rfl
  | 8, _ => rfl
  | 9, _ => rfl
  | 10, _ => rfl
  | 11, _ => rfl
  | 12, _ => rfl
  | 13, _ => rfl
  | 14, _ => rfl
theorem clocks3 (w1 : World) (f : Nat) (p : Nat → Nat) : (W3 w1 f).rowIs (w1.heap.size + 1 + 1) 50 15 (clk p (w1.heap.size + 1) f (.iface 75 (.pointer (some ⟨w1.heap.size, 0, none⟩))) 0) := by
  refine ⟨_, ?_, ?_, clk_lit p (w1.heap.size + 1) f (.iface 75 (.pointer (some ⟨w1.heap.size, 0, none⟩)))⟩
  · unfold W3
    rw [Below.heap_alloc _ _ _ (by simp)]
    have e : ((w1.alloc (.cells #[.string { data := #[122, 122, 32, 99, 108, 111, 99, 107, 32, 102, 97, 117, 108, 116] }] 77)).alloc (.cells #[.int .i64 0] 3)).heap.size = w1.heap.size + 1 + 1 := by rw [World.size_alloc, World.size_alloc]
    rw [← e]
    exact heap_top _ _
  · rfl
theorem stamp_law {w wr w1 : World} {n O f : Nat} {p k x : Nat → Nat} {ln : Nat → Int} (hn : n ≤ 65536) (hp : ∀ i, i < n → p i < 3) (hx : ∀ i, i < n → x i < n) (hB : Base w wr) (hrow : wr.rowIs (w.heap.size + 1 + 1) 31 (n * 7) (evc p k x ln)) (hO : wr.heap.size ≤ O) (hhas : Has w1 O 31 (n * 7) (evc p k x ln)) (hbel : Below wr.heap.size wr w1) :
    Calls Yba.prog 11 #[.slice (some ⟨w.heap.size + 1 + 1, 0, none⟩) n n, .func (.func 9) #[] #[.pointer (some ⟨w1.heap.size + 1 + 1 + 1, 0, none⟩), .pointer (some ⟨w1.heap.size + 1 + 1, 0, none⟩)]] (W3 w1 f) fun e w4 =>
      LawOk w w1 n O f p k x ln e w4 ∨ LawBad w w1 n O f p k x ln e w4 := by
  have hElt := hrow.lt
  have hsz := hbel.size
  have s3 := size3 w1 f
  have hrow1 : w1.rowIs (w.heap.size + 1 + 1) 31 (n * 7) (evc p k x ln) := hrow.of_block (hbel.block _ hElt)
  have hrow3 : (W3 w1 f).rowIs (w.heap.size + 1 + 1) 31 (n * 7) (evc p k x ln) := hrow1.of_block ((below3 w1 f).block _ (by omega))
  have hOlt := hhas.lt
  have after : ∀ {a b' c d : Nat} {lv : Value} {w4 : World}, Mid (W3 w1 f) (w1.heap.size + 1 + 1 + 1) (w1.heap.size + 1) (w1.heap.size + 1 + 1) (W3 w1 f).heap.size n f (W3 w1 f).heap.size (.iface 75 (.pointer (some ⟨w1.heap.size, 0, none⟩))) p k x a b' c d lv w4 → After w n O (w1.heap.size + 1 + 1 + 1) a p k x ln w4 := by
    intro a b' c d lv w4 M
    have hb4 : Below w1.heap.size w1 w4 := (below3 w1 f).trans ⟨M.os, M.tape, M.output, M.size, fun q hq => M.old q (by omega) (by omega) (by omega) (by omega)⟩
    exact ⟨base_keep (base_keep hB (hbel.mono (by omega))) (hb4.mono (by omega)), has_of_row (hrow1.of_block (hb4.block _ (by omega))), hhas.of_block (hb4.block _ hOlt), log_of_own M.log M.own⟩
  refine (stamp_any (w1.heap.size + 1 + 1 + 1) (w1.heap.size + 1) (w1.heap.size + 1 + 1) (w.heap.size + 1 + 1) n f 75 (.pointer (some ⟨w1.heap.size, 0, none⟩)) p k x ln (W3 w1 f) hn hp hx (by omega) (by omega) (by omega) hrow3 (by omega) (by omega) (by omega) (by omega) (by omega) (by omega) (block3 w1 f).2 (block3 w1 f).1 (clocks3 w1 f p)).mono ?_
  rintro e w4 (⟨h1, h2, lv, M⟩ | ⟨i, X, lv, h1, h2, h3, h4, h5, M⟩)
  · exact .inl ⟨h1, _, h2, has_of_row M.row, after M⟩
  · exact .inr ⟨i, X, h1, h2, h3, h5, after M⟩
end Go.Proofs.Ybulkdmkq.lawS5671CWhole
