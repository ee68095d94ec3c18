import Derived.Test.YbulkdmkqC1
namespace Go.Proofs.Ybulkdmkq.lawS5671CWhole
open Go.RowKit
set_option linter.unusedVariables false
open Go.Deep

/-- one cell of the three clocks, behind i events -/
def clk (p : Nat → Nat) (K f : Nat) (bad : Value) (i o : Nat) : Value :=
  if o % 5 = 0 then .int .i64 ((o / 5 : Nat) : Int) else if o % 5 = 1 then .int .i64 ((cnt p (o / 5) i : Nat) : Int) else if o % 5 = 2 then .pointer (some ⟨K, 0, none⟩) else if o % 5 = 3 then .int .i64 (f : Int) else bad
theorem clk0 (p : Nat → Nat) (K f : Nat) (bad : Value) (i j : Nat) : clk p K f bad i (j * 5) = .int .i64 (j : Int) := by
  unfold clk; rw [if_pos (by omega), show j * 5 / 5 = j by omega]
theorem clk1 (p : Nat → Nat) (K f : Nat) (bad : Value) (i j : Nat) : clk p K f bad i (j * 5 + 1) = .int .i64 ((cnt p j i : Nat) : Int) := by
  unfold clk; rw [if_neg (by omega), if_pos (by omega), show (j * 5 + 1) / 5 = j by omega]
theorem clk2 (p : Nat → Nat) (K f : Nat) (bad : Value) (i j : Nat) : clk p K f bad i (j * 5 + 2) = .pointer (some ⟨K, 0, none⟩) := by
  unfold clk; rw [if_neg (by omega), if_neg (by omega), if_pos (by omega)]
theorem clk3 (p : Nat → Nat) (K f : Nat) (bad : Value) (i j : Nat) : clk p K f bad i (j * 5 + 3) = .int .i64 (f : Int) := by
  unfold clk; rw [if_neg (by omega), if_neg (by omega), if_neg (by omega), if_pos (by omega)]
theorem clk4 (p : Nat → Nat) (K f : Nat) (bad : Value) (i j : Nat) : clk p K f bad i (j * 5 + 4) = bad := by
  unfold clk; rw [if_neg (by omega), if_neg (by omega), if_neg (by omega), if_neg (by omega)]
theorem clk_step (p : Nat → Nat) (K f : Nat) (bad : Value) (i o : Nat) : (if o = p i * 5 + 1 then .int .i64 ((cnt p (p i) i : Int) + 1) else clk p K f bad i o) = clk p K f bad (i + 1) o := by
  by_cases h : o = p i * 5 + 1
  · subst h
    rw [if_pos rfl, clk1, cnt_own]
    rfl
  · rw [if_neg h]
    unfold clk
    by_cases h1 : o % 5 = 1
    · have : o / 5 ≠ p i := by omega
      rw [cnt_other p _ i this]
    · simp [h1]

/-- one cell of the events -/
def evc (p k x : Nat → Nat) (ln : Nat → Int) (o : Nat) : Value :=
  if o % 7 = 0 then .string (name (p (o / 7))) else if o % 7 = 1 then .int .i64 (((o / 7 : Nat) : Int) + 1) else if o % 7 = 2 then .string (kind (k (o / 7))) else if o % 7 = 3 then .string ByteArray.empty else if o % 7 = 4 then .string ByteArray.empty
  else if o % 7 = 5 then .int .i64 ((x (o / 7) : Nat) : Int) else .int .i64 (ln (o / 7))
section
variable (p k x : Nat → Nat) (ln : Nat → Int) (i : Nat)
theorem evc0 : evc p k x ln (i * 7) = .string (name (p i)) := by unfold evc; rw [if_pos (by omega), show i * 7 / 7 = i by omega]
theorem evc1 : evc p k x ln (i * 7 + 1) = .int .i64 ((i : Int) + 1) := by unfold evc; rw [if_neg (by omega), if_pos (by omega), show (i * 7 + 1) / 7 = i by omega]
theorem evc2 : evc p k x ln (i * 7 + 2) = .string (kind (k i)) := by unfold evc; rw [if_neg (by omega), if_neg (by omega), if_pos (by omega), show (i * 7 + 2) / 7 = i by omega]
theorem evc3 : evc p k x ln (i * 7 + 3) = .string ByteArray.empty := by unfold evc; rw [if_neg (by omega), if_neg (by omega), if_neg (by omega), if_pos (by omega)]
theorem evc4 : evc p k x ln (i * 7 + 4) = .string ByteArray.empty := by unfold evc; rw [if_neg (by omega), if_neg (by omega), if_neg (by omega), if_neg (by omega), if_pos (by omega)]
theorem evc5 : evc p k x ln (i * 7 + 5) = .int .i64 ((x i : Nat) : Int) := by unfold evc; rw [if_neg (by omega), if_neg (by omega), if_neg (by omega), if_neg (by omega), if_neg (by omega), if_pos (by omega), show (i * 7 + 5) / 7 = i by omega]
theorem evc6 : evc p k x ln (i * 7 + 6) = .int .i64 (ln i) := by unfold evc; rw [if_neg (by omega), if_neg (by omega), if_neg (by omega), if_neg (by omega), if_neg (by omega), if_neg (by omega), show (i * 7 + 6) / 7 = i by omega]
end

/-- WHAT LIES IN MEMORY WHILE THE EVENTS ARE STAMPED: a askings logged, b clock calls, the clocks behind c events, the stamps behind d -/
structure Mid (w : World) (L K C G n f B : Nat) (bad : Value) (p k x : Nat → Nat) (a b c d : Nat) (lv : Value) (wr : World) : Prop where
  os : wr.os = w.os
  tape : wr.tape = w.tape
  output : wr.output = w.output
  size : B ≤ wr.heap.size
  old : ∀ q, q < B → q ≠ L → q ≠ K → q ≠ C → wr.heap[q]? = w.heap[q]?
  log : wr.heap[L]? = some (.cells #[lv] 51 (0, 0))
  own : wr.ownsRow B 9 1 lv a ((List.range a).map fun m => .string (name (p m)))
  calls : wr.heap[K]? = some (.cells #[.int .i64 (b : Int)] 3 (0, 0))
  clocks : wr.rowIs C 50 15 (clk p K f bad c)
  row : wr.rowIs G 3 n (fun j => .int .i64 (stamps p k x d j))

namespace Mid
variable {w : World} {L K C G n f B : Nat} {bad : Value} {p k x : Nat → Nat} {a b c d : Nat} {lv : Value} {wr : World}
theorem alloc (h : Mid w L K C G n f B bad p k x a b c d lv wr) (hL : L < B) (hK : K < B) (o : Obj) : Mid w L K C G n f B bad p k x a b c d lv (wr.alloc o) := by
  have hs := h.size
  exact ⟨h.os, h.tape, h.output, by rw [World.size_alloc]; omega, fun q h1 h2 h3 h4 => by rw [Below.heap_alloc _ _ _ (by omega)]; exact h.old q h1 h2 h3 h4,
    by rw [Below.heap_alloc _ _ _ (by omega)]; exact h.log, h.own.alloc _, by rw [Below.heap_alloc _ _ _ (by omega)]; exact h.calls, h.clocks.alloc _, h.row.alloc _⟩
theorem drewN (h : Mid w L K C G n f B bad p k x a b c d lv wr) (q : Nat) : Mid w L K C G n f B bad p k x a b c d lv (wr.drewN q) :=
  ⟨h.os, h.tape, h.output, h.size, h.old, h.log, h.own, h.calls, h.clocks, h.row⟩
theorem asked (h : Mid w L K C G n f B bad p k x a b c d lv wr) {lv' : Value} {w1 : World} (hL : L < B) (hK : K < B) (hC : C < B) (hLK : L ≠ K) (hLC : L ≠ C)  (hGL : L ≠ G)
    (h1 : w1.heap[L]? = some (.cells #[lv'] 51 (0, 0))) (h2 : w1.ownsRow B 9 1 lv' (a + 1) ((List.range a).map (fun m => .string (name (p m))) ++ [.string (name (p a))])) (h3 : Kept (fun q => q = L ∨ lv.ownBlock = some q) wr w1) :
    Mid w L K C G n f B bad p k x (a + 1) b c d lv' w1 := by
  have hs := h.size
  have hno : ∀ q, q < B → ¬ lv.ownBlock = some q := fun q hq e => by have := (own_ge h.own e).1; omega
  have hG : ¬ lv.ownBlock = some G := fun e => by
    obtain ⟨_, cur, hc⟩ := own_ge h.own e
    obtain ⟨c2, hb, _⟩ := h.row
    rw [hc] at hb
    simp at hb
  refine ⟨h3.os.trans h.os, h3.tape.trans h.tape, h3.output.trans h.output, Nat.le_trans hs h3.size, fun q q1 q2 q3 q4 => ?_, h1, ?_, ?_, ?_, ?_⟩
  · rw [h3.block q (by omega) (by rintro (e | e); exact q2 e; exact hno q q1 e)]; exact h.old q q1 q2 q3 q4
  · rw [List.range_succ, List.map_append]; exact h2
  · rw [h3.block K (by omega) (by rintro (e | e); exact hLK e.symm; exact hno K hK e)]; exact h.calls
  · exact h.clocks.of_block (h3.block C (by omega) (by rintro (e | e); exact hLC e.symm; exact hno C hC e))
  · exact h.row.of_block (h3.block G h.row.lt (by rintro (e | e); exact hGL e.symm; exact hG e))
theorem called (h : Mid w L K C G n f B bad p k x a b c d lv wr) (hK : K < B) (hLK : L ≠ K) (hKC : C ≠ K) (hGK : G ≠ K) : Mid w L K C G n f B bad p k x a (b + 1) c d lv (wr.setCell ⟨K, 0, none⟩ (.int .i64 ((b : Int) + 1))) := by
  refine ⟨h.os, h.tape, h.output, ?_, fun q q1 q2 q3 q4 => ?_, ?_, ?_, ?_, ?_, ?_⟩
  · show _ ≤ (wr.heap.modify K _).size
    rw [Array.size_modify]; exact h.size
  · rw [Below.heap_setCell _ _ _ _ q3]; exact h.old q q1 q2 q3 q4
  · rw [Below.heap_setCell _ _ _ _ hLK]; exact h.log
  · exact ownsRow_setCell_below h.own hK _
  · exact one_setCell h.calls
  · exact h.clocks.setOther hKC _
  · exact h.row.setOther hGK _
theorem counted (h : Mid w L K C G n f B bad p k x a b c d lv wr) (hC : C < B) (hLC : L ≠ C) (hKC : C ≠ K) (hGC : G ≠ C) : Mid w L K C G n f B bad p k x a b (c + 1) d lv (wr.setCell ⟨C, p c * 5 + 1, none⟩ (.int .i64 ((cnt p (p c) c : Int) + 1))) := by
  refine ⟨h.os, h.tape, h.output, ?_, fun q q1 q2 q3 q4 => ?_, ?_, ?_, ?_, ?_, ?_⟩
  · show _ ≤ (wr.heap.modify C _).size
    rw [Array.size_modify]; exact h.size
  · rw [Below.heap_setCell _ _ _ _ q4]; exact h.old q q1 q2 q3 q4
  · rw [Below.heap_setCell _ _ _ _ hLC]; exact h.log
  · exact ownsRow_setCell_below h.own hC _
  · rw [Below.heap_setCell _ _ _ _ (Ne.symm hKC)]; exact h.calls
  · exact (h.clocks.set _ _).congr fun o _ => clk_step p K f bad c o
  · exact h.row.setOther hGC _
theorem stored (h : Mid w L K C G n f B bad p k x a b c d lv wr) (hLG : L ≠ G) (hKG : K ≠ G) (hCG : C ≠ G) (hB : B ≤ G) {v : Int} (hv : v = stampOf p k x (stamps p k x d) d) : Mid w L K C G n f B bad p k x a b c (d + 1) lv (wr.setCell ⟨G, d, none⟩ (.int .i64 v)) := by
  have hG : lv.ownBlock ≠ some G := fun e => by
    obtain ⟨_, cur, hc⟩ := own_ge h.own e
    obtain ⟨c2, hb, _⟩ := h.row
    rw [hc] at hb
    simp at hb
  refine ⟨h.os, h.tape, h.output, ?_, fun q q1 q2 q3 q4 => ?_, ?_, ?_, ?_, ?_, ?_⟩
  · show _ ≤ (wr.heap.modify G _).size
    rw [Array.size_modify]; exact h.size
  · rw [Below.heap_setCell _ _ _ _ (show q ≠ G by omega)]; exact h.old q q1 q2 q3 q4
  · rw [Below.heap_setCell _ _ _ _ hLG]; exact h.log
  · exact ownsRow_setCell_other h.own hG _
  · rw [Below.heap_setCell _ _ _ _ hKG]; exact h.calls
  · exact h.clocks.setOther hCG _
  · refine (h.row.set _ _).congr fun j _ => ?_
    show _ = Value.int .i64 (if j = d then stampOf p k x (stamps p k x d) d else stamps p k x d j)
    split
    · rw [hv]
    · rfl
end Mid
end Go.Proofs.Ybulkdmkq.lawS5671CWhole
