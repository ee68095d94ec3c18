import Derived.Test.YbulkdmkqC3
import Derived.Test.YbulkdmkqC4
namespace Go.Proofs.Ybulkdmkq.lawS5671CWhole
open Go.RowKit
set_option linter.unusedVariables false
open Go.Deep
/-- the events as they came in: element i's four cells -/
def EvsAt (w : World) (b o n : Nat) (P K S : Nat → Nat) (ln : Nat → Int) : Prop :=
  b < w.heap.size ∧ ∀ i, i < n → w.cell? ⟨b, o + i * 4, none⟩ = some (.int .u8 (P i : Int)) ∧ w.cell? ⟨b, o + i * 4 + 1, none⟩ = some (.int .u8 (K i : Int)) ∧ w.cell? ⟨b, o + i * 4 + 2, none⟩ = some (.int .u16 (S i : Int)) ∧ w.cell? ⟨b, o + i * 4 + 3, none⟩ = some (.int .i64 (ln i))
/-- the events' row behind i rounds -/
def evp (p k x : Nat → Nat) (ln : Nat → Int) (f : Nat → Value) (i o : Nat) : Value := if o < i * 7 then evc p k x ln o else f o
def zero31 : Value := .agg #[.string ByteArray.empty, .int .i64 0, .string ByteArray.empty, .string ByteArray.empty, .string ByteArray.empty, .int .i64 0, .int .i64 0]
def zeroCells : Array Value := #[.string ByteArray.empty, .int .i64 0, .string ByteArray.empty, .string ByteArray.empty, .string ByteArray.empty, .int .i64 0, .int .i64 0]
theorem make_events (n : Nat) (hn : n ≤ 65536) (w : World) : (Instr.makeSlice 26 (.int .i64 (n : Int)) (.int .i64 (n : Int))).run Yba.prog w = .ok (.slice (some ⟨w.heap.size, 0, none⟩) n n) (w.alloc (.cells (madeCells zeroCells (n * 7)) 31)) := by
  obtain ⟨i0, hi, hz0, hz1, hz2⟩ := info_parts info31
  have hr := run_make (P := Yba.prog) w 26 31 i0 zero31 Yba.underlying26 hi hz0 .i64 .i64 n n (by omega) (Int.le_refl _) (by rw [hz2]; omega) (by omega)
  simp only [Int.toNat_natCast, hz1] at hr
  exact hr
theorem made_row (w : World) (n : Nat) : ∃ f, (w.alloc (.cells (madeCells zeroCells (n * 7)) 31)).rowIs w.heap.size 31 (n * 7) f := by
  refine ⟨fun o => ((madeCells zeroCells (n * 7))[o]?).getD undef, _, blk_alloc_new _ _, size_madeCells _ _, fun i hi => ?_⟩
  have hs : i < (madeCells zeroCells (n * 7)).size := by rw [size_madeCells]; exact hi
  simp [hs]

def namesObj : Obj := .cells #[.string { data := #[112] }, .string { data := #[113] }, .string { data := #[114] }] 23
def kindsObj : Obj := .cells #[.string { data := #[108, 111, 99, 97, 108] }, .string { data := #[115, 101, 110, 100] }, .string { data := #[114, 101, 99, 118] }, .string { data := #[111, 116, 104, 101, 114] }] 43
/-- what is known behind the two tables: they lie at N and N + 1, all below N is old -/
structure Base (w wr : World) : Prop where
  below : Below w.heap.size w wr
  names : Has wr w.heap.size 23 3 (fun j => .string (name j))
  kinds : Has wr (w.heap.size + 1) 43 4 (fun j => .string (kind j))
theorem base_start (w : World) (o : Obj) : Base w (((w.alloc namesObj).alloc kindsObj).alloc o) := by
  have e1 : (w.alloc namesObj).heap.size = w.heap.size + 1 := World.size_alloc _ _
  have e2 : ((w.alloc namesObj).alloc kindsObj).heap.size = w.heap.size + 1 + 1 := by rw [World.size_alloc, e1]
  refine ⟨(((Below.refl _ w).alloc (Nat.le_refl _) _).alloc (by omega) _).alloc (by omega) _, ⟨#[.string { data := #[112] }, .string { data := #[113] }, .string { data := #[114] }], ?_, ?_⟩, ⟨#[.string { data := #[108, 111, 99, 97, 108] }, .string { data := #[115, 101, 110, 100] }, .string { data := #[114, 101, 99, 118] }, .string { data := #[111, 116, 104, 101, 114] }], ?_, ?_⟩⟩
  · rw [Below.heap_alloc _ _ _ (by omega), Below.heap_alloc _ _ _ (by omega)]
    exact heap_top w namesObj
  · intro i hi
    match i, hi with
    | 0, _ => rfl
    | 1, _ => rfl
    | 2, _ => rfl
  · rw [Below.heap_alloc _ _ _ (by omega), ← e1]
    exact heap_top _ kindsObj
  · intro i hi
    match i, hi with
    | 0, _ => rfl
    | 1, _ => rfl
    | 2, _ => rfl
    | 3, _ => rfl
theorem base_keep {w wr w' : World} (h : Base w wr) (hb : Below (w.heap.size + 2) wr w') : Base w w' := by
  exact ⟨h.below.trans (hb.mono (by omega)), h.names.of_block (hb.block _ (by omega)), h.kinds.of_block (hb.block _ (by omega))⟩
theorem evp_step (p k x : Nat → Nat) (ln : Nat → Int) (f0 : Nat → Value) (i j : Nat) :
    (if j = i * 7 + 6 then .int .i64 (ln i) else if j = i * 7 + 5 then .int .i64 ((x i : Nat) : Int) else if j = i * 7 + 4 then .string { data := #[] } else if j = i * 7 + 3 then .string { data := #[] } else if j = i * 7 + 2 then .string (kind (k i)) else if j = i * 7 + 1 then .int .i64 ((i : Int) + 1) else if j = i * 7 then .string (name (p i)) else evp p k x ln f0 i j) = evp p k x ln f0 (i + 1) j := by
  by_cases h6 : j = i * 7 + 6
  · rw [if_pos h6, h6]; unfold evp; rw [if_pos (by omega), evc6]
  rw [if_neg h6]
  by_cases h5 : j = i * 7 + 5
  · rw [if_pos h5, h5]; unfold evp; rw [if_pos (by omega), evc5]
  rw [if_neg h5]
  by_cases h4 : j = i * 7 + 4
  · rw [if_pos h4, h4]; unfold evp; rw [if_pos (by omega), evc4]; rfl
  rw [if_neg h4]
  by_cases h3 : j = i * 7 + 3
  · rw [if_pos h3, h3]; unfold evp; rw [if_pos (by omega), evc3]; rfl
  rw [if_neg h3]
  by_cases h2 : j = i * 7 + 2
  · rw [if_pos h2, h2]; unfold evp; rw [if_pos (by omega), evc2]
  rw [if_neg h2]
  by_cases h1 : j = i * 7 + 1
  · rw [if_pos h1, h1]; unfold evp; rw [if_pos (by omega), evc1]
  rw [if_neg h1]
  by_cases h0 : j = i * 7
  · rw [if_pos h0, h0]; unfold evp; rw [if_pos (by omega), evc0]
  rw [if_neg h0]
  unfold evp
  by_cases hl : j < i * 7
  · rw [if_pos hl, if_pos (by omega)]
  · rw [if_neg hl, if_neg (by omega)]
theorem event_step {w wr : World} {n i : Nat} {p k x : Nat → Nat} {ln : Nat → Int} {f0 : Nat → Value} {v5 : Int} (hB : Base w wr) (hrow : wr.rowIs (w.heap.size + 1 + 1) 31 (n * 7) (evp p k x ln f0 i)) (h5 : v5 = ((x i : Nat) : Int)) (X : Obj) :
    Base w ((((((((wr.setCell ⟨w.heap.size + 1 + 1, i * 7, none⟩ (.string (name (p i)))).setCell ⟨w.heap.size + 1 + 1, i * 7 + 1, none⟩ (.int .i64 ((i : Int) + 1))).setCell ⟨w.heap.size + 1 + 1, i * 7 + 2, none⟩ (.string (kind (k i)))).setCell ⟨w.heap.size + 1 + 1, i * 7 + 3, none⟩ (.string { data := #[] })).setCell ⟨w.heap.size + 1 + 1, i * 7 + 4, none⟩ (.string { data := #[] })).setCell ⟨w.heap.size + 1 + 1, i * 7 + 5, none⟩ (.int .i64 v5)).setCell ⟨w.heap.size + 1 + 1, i * 7 + 6, none⟩ (.int .i64 (ln i))).alloc X).drew ∧
    ((((((((wr.setCell ⟨w.heap.size + 1 + 1, i * 7, none⟩ (.string (name (p i)))).setCell ⟨w.heap.size + 1 + 1, i * 7 + 1, none⟩ (.int .i64 ((i : Int) + 1))).setCell ⟨w.heap.size + 1 + 1, i * 7 + 2, none⟩ (.string (kind (k i)))).setCell ⟨w.heap.size + 1 + 1, i * 7 + 3, none⟩ (.string { data := #[] })).setCell ⟨w.heap.size + 1 + 1, i * 7 + 4, none⟩ (.string { data := #[] })).setCell ⟨w.heap.size + 1 + 1, i * 7 + 5, none⟩ (.int .i64 v5)).setCell ⟨w.heap.size + 1 + 1, i * 7 + 6, none⟩ (.int .i64 (ln i))).alloc X).drew.rowIs (w.heap.size + 1 + 1) 31 (n * 7) (evp p k x ln f0 (i + 1)) := by
  subst h5
  have hsz := hrow.lt
  have hs := ((((((hrow.set (i * 7) (.string (name (p i)))).set (i * 7 + 1) (.int .i64 ((i : Int) + 1))).set (i * 7 + 2) (.string (kind (k i)))).set (i * 7 + 3) (.string { data := #[] })).set (i * 7 + 4) (.string { data := #[] })).set (i * 7 + 5) (.int .i64 ((x i : Nat) : Int))).set (i * 7 + 6) (.int .i64 (ln i))
  refine ⟨base_keep hB ?_, ?_⟩
  · have b0 := (((((((Below.refl (w.heap.size + 2) wr).setCell (p := ⟨w.heap.size + 1 + 1, i * 7, none⟩) (Nat.le_refl _) (.string (name (p i)))).setCell (p := ⟨w.heap.size + 1 + 1, i * 7 + 1, none⟩) (Nat.le_refl _) (.int .i64 ((i : Int) + 1))).setCell (p := ⟨w.heap.size + 1 + 1, i * 7 + 2, none⟩) (Nat.le_refl _) (.string (kind (k i)))).setCell (p := ⟨w.heap.size + 1 + 1, i * 7 + 3, none⟩) (Nat.le_refl _) (.string { data := #[] })).setCell (p := ⟨w.heap.size + 1 + 1, i * 7 + 4, none⟩) (Nat.le_refl _) (.string { data := #[] })).setCell (p := ⟨w.heap.size + 1 + 1, i * 7 + 5, none⟩) (Nat.le_refl _) (.int .i64 ((x i : Nat) : Int))).setCell (p := ⟨w.heap.size + 1 + 1, i * 7 + 6, none⟩) (Nat.le_refl _) (.int .i64 (ln i))
    exact (b0.alloc (by have := hs.lt; omega) X).drew
  · exact ((hs.alloc X).drew).congr fun j _ => evp_step p k x ln f0 i j
theorem evc_one (p k x : Nat → Nat) (ln : Nat → Int) (o : Nat) : (evc p k x ln o).oneCell' = true := by
  unfold evc
  repeat' split
  all_goals rfl
end Go.Proofs.Ybulkdmkq.lawS5671CWhole
