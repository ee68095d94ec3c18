import Derived.Test.YbulkdmleB1
namespace Go.Proofs.Ybulkdmle.lawS5672BWhole
open Go.RowKit
set_option linter.unusedVariables false

/-- a slice of bytes that came in, as the walk wants it: nil, or a row of cells -/
def IsForm (w : World) (a : Option Addr) (n c : Nat) (xs : List Int) : Prop :=
  xs.length = n ∧ n ≤ c ∧ c ≤ maxLen ∧ (a = none → n = 0 ∧ c = 0) ∧ ∀ x, a = some x → ∀ i, i < n → w.cell? (x.add i) = some (.int .u8 (xs.getD i 0))

theorem conv_empty (w : World) (p : Option Addr) (c : Nat) : (convert 29 9 (.slice p 0 c)).run Yba.prog w = .ok (.string (strOfNums [])) w := by
  rw [run_convert_bytes_string w 29 9 5 _ 0 c Yba.underlying29 Yba.underlying5 Yba.underlying9]
  have e : strOfNums [] = ByteArray.empty := rfl
  rw [e]
  cases p <;> simp [Conv.bytesToString, loadCells, loadCellsFrom]
theorem lt_of_cell {w : World} {b o : Nat} {v : Value} (h : w.cell? ⟨b, o, none⟩ = some v) : b < w.heap.size := by
  rcases Nat.lt_or_ge b w.heap.size with hl | hl
  · exact hl
  · have : w.heap[b]? = none := Array.getElem?_eq_none hl
    simp [World.cell?, this] at h
theorem form_at {w : World} {a : Option Addr} {n c : Nat} {xs : List Int} (h : IsForm w a n c xs) (hn : 0 < n) : ∃ b o, a = some ⟨b, o, none⟩ ∧ b < w.heap.size ∧ ∀ i, i < n → w.cell? ⟨b, o + i, none⟩ = some (.int .u8 (xs.getD i 0)) := by
  obtain ⟨_, _, _, hnil, hc⟩ := h
  cases a with
  | none => have := (hnil rfl).1; omega
  | some x =>
    obtain ⟨b, o, s⟩ := x
    have hc' := hc _ rfl
    have hs : s = none := by simpa [Addr.add] using World.cell?_spot (hc' 0 hn)
    subst hs
    have hcell : ∀ i, i < n → w.cell? ⟨b, o + i, none⟩ = some (.int .u8 (xs.getD i 0)) := fun i hi => by rw [← Go.WideShapes.add_plain]; exact hc' i hi
    exact ⟨b, o, rfl, lt_of_cell (hcell 0 hn), hcell⟩
theorem conv_form {w w2 : World} {a : Option Addr} {n c : Nat} {xs : List Int} (h : IsForm w a n c xs) (hb : Below w.heap.size w w2) : (convert 29 9 (.slice a n c)).run Yba.prog w2 = .ok (.string (strOfNums xs)) w2 := by
  rcases Nat.eq_zero_or_pos n with hn | hn
  · subst hn
    obtain rfl : xs = [] := List.eq_nil_of_length_eq_zero h.1
    exact conv_empty w2 a c
  · obtain ⟨b, o, rfl, hlt, hc⟩ := form_at h hn
    exact run_convert_bytes_arg w2 29 5 Yba.underlying29 Yba.underlying5 b o n c xs h.1 (fun i hi => by rw [hb.cell (p := ⟨b, o + i, none⟩) hlt]; exact hc i hi) 9 Yba.underlying9
theorem conv_own {w w2 : World} {B : Nat} {v : Value} {n : Nat} {xs : List Int} (hx : xs.length = n) (h : w.ownsRow B 5 1 v n (xs.map (Value.int .u8))) (hb : Below w.heap.size w w2) : (convert 29 9 v).run Yba.prog w2 = .ok (.string (strOfNums xs)) w2 := by
  have h0 := h
  obtain ⟨_, hcase⟩ := h
  rcases hcase with ⟨rfl, hn⟩ | ⟨g, cap, cur, rfl, _, hh, hn, hcap, hsz, htake⟩
  · subst hn
    obtain rfl : xs = [] := List.eq_nil_of_length_eq_zero hx
    exact conv_empty w2 none 0
  · have hlt : g < w.heap.size := (Array.getElem?_eq_some_iff.1 hh).1
    refine run_convert_bytes_arg w2 29 5 Yba.underlying29 Yba.underlying5 g 0 n cap xs hx (fun i hi => ?_) 9 Yba.underlying9
    rw [hb.cell (p := ⟨g, 0 + i, none⟩) hlt, Nat.zero_add, h0.cellAt i (by omega)]
    simp [List.getD, List.getElem?_eq_getElem (show i < xs.length by omega)]

/-- bytes.Clone of whatever slice of bytes came in -/
theorem form_clone {w : World} {a : Option Addr} {n c : Nat} {xs : List Int} (h : IsForm w a n c xs) (hbig : n ≤ 1048576) :
    Calls Yba.prog 6 #[.slice a n c] w fun e w' => ∃ a' n' c', e = .returned (.slice a' n' c') ∧ a'.isNone = a.isNone ∧ Below w.heap.size w w' ∧
      ∀ w2, Below w'.heap.size w' w2 → (convert 29 9 (.slice a' n' c')).run Yba.prog w2 = .ok (.string (strOfNums xs)) w2 := by
  cases a with
  | none =>
    obtain ⟨hx, _, _, hnil, _⟩ := h
    obtain ⟨rfl, rfl⟩ := hnil rfl
    obtain rfl : xs = [] := List.eq_nil_of_length_eq_zero hx
    refine (bytesClone_nil w).mono fun e w' ⟨he, hw⟩ => ?_
    subst he; subst hw
    exact ⟨none, 0, 0, rfl, rfl, Below.refl _ _, fun w2 _ => conv_empty w2 none 0⟩
  | some x =>
    refine (bytesClone_at x n c xs w h.1 (by omega) (h.2.2.2.2 x rfl)).mono fun e w' ⟨v, he, hown, hnn, hb⟩ => ?_
    subst he
    have hown0 := hown
    obtain ⟨_, hcase⟩ := hown
    rcases hcase with ⟨h0, _⟩ | ⟨g, cap, cur, rfl, _⟩
    · exact absurd h0 hnn
    · exact ⟨_, _, _, rfl, rfl, hb, fun w2 h2 => conv_own h.1 hown0 h2⟩
theorem sameform_any {w0 : World} {a : Option Addr} {n c : Nat} {xs : List Int} (h : IsForm w0 a n c xs) (w : World) : Calls Yba.prog 10 #[.slice a n c, .slice a n c] w fun e w' => e = .returned (.bool true) ∧ ∃ k, w' = w.drewN k := by
  rcases Nat.eq_zero_or_pos n with hn | hn
  · subst hn
    cases a with
    | none => obtain ⟨_, rfl⟩ := h.2.2.2.1 rfl; exact sameform_nil w
    | some x => exact sameform_empty x c w h.2.2.1
  · obtain ⟨b, o, rfl, _, _⟩ := form_at h hn
    exact sameform_some b o n c w hn h.2.1 h.2.2.1
theorem eql34 {w : World} {A B : Nat} {ca cb : Array Value} (hne : A ≠ B) (ha : w.heap[A]? = some (.cells ca 42)) (hb : w.heap[B]? = some (.cells cb 42)) :
    (binOp .eql 34 (.pointer (some ⟨A, 0, none⟩)) (.pointer (some ⟨B, 0, none⟩))).run Yba.prog w = .ok (.bool false) w := by
  obtain ⟨j, hj, hs⟩ : ∃ j, Yba.prog.info? 42 = some j ∧ j.size ≠ 0 := by
    have e : (Yba.prog.info? 42).map (fun i => decide (i.size = 0)) = some false := by kernel_rfl
    obtain ⟨j, hj, h0⟩ := Option.map_eq_some_iff.1 e
    exact ⟨j, hj, by simpa using h0⟩
  exact run_eql_ptr_other w Yba.underlying34 hj hs (fun e => hne (congrArg Addr.block e)) ha hb
theorem heap_top (w : World) (o : Obj) : (w.alloc o).heap[w.heap.size]? = some o := by
  show (w.heap.push o)[w.heap.size]? = some o
  simp
theorem heap_two (w : World) (o1 o2 : Obj) (k : Nat) : (((w.alloc o1).alloc o2).drewN k).heap[w.heap.size + 1]? = some o2 ∧ (((w.alloc o1).alloc o2).drewN k).heap[w.heap.size]? = some o1 := by
  have e1 : (w.alloc o1).heap.size = w.heap.size + 1 := World.size_alloc _ _
  constructor
  · show ((w.alloc o1).alloc o2).heap[w.heap.size + 1]? = some o2
    rw [← e1]
    exact heap_top _ _
  · show ((w.alloc o1).alloc o2).heap[w.heap.size]? = some o1
    rw [Below.heap_alloc _ _ _ (by omega)]
    exact heap_top _ _
theorem heap_three (w : World) (o1 o2 o3 : Obj) (k : Nat) : ((((w.alloc o1).alloc o2).alloc o3).drewN k).heap[w.heap.size + 1 + 1]? = some o3 ∧ ((((w.alloc o1).alloc o2).alloc o3).drewN k).heap[w.heap.size + 1]? = some o2 := by
  have e1 : (w.alloc o1).heap.size = w.heap.size + 1 := World.size_alloc _ _
  have h := heap_two (w.alloc o1) o2 o3 k
  rw [e1] at h
  exact h
set_option maxHeartbeats 1000000 in
theorem law_bare {w : World} {a : Option Addr} {n c : Nat} {xs : List Int} (i : Int) (f s t1 t2 t3 : Nat) (h : IsForm w a n c xs) (hbig : n ≤ 1048576) :
    Calls Yba.prog 4 #[.int .i64 i, .float .f64 f, .float .f64 s, .slice a n c, .bool false, .float .f64 t1, .float .f64 t2, .float .f64 t3] w fun e w' => e = .returned (.bool true) ∧ Below w.heap.size w w' := by
  have q := eql_nil
  have H : Hid (IsForm w a n c xs) := h
  have hlen : ¬ (1048576 : Int) < (n : Int) := by omega
  clear h
  go_enter Yba.func4, Yba.ntmps4
  go_wp2_with (first
    | (go_at_call 6; refine (form_clone H.out hbig).mono ?_; rintro e w1 ⟨a', n', c', rfl, hnone, hbel, hconv⟩; have HB : Hid (Below w.heap.size w w1) := hbel; have HC : Hid (∀ w2, Below w1.heap.size w1 w2 → (convert 29 9 (.slice a' n' c')).run Yba.prog w2 = .ok (.string (strOfNums xs)) w2) := hconv; clear hconv hbel)
    | (go_at_call 7; refine (store_any w1.heap.size none (.pointer none) _ ?_ ?_ (Or.inl rfl)).mono ?_; (· simp); (· simp); rintro e w' ⟨rfl, rfl⟩)
    | (go_at_call 8; refine (clone_any w1.heap.size i f s none a n c _ ?_ ?_ ?_ ?_ ?_ ?_ (Or.inl rfl)).mono ?_; (· simp); (· simp); (· simp); (· simp); (· simp); (· simp); rintro e w' ⟨rfl, k, rfl⟩; have he := eql34 (A := w1.heap.size + 1) (B := w1.heap.size) (Nat.succ_ne_self _) (heap_two w1 (.cells #[.int .i64 i, .float .f64 f, .float .f64 s, .pointer none, .slice a n c] 42) (.cells #[.int .i64 i, .float .f64 f, .float .f64 s, .pointer none, .slice a n c] 42) k).1 (heap_two w1 _ _ k).2)
    | (go_at_call 9; refine (same_any _ _).mono ?_; rintro e w' ⟨rfl, rfl⟩)
    | (go_at_call 10; refine (sameform_any H.out _).mono ?_; rintro e w' ⟨rfl, k', rfl⟩)
    | (go_at_call 11; refine (load_any _ none _ ?_ (Or.inl rfl)).mono ?_; (· simp); rintro e w' ⟨rfl, rfl⟩)
    | (go_at_call 12; refine (equal_any (.slice a n c) (.slice a' n' c') (strOfNums xs) _ (conv_form H.out ?_) (HC.out _ ?_)).mono ?_; (· exact below_drewN (((HB.out).alloc (HB.out).size _).alloc (by have := (HB.out).size; simp; omega) _) _); (· exact below_drewN (((Below.refl _ _).alloc (Nat.le_refl _) _).alloc (by simp) _) _); rintro e w' ⟨rfl, rfl⟩))
  go_ret
  exact ⟨rfl, below_drewN (((HB.out).alloc (HB.out).size _).alloc (by have := (HB.out).size; simp; omega) _) _⟩
theorem scale_top (w : World) (x y z : Value) : IsScale (w.alloc (.cells #[x, y, z] 33)) (some ⟨w.heap.size, 0, none⟩) := .inr ⟨_, x, y, z, rfl, heap_top _ _⟩
set_option maxHeartbeats 1000000 in
theorem law_scaled {w : World} {a : Option Addr} {n c : Nat} {xs : List Int} (i : Int) (f s t1 t2 t3 : Nat) (h : IsForm w a n c xs) (hbig : n ≤ 1048576) :
    Calls Yba.prog 4 #[.int .i64 i, .float .f64 f, .float .f64 s, .slice a n c, .bool true, .float .f64 t1, .float .f64 t2, .float .f64 t3] w fun e w' => e = .returned (.bool true) ∧ Below w.heap.size w w' := by
  have q := eql_nil
  have q31 := neq31
  have H : Hid (IsForm w a n c xs) := h
  have hlen : ¬ (1048576 : Int) < (n : Int) := by omega
  clear h
  go_enter Yba.func4, Yba.ntmps4
  go_wp2_with (first
    | (go_at_call 6; refine (form_clone H.out hbig).mono ?_; rintro e w1 ⟨a', n', c', rfl, hnone, hbel, hconv⟩; have HB : Hid (Below w.heap.size w w1) := hbel; have HC : Hid (∀ w2, Below w1.heap.size w1 w2 → (convert 29 9 (.slice a' n' c')).run Yba.prog w2 = .ok (.string (strOfNums xs)) w2) := hconv; clear hconv hbel)
    | (go_at_call 7; refine (store_any (w1.heap.size + 1) (some ⟨w1.heap.size, 0, none⟩) (.pointer none) _ ?_ ?_ ?_).mono ?_; (· simp); (· simp); (· exact scale_alloc (scale_top _ _ _ _) _); rintro e w' ⟨rfl, rfl⟩)
    | (go_at_call 8; refine (clone_any (w1.heap.size + 1) i f s (some ⟨w1.heap.size, 0, none⟩) a n c _ ?_ ?_ ?_ ?_ ?_ ?_ ?_).mono ?_; (· simp); (· simp); (· simp); (· simp); (· simp); (· simp); (· exact scale_alloc (scale_top _ _ _ _) _); rintro e w' ⟨rfl, k, rfl⟩; have he := eql34 (A := w1.heap.size + 1 + 1) (B := w1.heap.size + 1) (Nat.succ_ne_self _) (heap_three w1 (.cells #[.float .f64 t1, .float .f64 t2, .float .f64 t3] 33) (.cells #[.int .i64 i, .float .f64 f, .float .f64 s, .pointer (some ⟨w1.heap.size, 0, none⟩), .slice a n c] 42) (.cells #[.int .i64 i, .float .f64 f, .float .f64 s, .pointer (some ⟨w1.heap.size, 0, none⟩), .slice a n c] 42) k).1 (heap_three w1 _ _ _ k).2)
    | (go_at_call 9; refine (same_any _ _).mono ?_; rintro e w' ⟨rfl, rfl⟩)
    | (go_at_call 10; refine (sameform_any H.out _).mono ?_; rintro e w' ⟨rfl, k', rfl⟩)
    | (go_at_call 11; refine (load_any _ (some ⟨w1.heap.size, 0, none⟩) _ ?_ ?_).mono ?_; (· go_simp); (· exact scale_drew (scale_alloc (scale_alloc (scale_top _ _ _ _) _) _) _); rintro e w' ⟨rfl, rfl⟩)
    | (go_at_call 12; refine (equal_any (.slice a n c) (.slice a' n' c') (strOfNums xs) _ (conv_form H.out ?_) (HC.out _ ?_)).mono ?_; (· exact below_drewN ((((HB.out).alloc (HB.out).size _).alloc (by have := (HB.out).size; simp; omega) _).alloc (by have := (HB.out).size; simp; omega) _) _); (· exact below_drewN ((((Below.refl _ _).alloc (Nat.le_refl _) _).alloc (by simp) _).alloc (by simp; omega) _) _); rintro e w' ⟨rfl, rfl⟩))
  go_ret
  exact ⟨rfl, below_drewN ((((HB.out).alloc (HB.out).size _).alloc (by have := (HB.out).size; simp; omega) _).alloc (by have := (HB.out).size; simp; omega) _) _⟩
theorem law_long {w : World} {a : Option Addr} {n c : Nat} (i : Int) (f s t1 t2 t3 : Nat) (b : Bool) (hbig : 1048576 < n) (hnc : n ≤ c) (hc : c ≤ maxLen) :
    Calls Yba.prog 4 #[.int .i64 i, .float .f64 f, .float .f64 s, .slice a n c, .bool b, .float .f64 t1, .float .f64 t2, .float .f64 t3] w fun e w' => e = .returned (.bool true) ∧ Below w.heap.size w w' := by
  have hlen : (1048576 : Int) < (n : Int) := by omega
  unfold maxLen at hc
  go_enter Yba.func4, Yba.ntmps4
  go_wp2
  go_ret
  exact ⟨rfl, Below.refl _ _⟩
end Go.Proofs.Ybulkdmle.lawS5672BWhole
