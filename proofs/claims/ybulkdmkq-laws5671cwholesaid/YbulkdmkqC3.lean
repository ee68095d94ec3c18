import Derived.Test.YbulkdmkqC2
namespace Go.Proofs.Ybulkdmkq.lawS5671CWhole
open Go.RowKit
set_option linter.unusedVariables false
open Go.Deep
theorem ebox {wr w1 : World} {B L a : Nat} {lv : Value} {xs : List Value} {cs : Array Value} (hown : wr.ownsRow B 9 1 lv a xs) (hL : L < wr.heap.size) (h3 : Kept (fun q => q = L ∨ lv.ownBlock = some q) (wr.alloc (.cells cs 31)) w1) : w1.heap[wr.heap.size]? = some (.cells cs 31 (0, 0)) := by
  rw [h3.block wr.heap.size (by simp) ?_]
  · show (wr.heap.push _)[wr.heap.size]? = _
    simp
  · rintro (e | e)
    · omega
    · obtain ⟨_, cur, hc⟩ := own_ge hown e
      have := lt_of_block hc
      omega
theorem cell_of_block {w : World} {b : Nat} {cs : Array Value} {t : TypeId} (h : w.heap[b]? = some (.cells cs t (0, 0))) (o : Nat) : w.cell? ⟨b, o, none⟩ = cs[o]? := by simp [World.cell?, h]
theorem kind_recv {j : Nat} (h : j = 2) : ((kind j).toList == [114, 101, 99, 118]) = true := by
  subst h; rw [ByteArray.toList_eq]; rfl
theorem kind_other {j : Nat} (h : j ≠ 2) : ((kind j).toList == [114, 101, 99, 118]) = false := by
  match j, h with
  | 0, _ => rw [ByteArray.toList_eq]; rfl
  | 1, _ => rw [ByteArray.toList_eq]; rfl
  | 2, h => exact absurd rfl h
  | j + 3, _ => rw [ByteArray.toList_eq]; rfl
theorem stamps_zero (p k x : Nat → Nat) (i j : Nat) (h : i ≤ j) : stamps p k x i j = 0 := by
  induction i with
  | zero => rfl
  | succ i ih =>
    show (if j = i then _ else stamps p k x i j) = 0
    rw [if_neg (by omega)]
    exact ih (by omega)
theorem method_tick (a : Addr) (w : World) : (method 209 54 (.pointer (some a)) "Tick").run Yba.prog w = .ok (32, .pointer (some a)) w := by kernel_rfl
theorem method_recv (a : Addr) (w : World) : (method 209 54 (.pointer (some a)) "Receive").run Yba.prog w = .ok (31, .pointer (some a)) w := by kernel_rfl
theorem ahead_recv (a : Addr) (w : World) : (nilAhead 209 54 (.pointer (some a)) "Receive").run Yba.prog w = .ok (some false) w := by kernel_rfl
namespace Mid
variable {w : World} {L K C G n f B : Nat} {bad : Value} {p k x : Nat → Nat} {a b c d : Nat} {lv : Value} {wr : World}
theorem clockCell (h : Mid w L K C G n f B bad p k x a b c d lv wr) {j : Nat} (hj : j < 3) {r : Nat} (hr : r < 5) : wr.cell? ⟨C, j * 5 + r, none⟩ = some (clk p K f bad c (j * 5 + r)) := h.clocks.cell (by omega)
theorem tick (h : Mid w L K C G n f B bad p k x a b c d lv wr) (bt : TypeId) (bv : Value) (hbad : bad = .iface bt bv) (hp : p c < 3) (hc : c ≤ 65535) (hb : b ≤ 65535) (hKC : C ≠ K) (hK : K < B) (hC : C < B) (hLK : L ≠ K) (hLC : L ≠ C) (hBG : B ≤ G) (hne : ¬ b + 1 = f) :
    Calls Yba.prog 32 #[.pointer (some ⟨C, p c * 5, none⟩)] wr fun e w' => e = .returned (.tuple #[.int .i64 (tickOf (p c) (cnt p (p c) c + 1)), .nilIface]) ∧ Mid w L K C G n f B bad p k x a (b + 1) (c + 1) d lv w' ∧ ∀ q, q < wr.heap.size → q ≠ K → q ≠ C → w'.heap[q]? = wr.heap[q]? := by
  subst hbad
  have hcl := cnt_le p (p c) c
  have c0 := h.clockCell hp (r := 0) (by omega)
  have c1 := h.clockCell hp (r := 1) (by omega)
  have c2 := h.clockCell hp (r := 2) (by omega)
  have c3 := h.clockCell hp (r := 3) (by omega)
  have c4 := h.clockCell hp (r := 4) (by omega)
  rw [Nat.add_zero, clk0] at c0
  rw [clk1] at c1
  rw [clk2] at c2
  rw [clk3] at c3
  rw [clk4] at c4
  refine (tick_no C K b f bt bv wr (p c) (cnt p (p c) c) hp (by omega) (by omega) c0 c1 c2 c3 c4 (cell_of_one h.calls) (free_of_one h.calls) (h.clocks.frozen _) hKC hne).mono ?_
  rintro e w' ⟨rfl, q, rfl⟩
  refine ⟨rfl, ((h.called hK hLK hKC (by omega)).counted hC hLC hKC (by omega)).drewN _, fun z _ h2 h3 => ?_⟩
  show ((wr.setCell _ _).setCell _ _).heap[z]? = _
  rw [Below.heap_setCell _ _ _ _ h3, Below.heap_setCell _ _ _ _ h2]
theorem tickBad (h : Mid w L K C G n f B bad p k x a b c d lv wr) (bt : TypeId) (bv : Value) (hbad : bad = .iface bt bv) (hp : p c < 3) (hc : c ≤ 65535) (hb : b ≤ 65535) (hKC : C ≠ K) (hK : K < B) (hLK : L ≠ K) (hBG : B ≤ G) (hne : b + 1 = f) :
    Calls Yba.prog 32 #[.pointer (some ⟨C, p c * 5, none⟩)] wr fun e w' => e = .returned (.tuple #[.int .i64 0, bad]) ∧ Mid w L K C G n f B bad p k x a (b + 1) c d lv w' ∧ ∀ q, q < wr.heap.size → q ≠ K → q ≠ C → w'.heap[q]? = wr.heap[q]? := by
  subst hbad
  have hcl := cnt_le p (p c) c
  have c0 := h.clockCell hp (r := 0) (by omega)
  have c1 := h.clockCell hp (r := 1) (by omega)
  have c2 := h.clockCell hp (r := 2) (by omega)
  have c3 := h.clockCell hp (r := 3) (by omega)
  have c4 := h.clockCell hp (r := 4) (by omega)
  rw [Nat.add_zero, clk0] at c0
  rw [clk1] at c1
  rw [clk2] at c2
  rw [clk3] at c3
  rw [clk4] at c4
  refine (tick_yes C K b f bt bv wr (p c) (cnt p (p c) c) hp (by omega) (by omega) c0 c1 c2 c3 c4 (cell_of_one h.calls) (free_of_one h.calls) (h.clocks.frozen _) hKC hne).mono ?_
  rintro e w' ⟨rfl, q, rfl⟩
  refine ⟨rfl, (h.called hK hLK hKC (by omega)).drewN _, fun z _ h2 h3 => ?_⟩
  show (wr.setCell _ _).heap[z]? = _
  rw [Below.heap_setCell _ _ _ _ h2]
theorem recv (h : Mid w L K C G n f B bad p k x a b c d lv wr) (bt : TypeId) (bv : Value) (hbad : bad = .iface bt bv) (hp : p c < 3) (hc : c ≤ 65535) (hb : b ≤ 65535) (hKC : C ≠ K) (hK : K < B) (hC : C < B) (hLK : L ≠ K) (hLC : L ≠ C) (hBG : B ≤ G) (hne : ¬ b + 1 = f) (v : Int) :
    Calls Yba.prog 31 #[.pointer (some ⟨C, p c * 5, none⟩), .int .i64 v] wr fun e w' => e = .returned (.tuple #[.int .i64 (recvOf v (p c) (cnt p (p c) c + 1)), .nilIface]) ∧ Mid w L K C G n f B bad p k x a (b + 1) (c + 1) d lv w' ∧ ∀ q, q < wr.heap.size → q ≠ K → q ≠ C → w'.heap[q]? = wr.heap[q]? := by
  subst hbad
  have hcl := cnt_le p (p c) c
  have c0 := h.clockCell hp (r := 0) (by omega)
  have c1 := h.clockCell hp (r := 1) (by omega)
  have c2 := h.clockCell hp (r := 2) (by omega)
  have c3 := h.clockCell hp (r := 3) (by omega)
  have c4 := h.clockCell hp (r := 4) (by omega)
  rw [Nat.add_zero, clk0] at c0
  rw [clk1] at c1
  rw [clk2] at c2
  rw [clk3] at c3
  rw [clk4] at c4
  refine (recv_no C K b f bt bv wr (p c) (cnt p (p c) c) hp (by omega) (by omega) c0 c1 c2 c3 c4 (cell_of_one h.calls) (free_of_one h.calls) (h.clocks.frozen _) hKC v hne).mono ?_
  rintro e w' ⟨rfl, q, rfl⟩
  refine ⟨rfl, ((h.called hK hLK hKC (by omega)).counted hC hLC hKC (by omega)).drewN _, fun z _ h2 h3 => ?_⟩
  show ((wr.setCell _ _).setCell _ _).heap[z]? = _
  rw [Below.heap_setCell _ _ _ _ h3, Below.heap_setCell _ _ _ _ h2]
theorem recvBad (h : Mid w L K C G n f B bad p k x a b c d lv wr) (bt : TypeId) (bv : Value) (hbad : bad = .iface bt bv) (hp : p c < 3) (hc : c ≤ 65535) (hb : b ≤ 65535) (hKC : C ≠ K) (hK : K < B) (hLK : L ≠ K) (hBG : B ≤ G) (hne : b + 1 = f) (v : Int) :
    Calls Yba.prog 31 #[.pointer (some ⟨C, p c * 5, none⟩), .int .i64 v] wr fun e w' => e = .returned (.tuple #[.int .i64 0, bad]) ∧ Mid w L K C G n f B bad p k x a (b + 1) c d lv w' ∧ ∀ q, q < wr.heap.size → q ≠ K → q ≠ C → w'.heap[q]? = wr.heap[q]? := by
  subst hbad
  have hcl := cnt_le p (p c) c
  have c0 := h.clockCell hp (r := 0) (by omega)
  have c1 := h.clockCell hp (r := 1) (by omega)
  have c2 := h.clockCell hp (r := 2) (by omega)
  have c3 := h.clockCell hp (r := 3) (by omega)
  have c4 := h.clockCell hp (r := 4) (by omega)
  rw [Nat.add_zero, clk0] at c0
  rw [clk1] at c1
  rw [clk2] at c2
  rw [clk3] at c3
  rw [clk4] at c4
  refine (recv_yes C K b f bt bv wr (p c) (cnt p (p c) c) hp (by omega) (by omega) c0 c1 c2 c3 c4 (cell_of_one h.calls) (free_of_one h.calls) (h.clocks.frozen _) hKC v hne).mono ?_
  rintro e w' ⟨rfl, q, rfl⟩
  refine ⟨rfl, (h.called hK hLK hKC (by omega)).drewN _, fun z _ h2 h3 => ?_⟩
  show (wr.setCell _ _).heap[z]? = _
  rw [Below.heap_setCell _ _ _ _ h2]
theorem storedZero (h : Mid w L K C G n f B bad p k x a b c d lv wr) (hLG : L ≠ G) (hKG : K ≠ G) (hCG : C ≠ G) (hB : B ≤ G) : Mid w L K C G n f B bad p k x a b c d lv (wr.setCell ⟨G, d, none⟩ (.int .i64 0)) := by
  have hG : lv.ownBlock ≠ some G := fun e => by
    obtain ⟨_, cur, hc⟩ := own_ge h.own e
    obtain ⟨c2, hb, _⟩ := h.row
    rw [hc] at hb
    simp at hb
  refine ⟨h.os, h.tape, h.output, ?_, fun q q1 q2 q3 q4 => ?_, ?_, ?_, ?_, ?_, ?_⟩
  · show _ ≤ (wr.heap.modify G _).size
    rw [Array.size_modify]; exact h.size
  · rw [Below.heap_setCell _ _ _ _ (show q ≠ G by omega)]; exact h.old q q1 q2 q3 q4
  · rw [Below.heap_setCell _ _ _ _ hLG]; exact h.log
  · exact ownsRow_setCell_other h.own hG _
  · rw [Below.heap_setCell _ _ _ _ hKG]; exact h.calls
  · exact h.clocks.setOther hCG _
  · refine (h.row.set _ _).congr fun j _ => ?_
    split
    · rename_i e
      rw [e, stamps_zero p k x d d (Nat.le_refl _)]
    · rfl
end Mid
theorem info3 : (Yba.prog.info? 3).map (fun i => (i.zero, i.size, i.bytes)) = some (some (.int .i64 0), 1, 8) := by kernel_rfl

/-- what stampWith leaves where no clock call fails -/
def StampOk (w : World) (L K C n f : Nat) (bad : Value) (p k x : Nat → Nat) (e : Ending) (w' : World) : Prop :=
  (∀ m, m < n → ¬ m + 1 = f) ∧ e = .returned (.tuple #[.slice (some ⟨w.heap.size, 0, none⟩) n n, .nilIface]) ∧ ∃ lv, Mid w L K C w.heap.size n f w.heap.size bad p k x n n n n lv w'
/-- what it leaves where the call of event i fails -/
def StampBad (w : World) (L K C n f : Nat) (bad : Value) (p k x : Nat → Nat) (ln : Nat → Int) (e : Ending) (w' : World) : Prop :=
  ∃ i X lv, i < n ∧ i + 1 = f ∧ e = .returned (.tuple #[.slice none 0 0, .iface 61 (.pointer (some ⟨X, 0, none⟩))]) ∧ w.heap.size ≤ X ∧ w'.heap[X]? = some (.cells #[.int .i64 (ln i), bad] 64 (0, 0)) ∧ Mid w L K C w.heap.size n f w.heap.size bad p k x (i + 1) (i + 1) i i lv w'
theorem no_more {i f : Nat} (h : ∀ m, m < i → ¬ m + 1 = f) (hi : ¬ i + 1 = f) : ∀ m, m < i + 1 → ¬ m + 1 = f := fun m hm => by
  rcases Nat.lt_or_ge m i with h' | h'
  · exact h m h'
  · have e : m = i := by omega
    rw [e]; exact hi
theorem heap_top (w : World) (o : Obj) : (w.alloc o).heap[w.heap.size]? = some o := by
  show (w.heap.push o)[w.heap.size]? = some o
  simp
theorem bad_end {w w2 : World} {L K C n f : Nat} {bad : Value} {p k x : Nat → Nat} {ln : Nat → Int} {i q : Nat} {lv : Value} (hi : i < n) (hf : i + 1 = f) (hL : L < w.heap.size) (hK : K < w.heap.size) (hC : C < w.heap.size) (M : Mid w L K C w.heap.size n f w.heap.size bad p k x (i + 1) (i + 1) i i lv w2) :
    StampBad w L K C n f bad p k x ln (.returned (.tuple #[.slice none 0 0, .iface 61 (.pointer (some ⟨w2.heap.size, 0, none⟩))])) (((w2.setCell ⟨w.heap.size, i, none⟩ (.int .i64 0)).alloc (.cells #[.int .i64 (ln i), bad] 64)).drewN q) := by
  have M3 := M.storedZero (by omega) (by omega) (by omega) (Nat.le_refl _)
  have hs : (w2.setCell ⟨w.heap.size, i, none⟩ (.int .i64 0)).heap.size = w2.heap.size := by
    show (w2.heap.modify _ _).size = _
    rw [Array.size_modify]
  refine ⟨i, w2.heap.size, lv, hi, hf, rfl, M.size, ?_, (M3.alloc hL hK _).drewN q⟩
  have ht := heap_top (w2.setCell ⟨w.heap.size, i, none⟩ (.int .i64 0)) (.cells #[.int .i64 (ln i), bad] 64)
  rw [hs] at ht
  exact ht
set_option maxHeartbeats 3200000 in
theorem stamp_any (L K C E n f : Nat) (bt : TypeId) (bv : Value) (p k x : Nat → Nat) (ln : Nat → Int) (w : World) (hn : n ≤ 65536) (hp : ∀ i, i < n → p i < 3) (hx : ∀ i, i < n → x i < n)
    (hL : L < w.heap.size) (hK : K < w.heap.size) (hC : C < w.heap.size) (hE : w.rowIs E 31 (n * 7) (evc p k x ln)) (hLK : L ≠ K) (hLC : L ≠ C) (hKC : C ≠ K) (hEL : E ≠ L) (hEK : E ≠ K) (hEC : E ≠ C)
    (hlog : w.heap[L]? = some (.cells #[.slice none 0 0] 51 (0, 0))) (hcalls : w.heap[K]? = some (.cells #[.int .i64 0] 3 (0, 0))) (hclk : w.rowIs C 50 15 (clk p K f (.iface bt bv) 0)) :
    Calls Yba.prog 11 #[.slice (some ⟨E, 0, none⟩) n n, .func (.func 9) #[] #[.pointer (some ⟨L, 0, none⟩), .pointer (some ⟨C, 0, none⟩)]] w fun e w' =>
      StampOk w L K C n f (.iface bt bv) p k x e w' ∨ StampBad w L K C n f (.iface bt bv) p k x ln e w' := by
  have hmk := run_make_row' (P := Yba.prog) 57 3 (.int .i64 0) 8 Yba.underlying57 info3 rfl .i64 .i64 n (by omega) (by omega)
  have M0 : Hid (Mid w L K C w.heap.size n f w.heap.size (.iface bt bv) p k x 0 0 0 0 (.slice none 0 0) (w.alloc (.cells (madeCells #[.int .i64 0] n) 3))) := by
    exact ⟨rfl, rfl, rfl, by simp, fun q q1 _ _ _ => Below.heap_alloc _ _ _ q1, by rw [Below.heap_alloc _ _ _ hL]; exact hlog, World.ownsRow_nil _ _ _ _, by rw [Below.heap_alloc _ _ _ hK]; exact hcalls, hclk.alloc _, World.rowIs_made _ _ _ _⟩
  go_enter Yba.func11, Yba.ntmps11
  go_wp2
  go_loopw [16] (fun t wr => ∃ i : Nat, i ≤ n ∧ t = .int .i64 i ∧ (∀ m, m < i → ¬ m + 1 = f) ∧ ∃ lv, Mid w L K C w.heap.size n f w.heap.size (.iface bt bv) p k x i i i i lv wr) (fun t _ => n - (intOf t).toNat)
  case atStart => exact ⟨0, Nat.zero_le _, rfl, fun m hm => absurd hm (Nat.not_lt_zero _), _, M0.out⟩
  case round =>
    obtain ⟨i, hi, rfl, hno0, lv, M⟩ := hrel
    have hno : Hid (∀ m, m < i → ¬ m + 1 = f) := hno0
    clear hlog hcalls hclk hmk M0 hno0
    by_cases hlt : i < n
    · have e0 : ∀ r, r < 7 → wr.cell? ⟨E, i * 7 + r, none⟩ = some (evc p k x ln (i * 7 + r)) := fun r hr => by
        rw [show wr.cell? ⟨E, i * 7 + r, none⟩ = w.cell? ⟨E, i * 7 + r, none⟩ from World.cell?_of_block (w := w) (M.old E hE.lt hEL hEK hEC)]
        exact hE.cell (by omega)
      have c0 := e0 0 (by omega)
      have c1 := e0 1 (by omega)
      have c2 := e0 2 (by omega)
      have c3 := e0 3 (by omega)
      have c4 := e0 4 (by omega)
      have c5 := e0 5 (by omega)
      have c6 := e0 6 (by omega)
      rw [Nat.add_zero, evc0] at c0
      rw [evc1] at c1
      rw [evc2] at c2
      rw [evc3] at c3
      rw [evc4] at c4
      rw [evc5] at c5
      rw [evc6] at c6
      have HM : Hid (Mid w L K C w.heap.size n f w.heap.size (.iface bt bv) p k x i i i i lv wr) := M
      clear e0 M hE
      rcases Classical.em (k i = 2) with hk | hk <;> rcases Classical.em (i + 1 = f) with hf | hf
      · -- a receive that fails
        have hkk := kind_recv hk
        have HK : Hid (k i = 2) := hk
        have HF : Hid (i + 1 = f) := hf
        clear hk hf
        go_wp2_with fail
        refine (clock_of w.heap.size L C i lv ((List.range i).map fun m => Value.string (name (p m))) _ (p i) (hp i hlt) (by omega) ?_ ?_ ?_ hL).mono ?_
        · exact (HM.out.alloc hL hK _).size
        · exact (HM.out.alloc hL hK _).log
        · exact (HM.out.alloc hL hK _).own
        rintro e w1 ⟨rfl, lv', h1, h2, h3⟩
        have hGL : L ≠ w.heap.size := by omega
        have hGr : w.heap.size < wr.heap.size := HM.out.row.lt
        have HM1 : Hid (Mid w L K C w.heap.size n f w.heap.size (.iface bt bv) p k x (i + 1) i i i lv' w1) := (HM.out.alloc hL hK _).asked hL hK hC hLK hLC hGL h1 h2 h3
        have hbx := ebox HM.out.own (Nat.lt_of_lt_of_le hL HM.out.size) h3
        have hbx1 := hbx
        have hlt1 := lt_of_block hbx
        have b0 := cell_of_block hbx 0
        have b2 := cell_of_block hbx 2
        have b5 := cell_of_block hbx 5
        have b6 := cell_of_block hbx 6
        simp only [List.getElem?_toArray, List.getElem?_cons_zero, List.getElem?_cons_succ] at b0 b2 b5 b6
        have HX : Hid (w1.heap[wr.heap.size]? = _) := hbx
        have hp' := hp i hlt
        have hx' := hx i hlt
        clear h1 h2 h3 HM c0 c1 c2 c3 c4 c5 c6 hbx hbx1
        have hm := method_recv
        have ha := ahead_recv
        have s1 : w1.cell? ⟨w.heap.size, x i, none⟩ = some (.int .i64 (stamps p k x i (x i))) := HM1.out.row.cell hx'
        have CT : Hid (∀ q, Calls Yba.prog 31 #[.pointer (some ⟨C, p i * 5, none⟩), .int .i64 (stamps p k x i (x i))] (w1.drewN q) fun e w' => e = .returned (.tuple #[.int .i64 0, .iface bt bv]) ∧ Mid w L K C w.heap.size n f w.heap.size (.iface bt bv) p k x (i + 1) (i + 1) i i lv' w' ∧ ∀ q, q < w1.heap.size → q ≠ K → q ≠ C → w'.heap[q]? = w1.heap[q]?) :=
          fun q => (HM1.out.drewN q).recvBad bt bv rfl hp' (by omega) (by omega) hKC hK hLK (Nat.le_refl _) HF.out _
        go_wp2_with fail
        go_region_with (go_at_call 31; refine (CT.out 1).mono ?_; rintro e w2 ⟨rfl, M2, hsame⟩; have HM2 : Hid (Mid w L K C w.heap.size n f w.heap.size (.iface bt bv) p k x (i + 1) (i + 1) i i lv' w2) := M2; have g0 : w2.cell? ⟨w.heap.size, i, none⟩ = some (.int .i64 (stamps p k x i i)) := M2.row.cell hlt; have g1 : w2.frozen? ⟨w.heap.size, i, none⟩ = false := M2.row.frozen _; have hbx2 := (hsame wr.heap.size hlt1 (by omega) (by omega)).trans HX.out; have d6 := cell_of_block hbx2 6; simp only [List.getElem?_toArray, List.getElem?_cons_zero, List.getElem?_cons_succ] at d6; clear M2 hsame hbx2)
        all_goals
          go_wp2_with fail
          go_region
          go_wp2
          go_ret2
          exact .inr (bad_end hlt HF.out hL hK hC HM2.out)
      · -- a receive
        have hkk := kind_recv hk
        have HK : Hid (k i = 2) := hk
        have HF : Hid (¬ i + 1 = f) := hf
        clear hk hf
        go_wp2_with fail
        refine (clock_of w.heap.size L C i lv ((List.range i).map fun m => Value.string (name (p m))) _ (p i) (hp i hlt) (by omega) ?_ ?_ ?_ hL).mono ?_
        · exact (HM.out.alloc hL hK _).size
        · exact (HM.out.alloc hL hK _).log
        · exact (HM.out.alloc hL hK _).own
        rintro e w1 ⟨rfl, lv', h1, h2, h3⟩
        have hGL : L ≠ w.heap.size := by omega
        have hGr : w.heap.size < wr.heap.size := HM.out.row.lt
        have HM1 : Hid (Mid w L K C w.heap.size n f w.heap.size (.iface bt bv) p k x (i + 1) i i i lv' w1) := (HM.out.alloc hL hK _).asked hL hK hC hLK hLC hGL h1 h2 h3
        have hbx := ebox HM.out.own (Nat.lt_of_lt_of_le hL HM.out.size) h3
        have hbx1 := hbx
        have hlt1 := lt_of_block hbx
        have b0 := cell_of_block hbx 0
        have b2 := cell_of_block hbx 2
        have b5 := cell_of_block hbx 5
        have b6 := cell_of_block hbx 6
        simp only [List.getElem?_toArray, List.getElem?_cons_zero, List.getElem?_cons_succ] at b0 b2 b5 b6
        have HX : Hid (w1.heap[wr.heap.size]? = _) := hbx
        have hp' := hp i hlt
        have hx' := hx i hlt
        clear h1 h2 h3 HM c0 c1 c2 c3 c4 c5 c6 hbx hbx1
        have hm := method_recv
        have ha := ahead_recv
        have s1 : w1.cell? ⟨w.heap.size, x i, none⟩ = some (.int .i64 (stamps p k x i (x i))) := HM1.out.row.cell hx'
        have CT : Hid (∀ q, Calls Yba.prog 31 #[.pointer (some ⟨C, p i * 5, none⟩), .int .i64 (stamps p k x i (x i))] (w1.drewN q) fun e w' => e = .returned (.tuple #[.int .i64 (recvOf (stamps p k x i (x i)) (p i) (cnt p (p i) i + 1)), .nilIface]) ∧ Mid w L K C w.heap.size n f w.heap.size (.iface bt bv) p k x (i + 1) (i + 1) (i + 1) i lv' w' ∧ ∀ q, q < w1.heap.size → q ≠ K → q ≠ C → w'.heap[q]? = w1.heap[q]?) :=
          fun q => (HM1.out.drewN q).recv bt bv rfl hp' (by omega) (by omega) hKC hK hC hLK hLC (Nat.le_refl _) HF.out _
        go_wp2_with fail
        go_region_with (go_at_call 31; refine (CT.out 1).mono ?_; rintro e w2 ⟨rfl, M2, hsame⟩; have HM2 : Hid (Mid w L K C w.heap.size n f w.heap.size (.iface bt bv) p k x (i + 1) (i + 1) (i + 1) i lv' w2) := M2; have g0 : w2.cell? ⟨w.heap.size, i, none⟩ = some (.int .i64 (stamps p k x i i)) := M2.row.cell hlt; have g1 : w2.frozen? ⟨w.heap.size, i, none⟩ = false := M2.row.frozen _; clear M2 hsame)
        all_goals
          go_wp2_with fail
          go_roundw
          case rel => exact ⟨i + 1, by omega, by go_num, no_more hno.out HF.out, lv', HM2.out.stored hGL (by omega) (by omega) (Nat.le_refl _) (by unfold stampOf; rw [if_pos HK.out])⟩
          case measure => simp [intOf]; omega
      · -- a tick that fails
        have hkk := kind_other hk
        have HK : Hid (¬ k i = 2) := hk
        have HF : Hid (i + 1 = f) := hf
        clear hk hf
        go_wp2_with fail
        refine (clock_of w.heap.size L C i lv ((List.range i).map fun m => Value.string (name (p m))) _ (p i) (hp i hlt) (by omega) ?_ ?_ ?_ hL).mono ?_
        · exact (HM.out.alloc hL hK _).size
        · exact (HM.out.alloc hL hK _).log
        · exact (HM.out.alloc hL hK _).own
        rintro e w1 ⟨rfl, lv', h1, h2, h3⟩
        have hGL : L ≠ w.heap.size := by omega
        have hGr : w.heap.size < wr.heap.size := HM.out.row.lt
        have HM1 : Hid (Mid w L K C w.heap.size n f w.heap.size (.iface bt bv) p k x (i + 1) i i i lv' w1) := (HM.out.alloc hL hK _).asked hL hK hC hLK hLC hGL h1 h2 h3
        have hbx := ebox HM.out.own (Nat.lt_of_lt_of_le hL HM.out.size) h3
        have hbx1 := hbx
        have hlt1 := lt_of_block hbx
        have b0 := cell_of_block hbx 0
        have b2 := cell_of_block hbx 2
        have b5 := cell_of_block hbx 5
        have b6 := cell_of_block hbx 6
        simp only [List.getElem?_toArray, List.getElem?_cons_zero, List.getElem?_cons_succ] at b0 b2 b5 b6
        have HX : Hid (w1.heap[wr.heap.size]? = _) := hbx
        have hp' := hp i hlt
        have hx' := hx i hlt
        clear h1 h2 h3 HM c0 c1 c2 c3 c4 c5 c6 hbx hbx1
        have hm := method_tick
        go_wp2_with fail
        refine (HM1.out.tickBad bt bv rfl hp' (by omega) (by omega) hKC hK hLK (Nat.le_refl _) HF.out).mono ?_
        rintro e w2 ⟨rfl, M2, hsame⟩
        have HM2 : Hid (Mid w L K C w.heap.size n f w.heap.size (.iface bt bv) p k x (i + 1) (i + 1) i i lv' w2) := M2
        have g0 : w2.cell? ⟨w.heap.size, i, none⟩ = some (.int .i64 (stamps p k x i i)) := M2.row.cell hlt
        have g1 : w2.frozen? ⟨w.heap.size, i, none⟩ = false := M2.row.frozen _
        have hbx2 := (hsame wr.heap.size hlt1 (by omega) (by omega)).trans HX.out
        have d6 := cell_of_block hbx2 6
        simp only [List.getElem?_toArray, List.getElem?_cons_zero, List.getElem?_cons_succ] at d6
        clear M2 hsame hbx2
        go_wp2_with fail
        go_region
        go_wp2
        go_ret2
        exact .inr (bad_end hlt HF.out hL hK hC HM2.out)
      · -- a tick
        have hkk := kind_other hk
        have HK : Hid (¬ k i = 2) := hk
        have HF : Hid (¬ i + 1 = f) := hf
        clear hk hf
        go_wp2_with fail
        refine (clock_of w.heap.size L C i lv ((List.range i).map fun m => Value.string (name (p m))) _ (p i) (hp i hlt) (by omega) ?_ ?_ ?_ hL).mono ?_
        · exact (HM.out.alloc hL hK _).size
        · exact (HM.out.alloc hL hK _).log
        · exact (HM.out.alloc hL hK _).own
        rintro e w1 ⟨rfl, lv', h1, h2, h3⟩
        have hGL : L ≠ w.heap.size := by omega
        have hGr : w.heap.size < wr.heap.size := HM.out.row.lt
        have HM1 : Hid (Mid w L K C w.heap.size n f w.heap.size (.iface bt bv) p k x (i + 1) i i i lv' w1) := (HM.out.alloc hL hK _).asked hL hK hC hLK hLC hGL h1 h2 h3
        have hbx := ebox HM.out.own (Nat.lt_of_lt_of_le hL HM.out.size) h3
        have hbx1 := hbx
        have hlt1 := lt_of_block hbx
        have b0 := cell_of_block hbx 0
        have b2 := cell_of_block hbx 2
        have b5 := cell_of_block hbx 5
        have b6 := cell_of_block hbx 6
        simp only [List.getElem?_toArray, List.getElem?_cons_zero, List.getElem?_cons_succ] at b0 b2 b5 b6
        have HX : Hid (w1.heap[wr.heap.size]? = _) := hbx
        have hp' := hp i hlt
        have hx' := hx i hlt
        clear h1 h2 h3 HM c0 c1 c2 c3 c4 c5 c6 hbx hbx1
        have hm := method_tick
        go_wp2_with fail
        refine (HM1.out.tick bt bv rfl hp' (by omega) (by omega) hKC hK hC hLK hLC (Nat.le_refl _) HF.out).mono ?_
        rintro e w2 ⟨rfl, M2, hsame⟩
        have HM2 : Hid (Mid w L K C w.heap.size n f w.heap.size (.iface bt bv) p k x (i + 1) (i + 1) (i + 1) i lv' w2) := M2
        have g0 : w2.cell? ⟨w.heap.size, i, none⟩ = some (.int .i64 (stamps p k x i i)) := M2.row.cell hlt
        have g1 : w2.frozen? ⟨w.heap.size, i, none⟩ = false := M2.row.frozen _
        clear M2 hsame
        go_wp2_with fail
        go_roundw
        case rel => exact ⟨i + 1, by omega, by go_num, no_more hno.out HF.out, lv', HM2.out.stored hGL (by omega) (by omega) (Nat.le_refl _) (by unfold stampOf; rw [if_neg HK.out])⟩
        case measure => simp [intOf]; omega
    · go_wp2
      go_ret2
      have hin : i = n := by omega
      subst hin
      exact .inl ⟨hno.out, rfl, lv, M⟩
end Go.Proofs.Ybulkdmkq.lawS5671CWhole
