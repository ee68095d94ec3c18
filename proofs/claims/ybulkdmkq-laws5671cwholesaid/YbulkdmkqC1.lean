import Derived.Test.YbulkdmkqRows
import Derived.Test.YbulkdmkqC0
import Derived.WalkKit
import Derived.ProofKit
import Derived.OpenShut
import Derived.WalkLawsBesides
import Derived.WalkSpells
import Derived.LaidEqlPtr
import Derived.Deep.QuietTactic
import Derived.BigQuiet
import Derived.Deep.RegionWith
import Derived.RegionTactic
import Derived.BigRegion
import Derived.Deep.OwnRows
namespace Go.Proofs.Ybulkdmkq.lawS5671CWhole
open Go.RowKit
set_option linter.unusedVariables false

theorem idx_any (j : Nat) (hj : j < 3) (w : World) : Calls Yba.prog 10 #[.string (name j)] w fun e w' => e = .returned (.int .i64 (j : Int)) ∧ w' = w := by
  match j, hj with
  | 0, _ =>
    unfold name
    go_enter Yba.func10, Yba.ntmps10
    go_wp2
    go_ret
    exact ⟨rfl, rfl⟩
  | 1, _ =>
    unfold name
    go_enter Yba.func10, Yba.ntmps10
    go_wp2
    go_ret
    exact ⟨rfl, rfl⟩
  | 2, _ =>
    unfold name
    go_enter Yba.func10, Yba.ntmps10
    go_wp2
    go_ret
    exact ⟨rfl, rfl⟩
theorem new_any (s : ByteArray) (w : World) : Calls Yba.prog 8 #[.string s] w fun e w' => e = .returned (.iface 75 (.pointer (some ⟨w.heap.size, 0, none⟩))) ∧ w' = w.alloc (.cells #[.string s] 77) := by
  go_enter Yba.func8, Yba.ntmps8
  go_wp2
  go_ret
  exact ⟨rfl, rfl⟩

theorem draws_in (w : World) (a : Addr) (v : Value) (p q : Nat) : ((w.drewN p).setCell a v).drewN q = (w.setCell a v).drewN (p + q) := by
  rw [show (w.drewN p).setCell a v = (w.setCell a v).drewN p from rfl, World.drewN_drewN]
theorem draws_two (w : World) (p q : Nat) : (w.drew.drewN p).drewN q = w.drewN (1 + p + q) := by
  rw [World.drewN_drew, World.drewN_drewN]
theorem ret_pair {k : IntKind} {a b : Int} {v : Value} (h : a = b) : Ending.returned (.tuple #[.int k a, v]) = .returned (.tuple #[.int k b, v]) := by rw [h]
set_option maxHeartbeats 800000 in
theorem tick_no (C K m f : Nat) (bt : TypeId) (bv : Value) (w : World) (j c : Nat) (hj : j < 3) (hc : c ≤ 65536) (hm : m ≤ 65536)
    (c0 : w.cell? ⟨C, j * 5, none⟩ = some (.int .i64 (j : Int))) (c1 : w.cell? ⟨C, j * 5 + 1, none⟩ = some (.int .i64 (c : Int))) (c2 : w.cell? ⟨C, j * 5 + 2, none⟩ = some (.pointer (some ⟨K, 0, none⟩)))
    (c3 : w.cell? ⟨C, j * 5 + 3, none⟩ = some (.int .i64 (f : Int))) (c4 : w.cell? ⟨C, j * 5 + 4, none⟩ = some (.iface bt bv)) (k0 : w.cell? ⟨K, 0, none⟩ = some (.int .i64 (m : Int))) (fk : w.frozen? ⟨K, 0, none⟩ = false) (fc : w.frozen? ⟨C, j * 5 + 1, none⟩ = false) (hCK : C ≠ K) (hne : ¬ m + 1 = f) :
    Calls Yba.prog 32 #[.pointer (some ⟨C, j * 5, none⟩)] w fun e w' => e = .returned (.tuple #[.int .i64 (tickOf j (c + 1)), .nilIface]) ∧ ∃ q, w' = ((w.setCell ⟨K, 0, none⟩ (.int .i64 ((m : Int) + 1))).setCell ⟨C, j * 5 + 1, none⟩ (.int .i64 ((c : Int) + 1))).drewN q := by
  go_enter Yba.func32, Yba.ntmps32
  go_wp2
  go_region
  go_wp2
  go_quiet (fail)
  go_wp2
  go_quiet (fail)
  go_wp2
  go_ret2
  exact ⟨ret_pair (by unfold tickOf; omega), _, draws_in _ _ _ _ _⟩
set_option maxHeartbeats 800000 in
theorem tick_yes (C K m f : Nat) (bt : TypeId) (bv : Value) (w : World) (j c : Nat) (hj : j < 3) (hc : c ≤ 65536) (hm : m ≤ 65536)
    (c0 : w.cell? ⟨C, j * 5, none⟩ = some (.int .i64 (j : Int))) (c1 : w.cell? ⟨C, j * 5 + 1, none⟩ = some (.int .i64 (c : Int))) (c2 : w.cell? ⟨C, j * 5 + 2, none⟩ = some (.pointer (some ⟨K, 0, none⟩)))
    (c3 : w.cell? ⟨C, j * 5 + 3, none⟩ = some (.int .i64 (f : Int))) (c4 : w.cell? ⟨C, j * 5 + 4, none⟩ = some (.iface bt bv)) (k0 : w.cell? ⟨K, 0, none⟩ = some (.int .i64 (m : Int))) (fk : w.frozen? ⟨K, 0, none⟩ = false) (fc : w.frozen? ⟨C, j * 5 + 1, none⟩ = false) (hCK : C ≠ K) (hne : m + 1 = f) :
    Calls Yba.prog 32 #[.pointer (some ⟨C, j * 5, none⟩)] w fun e w' => e = .returned (.tuple #[.int .i64 0, .iface bt bv]) ∧ ∃ q, w' = (w.setCell ⟨K, 0, none⟩ (.int .i64 ((m : Int) + 1))).drewN q := by
  subst hne
  go_enter Yba.func32, Yba.ntmps32
  go_wp2
  go_region
  go_wp2
  go_quiet (fail)
  go_wp2
  go_quiet (fail)
  go_wp2
  go_ret2
  exact ⟨rfl, _, draws_two _ _ _⟩
set_option maxHeartbeats 800000 in
theorem recv_no (C K m f : Nat) (bt : TypeId) (bv : Value) (w : World) (j c : Nat) (hj : j < 3) (hc : c ≤ 65536) (hm : m ≤ 65536)
    (c0 : w.cell? ⟨C, j * 5, none⟩ = some (.int .i64 (j : Int))) (c1 : w.cell? ⟨C, j * 5 + 1, none⟩ = some (.int .i64 (c : Int))) (c2 : w.cell? ⟨C, j * 5 + 2, none⟩ = some (.pointer (some ⟨K, 0, none⟩)))
    (c3 : w.cell? ⟨C, j * 5 + 3, none⟩ = some (.int .i64 (f : Int))) (c4 : w.cell? ⟨C, j * 5 + 4, none⟩ = some (.iface bt bv)) (k0 : w.cell? ⟨K, 0, none⟩ = some (.int .i64 (m : Int))) (fk : w.frozen? ⟨K, 0, none⟩ = false) (fc : w.frozen? ⟨C, j * 5 + 1, none⟩ = false) (hCK : C ≠ K) (v : Int) (hne : ¬ m + 1 = f) :
    Calls Yba.prog 31 #[.pointer (some ⟨C, j * 5, none⟩), .int .i64 v] w fun e w' => e = .returned (.tuple #[.int .i64 (recvOf v j (c + 1)), .nilIface]) ∧ ∃ q, w' = ((w.setCell ⟨K, 0, none⟩ (.int .i64 ((m : Int) + 1))).setCell ⟨C, j * 5 + 1, none⟩ (.int .i64 ((c : Int) + 1))).drewN q := by
  go_enter Yba.func31, Yba.ntmps31
  go_wp2
  go_region
  go_wp2
  go_quiet (fail)
  go_wp2
  go_quiet (fail)
  go_wp2
  go_ret2
  refine ⟨ret_pair ?_, _, draws_in _ _ _ _ _⟩
  unfold recvOf
  rw [show ((c + 1 : Nat) : Int) = (c : Int) + 1 from rfl]
set_option maxHeartbeats 800000 in
theorem recv_yes (C K m f : Nat) (bt : TypeId) (bv : Value) (w : World) (j c : Nat) (hj : j < 3) (hc : c ≤ 65536) (hm : m ≤ 65536)
    (c0 : w.cell? ⟨C, j * 5, none⟩ = some (.int .i64 (j : Int))) (c1 : w.cell? ⟨C, j * 5 + 1, none⟩ = some (.int .i64 (c : Int))) (c2 : w.cell? ⟨C, j * 5 + 2, none⟩ = some (.pointer (some ⟨K, 0, none⟩)))
    (c3 : w.cell? ⟨C, j * 5 + 3, none⟩ = some (.int .i64 (f : Int))) (c4 : w.cell? ⟨C, j * 5 + 4, none⟩ = some (.iface bt bv)) (k0 : w.cell? ⟨K, 0, none⟩ = some (.int .i64 (m : Int))) (fk : w.frozen? ⟨K, 0, none⟩ = false) (fc : w.frozen? ⟨C, j * 5 + 1, none⟩ = false) (hCK : C ≠ K) (v : Int) (hne : m + 1 = f) :
    Calls Yba.prog 31 #[.pointer (some ⟨C, j * 5, none⟩), .int .i64 v] w fun e w' => e = .returned (.tuple #[.int .i64 0, .iface bt bv]) ∧ ∃ q, w' = (w.setCell ⟨K, 0, none⟩ (.int .i64 ((m : Int) + 1))).drewN q := by
  subst hne
  go_enter Yba.func31, Yba.ntmps31
  go_wp2
  go_region
  go_wp2
  go_quiet (fail)
  go_wp2
  go_quiet (fail)
  go_wp2
  go_ret2
  exact ⟨rfl, _, draws_two _ _ _⟩
/-! ### the closure that picks the clock and logs the asking -/
theorem info9 : (Yba.prog.info? 9).map (fun i => (i.zero, i.size, i.bytes)) = some (some (.string ByteArray.empty), 1, 16) := by kernel_rfl
/-- what is old stays, but for the log's variable and its row -/
structure Kept (S : Nat → Prop) (w w' : World) : Prop where
  os : w'.os = w.os
  tape : w'.tape = w.tape
  output : w'.output = w.output
  size : w.heap.size ≤ w'.heap.size
  block : ∀ k, k < w.heap.size → ¬ S k → w'.heap[k]? = w.heap[k]?
theorem own_ge {w : World} {B e sz : Nat} {v : Value} {n : Nat} {xs : List Value} (h : w.ownsRow B e sz v n xs) {k : Nat} (hk : v.ownBlock = some k) : B ≤ k ∧ ∃ cur, w.heap[k]? = some (.cells cur e (0, 0)) := by
  obtain ⟨_, hcase⟩ := h
  rcases hcase with ⟨rfl, _⟩ | ⟨g, cap, cur, rfl, hg, hh, _⟩
  · cases hk
  · have e : g = k := by simpa [Value.ownBlock] using hk
    subst e
    exact ⟨hg, cur, hh⟩
theorem clock_end {w w1 : World} {B L i g cap : Nat} {lv nm : Value} {xs : List Value} (hLB : L < B) (hBw : B ≤ w.heap.size)
    (hown : w1.ownsRow B 9 1 (.slice (some ⟨g, 0, none⟩) (i + 1) cap) (i + 1) (xs ++ [nm])) (hgrow : (w.alloc (.cells #[nm] 9)).grownBy w1 lv.ownBlock) (hbl : w1.heap[L]? = some (.cells #[lv] 51 (0, 0))) :
    ∃ lv', (w1.setCell ⟨L, 0, none⟩ (.slice (some ⟨g, 0, none⟩) (i + 1) cap)).heap[L]? = some (.cells #[lv'] 51 (0, 0)) ∧
      (w1.setCell ⟨L, 0, none⟩ (.slice (some ⟨g, 0, none⟩) (i + 1) cap)).ownsRow B 9 1 lv' (i + 1) (xs ++ [nm]) ∧ Kept (fun k => k = L ∨ lv.ownBlock = some k) w (w1.setCell ⟨L, 0, none⟩ (.slice (some ⟨g, 0, none⟩) (i + 1) cap)) := by
  have hs := hgrow.size
  rw [World.size_alloc] at hs
  refine ⟨_, one_setCell hbl, ownsRow_setCell_below hown hLB _, ⟨hgrow.os, hgrow.tape, hgrow.output, ?_, fun k hk hS => ?_⟩⟩
  · show _ ≤ (w1.heap.modify L _).size
    rw [Array.size_modify]; omega
  · rw [Below.heap_setCell _ _ _ _ (fun e => hS (.inl e)), hgrow.block k (by rw [World.size_alloc]; omega) (fun e => hS (.inr e.symm)), Below.heap_alloc _ _ _ hk]
set_option maxHeartbeats 800000 in
theorem clock_of (B L C i : Nat) (lv : Value) (xs : List Value) (w : World) (j : Nat) (hj : j < 3) (hi : i ≤ 65536) (hB : B ≤ w.heap.size)
    (hL : w.heap[L]? = some (.cells #[lv] 51 (0, 0))) (hown : w.ownsRow B 9 1 lv i xs) (hLB : L < B) :
    Calls Yba.prog 9 #[.string (name j), .pointer (some ⟨L, 0, none⟩), .pointer (some ⟨C, 0, none⟩)] w fun e w' => e = .returned (.iface 54 (.pointer (some ⟨C, j * 5, none⟩))) ∧
      ∃ lv', w'.heap[L]? = some (.cells #[lv'] 51 (0, 0)) ∧ w'.ownsRow B 9 1 lv' (i + 1) (xs ++ [.string (name j)]) ∧ Kept (fun k => k = L ∨ lv.ownBlock = some k) w w' := by
  obtain ⟨i0, hi0, hz0, hz1, hz2⟩ := info_parts info9
  have hcl : w.cell? ⟨L, 0, none⟩ = some lv := cell_of_one hL
  have hfl : w.frozen? ⟨L, 0, none⟩ = false := free_of_one hL
  have hLw : L < w.heap.size := by omega
  have H : Hid (w.ownsRow B 9 1 lv i xs) := hown
  have HL : Hid (w.heap[L]? = some (.cells #[lv] 51 (0, 0))) := hL
  clear hown hL
  go_enter Yba.func9, Yba.ntmps9
  go_wp2_with (at_builtin; refine wpList_append_own _ rfl _ _ 51 rfl B 9 i0 (.string ByteArray.empty) 1 16 Yba.underlying51 hi0 hz0 hz1 hz2 rfl (by decide) _ _ _ rfl (H.out.alloc _) ⟨w.heap.size, 0, none⟩ 1 1 [.string (name j)] rfl rfl ?qc1 ?qc2 ?qc3 ?qc4 ?qc5 ?_)
  case qc1 =>
    intro m u hm
    match m, hm with
    | 0, hm => simp at hm; subst hm; simp [Addr.add]
  case qc2 => intro u hu; simp at hu; subst hu; rfl
  case qc3 => unfold maxLen; omega
  case qc4 => omega
  case qc5 => simp; omega
  intro v' w1 hown' hgrow _
  have hex : ∃ g cap, v' = .slice (some ⟨g, 0, none⟩) (i + 1) cap := by
    obtain ⟨_, hcase⟩ := hown'
    rcases hcase with ⟨_, h0⟩ | ⟨g, cap, cur, hv, _⟩
    · omega
    · exact ⟨g, cap, hv⟩
  obtain ⟨g, cap, hv⟩ := hex
  have hbl : w1.heap[L]? = some (.cells #[lv] 51 (0, 0)) := by
    rw [hgrow.block L (by simp; omega) ?_, Below.heap_alloc _ _ _ hLw]
    · exact HL.out
    · intro e
      have := (own_ge H.out e.symm).1
      omega
  have hcl1 : w1.cell? ⟨L, 0, none⟩ = some lv := cell_of_one hbl
  have hfl1 : w1.frozen? ⟨L, 0, none⟩ = false := free_of_one hbl
  have F : Hid (w1.ownsRow B 9 1 (.slice (some ⟨g, 0, none⟩) (i + 1) cap) (i + 1) (xs ++ [.string (name j)]) ∧ (w.alloc (.cells #[.string (name j)] 9)).grownBy w1 lv.ownBlock ∧ w1.heap[L]? = some (.cells #[lv] 51 (0, 0))) := ⟨by rw [← hv]; exact hown', hgrow, hbl⟩
  clear hown' hgrow hbl hcl hfl
  rw [hv]
  clear hv
  go_wp2_with (go_at_call 10; refine (idx_any j hj _).mono ?_; rintro e w' ⟨rfl, rfl⟩)
  go_ret
  exact ⟨rfl, clock_end hLB hB F.out.1 F.out.2.1 F.out.2.2⟩
end Go.Proofs.Ybulkdmkq.lawS5671CWhole
