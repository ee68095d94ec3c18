import Derived.Test.YbulkdmkqC7
import Derived.LoopN
namespace Go.Proofs.Ybulkdmkq.lawS5671CWhole
open Go.RowKit
set_option linter.unusedVariables false
open Go.Deep

set_option maxRecDepth 1000000 in
theorem law_long (ao : Option Addr) (n c : Nat) (f : Nat) (w : World) (hn : 65536 < n) (hnc : n ≤ c) (hc : c ≤ maxLen) :
    Calls Yba.prog 4 #[.slice ao n c, .int .u8 (f : Int)] w fun e w' => e = .returned (.bool true) ∧ Below w.heap.size w w' := by
  unfold maxLen at hc
  have hlen : (65536 : Int) < (n : Int) := by omega
  go_enter Yba.func4, Yba.ntmps4
  go_wp2
  go_ret
  exact ⟨rfl, Below.refl _ _⟩
theorem make_events0 (w : World) : (Instr.makeSlice 26 (.int .i64 0) (.int .i64 0)).run Yba.prog w = .ok (.slice (some ⟨w.heap.size, 0, none⟩) 0 0) (w.alloc (.cells (madeCells zeroCells (0 * 7)) 31)) := make_events 0 (by omega) w
theorem make_ints0 (w : World) : (Instr.makeSlice 57 (.int .i64 0) (.int .i64 0)).run Yba.prog w = .ok (.slice (some ⟨w.heap.size, 0, none⟩) 0 0) (w.alloc (.cells (madeCells #[.int .i64 0] 0) 3)) := run_make_row' (P := Yba.prog) 57 3 (.int .i64 0) 8 Yba.underlying57 info3 rfl .i64 .i64 0 (by omega) (by omega) w
set_option maxRecDepth 1000000 in
set_option maxHeartbeats 1600000 in
theorem law_none (ao : Option Addr) (c : Nat) (f : Nat) (w : World) (hc : c ≤ maxLen) (hf : f < 256) :
    Calls Yba.prog 4 #[.slice ao 0 c, .int .u8 (f : Int)] w fun e w' => e = .returned (.bool true) ∧ Below w.heap.size w w' := by
  unfold maxLen at hc
  have hmk := make_events0
  go_enter Yba.func4, Yba.ntmps4
  go_wp2_with fail
  have key : Base w (((w.alloc namesObj).alloc kindsObj).alloc (.cells (madeCells zeroCells 0) 31)) ∧ (((w.alloc namesObj).alloc kindsObj).alloc (.cells (madeCells zeroCells 0) 31)).rowIs (w.heap.size + 1 + 1) 31 (0 * 7) (evc (fun _ => 0) (fun _ => 0) (fun _ => 0) (fun _ => 0)) := by
    obtain ⟨f0, hf00⟩ := made_row ((w.alloc namesObj).alloc kindsObj) 0
    have e : ((w.alloc namesObj).alloc kindsObj).heap.size = w.heap.size + 1 + 1 := by rw [World.size_alloc, World.size_alloc]
    rw [e] at hf00
    exact ⟨base_start w _, hf00.congr fun o ho => by omega⟩
  unfold namesObj kindsObj at key
  clear hmk
  refine wp_loop_rounds 1 ?_
  rw [rounds_succ]
  go_wp2_with fail
  generalize (((w.alloc (.cells #[.string { data := #[112] }, .string { data := #[113] }, .string { data := #[114] }] 23)).alloc (.cells #[.string { data := #[108, 111, 99, 97, 108] }, .string { data := #[115, 101, 110, 100] }, .string { data := #[114, 101, 99, 118] }, .string { data := #[111, 116, 104, 101, 114] }] 43)).alloc (.cells (madeCells zeroCells 0) 31)) = wr at key ⊢
  have H : Hid (Base w wr ∧ wr.rowIs (w.heap.size + 1 + 1) 31 (0 * 7) (evc (fun _ => 0) (fun _ => 0) (fun _ => 0) (fun _ => 0))) := key
  clear key
  refine (clone_any (w.heap.size + 1 + 1) 0 (evc (fun _ => 0) (fun _ => 0) (fun _ => 0) (fun _ => 0)) wr H.out.2 (evc_one _ _ _ _) (by omega)).mono ?_
  rintro e w1 ⟨O, cap, rfl, hcap, hO, hhas, hbel⟩
  have H1 : Hid (Has w1 O 31 (0 * 7) (evc (fun _ => 0) (fun _ => 0) (fun _ => 0) (fun _ => 0)) ∧ Below wr.heap.size wr w1) := ⟨hhas, hbel⟩
  clear hhas hbel
  go_wp2_with (go_at_call 8; refine (new_any _ _).mono ?_; rintro e w' ⟨rfl, rfl⟩)
  refine wp_loop_rounds 4 ?_
  rw [rounds_succ]
  go_wp2_with fail
  rw [rounds_succ]
  go_wp2_with fail
  rw [rounds_succ]
  go_wp2_with fail
  rw [rounds_succ]
  go_wp2_with fail
  have CT := stamp_law (n := 0) (f := f) (p := fun _ => 0) (k := fun _ => 0) (x := fun _ => 0) (by omega) (fun i hi => absurd hi (Nat.not_lt_zero _)) (fun i hi => absurd hi (Nat.not_lt_zero _)) H.out.1 H.out.2 hO H1.out.1 H1.out.2
  unfold W3 at CT
  refine CT.mono ?_
  clear CT
  rintro e w4 (h | h)
  · obtain ⟨_, G, rfl, hG, hA⟩ := h
    have HG : Hid (Has w4 G 3 0 (fun j => .int .i64 (stamps (fun _ => 0) (fun _ => 0) (fun _ => 0) 0 j))) := hG
    have HA : Hid (After w 0 O (w1.heap.size + 1 + 1 + 1) 0 (fun _ => 0) (fun _ => 0) (fun _ => 0) (fun _ => 0) w4) := hA
    have hmk := make_ints0
    clear hG hA
    go_wp2_with (go_at_call 7; refine (equalEvents (w.heap.size + 1 + 1) O 0 cap _ _ _ _ _ HA.out.ev HA.out.orig (by omega)).mono ?_; rintro e w' ⟨rfl, q, rfl⟩)
    have MS : Hid (Model w4 0 (fun _ => 0) (fun _ => 0) (fun _ => 0) 0 (((w4.drewN q).alloc (.cells (madeCells #[.int .i64 0] 0) 3)).alloc (.cells #[.int .i64 0, .int .i64 0, .int .i64 0] 60))) := model_start w4 0 (fun _ => 0) (fun _ => 0) (fun _ => 0) q
    clear hmk
    obtain ⟨ao2, cl, hlg, _⟩ := HA.out.log
    have hLlt := lt_of_block hlg
    have lc : (((w4.drewN q).alloc (.cells (madeCells #[.int .i64 0] 0) 3)).alloc (.cells #[.int .i64 0, .int .i64 0, .int .i64 0] 60)).cell? ⟨w1.heap.size + 1 + 1 + 1, 0, none⟩ = some (.slice ao2 0 cl) := by rw [MS.out.below.cell (p := ⟨w1.heap.size + 1 + 1 + 1, 0, none⟩) hLlt]; exact cell_of_one hlg
    clear hlg
    generalize (((w4.drewN q).alloc (.cells (madeCells #[.int .i64 0] 0) 3)).alloc (.cells #[.int .i64 0, .int .i64 0, .int .i64 0] 60)) = wm at MS lc ⊢
    have q57 := eql_nil57
    have hw : Hid (Has wm w4.heap.size 3 0 (fun j => .int .i64 (stamps (fun _ => 0) (fun _ => 0) (fun _ => 0) 0 j))) := has_of_row MS.out.want
    have hg : Hid (Has wm G 3 0 (fun j => .int .i64 (stamps (fun _ => 0) (fun _ => 0) (fun _ => 0) 0 j))) := HG.out.of_block (MS.out.below.block _ HG.out.lt)
    refine wp_loop_rounds 1 ?_
    rw [rounds_succ]
    go_wp2_with fail
    refine wp_loop_rounds 1 ?_
    rw [rounds_succ]
    go_wp2_with (go_at_call 12; refine (equalInts G w4.heap.size 0 (stamps (fun _ => 0) (fun _ => 0) (fun _ => 0) 0) _ hg.out hw.out (by omega)).mono ?_; rintro e w' ⟨rfl, q3, rfl⟩)
    go_ret
    exact ⟨rfl, below_drewN (HA.out.base.below.trans (MS.out.below.mono HA.out.base.below.size)) _⟩
  · obtain ⟨i, X, hi, _⟩ := h
    omega
end Go.Proofs.Ybulkdmkq.lawS5671CWhole
