import Derived.Test.YbulkdmkqC7
import Derived.LoopN
namespace Go.Proofs.Ybulkdmkq.lawS5671CWhole
open Go.RowKit
set_option linter.unusedVariables false
open Go.Deep
set_option maxRecDepth 1000000 in
set_option maxHeartbeats 1600000 in
theorem law_some (b o n c : Nat) (f : Nat) (P K S : Nat → Nat) (ln : Nat → Int) (w : World) (hn0 : 0 < n) (hn : n ≤ 65536) (hnc : n ≤ c) (hc : c ≤ maxLen) (hP : ∀ i, P i < 256) (hK : ∀ i, K i < 256) (hS : ∀ i, S i < 65536) (hev : EvsAt w b o n P K S ln) (hf : f < 256) :
    Calls Yba.prog 4 #[.slice (some ⟨b, o, none⟩) n c, .int .u8 (f : Int)] w fun e w' => e = .returned (.bool true) ∧ Below w.heap.size w w' := by
  unfold maxLen at hc
  have hmk := make_events n hn
  have hlen : ¬ (65536 : Int) < (n : Int) := by omega
  go_enter Yba.func4, Yba.ntmps4
  go_wp2
  obtain ⟨f0, hf00⟩ := made_row ((w.alloc namesObj).alloc kindsObj) n
  have hf0 : (((w.alloc namesObj).alloc kindsObj).alloc (.cells (madeCells zeroCells (n * 7)) 31)).rowIs (w.heap.size + 1 + 1) 31 (n * 7) (evp (fun i => P i % 3) (fun i => K i % 4) (fun i => S i % n) ln f0 0) := by
    have e : ((w.alloc namesObj).alloc kindsObj).heap.size = w.heap.size + 1 + 1 := by rw [World.size_alloc, World.size_alloc]
    rw [e] at hf00
    exact hf00.congr fun o _ => by unfold evp; rw [if_neg (by omega)]
  clear hf00
  have B0 := base_start w (.cells (madeCells zeroCells (n * 7)) 31)
  go_loopw [41] (fun t wr => ∃ i : Nat, i ≤ n ∧ t = .int .i64 i ∧ Base w wr ∧ wr.rowIs (w.heap.size + 1 + 1) 31 (n * 7) (evp (fun i => P i % 3) (fun i => K i % 4) (fun i => S i % n) ln f0 i)) (fun t _ => n - (intOf t).toNat)
  case atStart => exact ⟨0, Nat.zero_le _, rfl, B0, hf0⟩
  case round =>
    obtain ⟨i, hi, rfl, hB, hrow⟩ := hrel
    by_cases hlt : i < n
    · obtain ⟨hbw, hcells⟩ := hev
      obtain ⟨v0, v1, v2, v3⟩ := hcells i hlt
      rw [← hB.below.cell (p := ⟨b, o + i * 4, none⟩) hbw] at v0
      rw [← hB.below.cell (p := ⟨b, o + i * 4 + 1, none⟩) hbw] at v1
      rw [← hB.below.cell (p := ⟨b, o + i * 4 + 2, none⟩) hbw] at v2
      rw [← hB.below.cell (p := ⟨b, o + i * 4 + 3, none⟩) hbw] at v3
      have p1 := hP i
      have p2 := hK i
      have p3 := hS i
      clear hf0 B0 hcells hmk
      have hsz := hrow.lt
      have hsz0 : w.heap.size < wr.heap.size := by omega
      have hsz1 : w.heap.size + 1 < wr.heap.size := by omega
      have nm := hB.names.cell (i := P i % 3) (by omega)
      have kn := hB.kinds.cell (i := K i % 4) (by omega)
      have ef := fun r => hrow.frozen r
      have ec0 := hrow.cell (i := i * 7) (by omega)
      have ec1 := hrow.cell (i := i * 7 + 1) (by omega)
      have ec2 := hrow.cell (i := i * 7 + 2) (by omega)
      have ec3 := hrow.cell (i := i * 7 + 3) (by omega)
      have ec4 := hrow.cell (i := i * 7 + 4) (by omega)
      have ec5 := hrow.cell (i := i * 7 + 5) (by omega)
      have ec6 := hrow.cell (i := i * 7 + 6) (by omega)
      have H : Hid (Base w wr ∧ wr.rowIs (w.heap.size + 1 + 1) 31 (n * 7) (evp (fun i => P i % 3) (fun i => K i % 4) (fun i => S i % n) ln f0 i)) := ⟨hB, hrow⟩
      clear hB hrow
      go_wp2
      go_region
      go_wp2
      go_roundw
      case rel => exact ⟨i + 1, by omega, by go_num, event_step H.out.1 H.out.2 (Int.natCast_emod _ _).symm _⟩
      case measure => simp [intOf]; omega
    · have hin : n = i := by omega
      subst hin
      have H : Hid (Base w wr ∧ wr.rowIs (w.heap.size + 1 + 1) 31 (n * 7) (evc (fun i => P i % 3) (fun i => K i % 4) (fun i => S i % n) ln)) := ⟨hB, hrow.congr fun o ho => by unfold evp; rw [if_pos ho]⟩
      clear hB hrow hf0 B0 hmk hi hlt
      go_wp2_with fail
      refine (clone_any (w.heap.size + 1 + 1) n (evc (fun i => P i % 3) (fun i => K i % 4) (fun i => S i % n) ln) wr H.out.2 (evc_one _ _ _ _) hn).mono ?_
      rintro e w1 ⟨O, cap, rfl, hcap, hO, hhas, hbel⟩
      have H1 : Hid (Has w1 O 31 (n * 7) (evc (fun i => P i % 3) (fun i => K i % 4) (fun i => S i % n) ln) ∧ Below wr.heap.size wr w1) := ⟨hhas, hbel⟩
      clear hhas hbel
      go_wp2_with (go_at_call 8; refine (new_any _ _).mono ?_; rintro e w' ⟨rfl, rfl⟩)
      refine wp_loop_rounds 4 ?_
      rw [rounds_succ]
      go_wp2_with fail
      rw [rounds_succ]
      go_wp2_with fail
      rw [rounds_succ]
      go_wp2_with fail
      rw [rounds_succ]
      go_wp2_with fail
      have CT := stamp_law (f := f) (p := fun i => P i % 3) (k := fun i => K i % 4) (x := fun i => S i % n) hn (fun i _ => Nat.mod_lt _ (by omega)) (fun i _ => Nat.mod_lt _ hn0) H.out.1 H.out.2 hO H1.out.1 H1.out.2
      unfold W3 at CT
      refine CT.mono ?_
      clear CT
      rintro e w4 (h | h)
      · obtain ⟨hno, G, rfl, hG, hA⟩ := h
        have HG : Hid (Has w4 G 3 n (fun j => .int .i64 (stamps (fun i => P i % 3) (fun i => K i % 4) (fun i => S i % n) n j))) := hG
        have HA : Hid (After w n O (w1.heap.size + 1 + 1 + 1) n (fun i => P i % 3) (fun i => K i % 4) (fun i => S i % n) ln w4) := hA
        have HN : Hid (∀ m, m < n → ¬ m + 1 = f) := hno
        have hmk := run_make_row' (P := Yba.prog) 57 3 (.int .i64 0) 8 Yba.underlying57 info3 rfl .i64 .i64 n (by omega) (by omega)
        clear hG hA hno
        go_wp2_with (go_at_call 7; refine (equalEvents (w.heap.size + 1 + 1) O n cap _ _ _ _ _ HA.out.ev HA.out.orig hn).mono ?_; rintro e w' ⟨rfl, q, rfl⟩)
        have MS := model_start w4 n (fun i => P i % 3) (fun i => K i % 4) (fun i => S i % n) q
        go_loopw [23, 24] (fun fl t wr => fl = .int .i64 (-1) ∧ ∃ i : Nat, i ≤ n ∧ t = .int .i64 i ∧ Model w4 n (fun i => P i % 3) (fun i => K i % 4) (fun i => S i % n) i wr) (fun _ t _ => n - (intOf t).toNat)
        case atStart => exact ⟨rfl, 0, Nat.zero_le _, rfl, MS⟩
        case round =>
          obtain ⟨rfl, i, hi, rfl, hM⟩ := hrel
          clear MS hmk
          by_cases hlt : i < n
          · obtain ⟨v0, v1, v2, v3, nms, kds, hbw, hsz4⟩ := round_facts hev HA.out hM.below hlt
            have kn := kds (K i % 4) (by omega)
            have p1 := hP i
            have p2 := hK i
            have p3 := hS i
            have hfi := HN.out i hlt
            have cn : wr.cell? ⟨w4.heap.size + 1, P i % 3, none⟩ = some (.int .i64 ((cnt (fun i => P i % 3) (P i % 3) i : Nat) : Int)) := hM.cnts.cell (by omega)
            have cf := hM.cnts.frozen (P i % 3)
            have wn : wr.cell? ⟨w4.heap.size, i, none⟩ = some (.int .i64 (stamps (fun i => P i % 3) (fun i => K i % 4) (fun i => S i % n) i i)) := hM.want.cell hlt
            have wx : wr.cell? ⟨w4.heap.size, S i % n, none⟩ = some (.int .i64 (stamps (fun i => P i % 3) (fun i => K i % 4) (fun i => S i % n) i (S i % n))) := hM.want.cell (Nat.mod_lt _ hn0)
            have wf := hM.want.frozen i
            have hcl := cnt_le (fun i => P i % 3) (P i % 3) i
            have HM : Hid (Model w4 n (fun i => P i % 3) (fun i => K i % 4) (fun i => S i % n) i wr) := hM
            clear hM nms kds hev
            by_cases hk : K i % 4 = 2
            · have hkk := kind_recv hk
              have HK : Hid (K i % 4 = 2) := hk
              clear hk
              have x0 : (0 : Int) ≤ (S i : Int) % (n : Int) := Int.emod_nonneg _ (by omega)
              have x1 : (S i : Int) % (n : Int) < (n : Int) := Int.emod_lt_of_pos _ (by omega)
              have x2 : ((S i : Int) % (n : Int)).toNat = S i % n := by rw [← Int.natCast_emod]; rfl
              go_wp2
              go_region
              go_wp2
              go_roundw
              case rel => exact ⟨rfl, i + 1, by omega, by go_num, model_drew (model_step HM.out (recv_val HK.out))⟩
              case measure => simp [intOf]; omega
            · have hkk := kind_other hk
              have HK : Hid (¬ K i % 4 = 2) := hk
              clear hk
              go_wp2
              go_roundw
              case rel => exact ⟨rfl, i + 1, by omega, by go_num, model_step HM.out (tick_val HK.out)⟩
              case measure => simp [intOf]; omega
          · have hin : n = i := by omega
            subst hin
            obtain ⟨ao, cl, hlg, hrows⟩ := HA.out.log
            have hLlt := lt_of_block hlg
            have lc : wr.cell? ⟨w1.heap.size + 1 + 1 + 1, 0, none⟩ = some (.slice ao n cl) := by rw [hM.below.cell (p := ⟨w1.heap.size + 1 + 1 + 1, 0, none⟩) hLlt]; exact cell_of_one hlg
            obtain ⟨g, rfl, hgr⟩ := hrows hn0
            have HM : Hid (Model w4 n (fun i => P i % 3) (fun i => K i % 4) (fun i => S i % n) n wr) := hM
            have HR : Hid (Has w4 g 9 n (fun m => .string (name (P m % 3)))) := hgr
            clear hM hgr hlg hi hlt
            go_wp2
            go_loopw [27] (fun t wl => ∃ m : Nat, m ≤ n ∧ t = .int .i64 m ∧ ∃ q, wl = wr.drewN q) (fun t _ => n - (intOf t).toNat)
            case atStart => exact ⟨0, Nat.zero_le _, rfl, 0, rfl⟩
            case round =>
              obtain ⟨m, hm, rfl, q2, rfl⟩ := hrel
              by_cases hlt : m < n
              · obtain ⟨v0, v1, v2, v3, nms, kds, hbw, hsz4⟩ := round_facts hev HA.out HM.out.below hlt
                have nm := nms (P m % 3) (by omega)
                have p1 := hP m
                have lg : wr.cell? ⟨g, m, none⟩ = some (.string (name (P m % 3))) := by rw [HM.out.below.cell (p := ⟨g, m, none⟩) HR.out.lt]; exact HR.out.cell hlt
                clear nms kds v1 v2 v3 hev
                go_wp2
                go_quiet (fail)
                go_wp2
                go_roundw
                case rel => exact ⟨m + 1, by omega, by go_num, _, rfl⟩
                case measure => simp [intOf]; omega
              · have q57 := eql_nil57
                have hw : Hid (Has wr w4.heap.size 3 n (fun j => .int .i64 (stamps (fun i => P i % 3) (fun i => K i % 4) (fun i => S i % n) n j))) := has_of_row HM.out.want
                have hg : Hid (Has wr G 3 n (fun j => .int .i64 (stamps (fun i => P i % 3) (fun i => K i % 4) (fun i => S i % n) n j))) := HG.out.of_block (HM.out.below.block _ HG.out.lt)
                clear hev
                go_wp2_with (go_at_call 12; refine (equalInts G w4.heap.size n (stamps (fun i => P i % 3) (fun i => K i % 4) (fun i => S i % n) n) _ (has_drewN hg.out _) (has_drewN hw.out _) hn).mono ?_; rintro e w' ⟨rfl, q3, rfl⟩)
                go_ret
                exact ⟨rfl, below_drewN (HA.out.base.below.trans (HM.out.below.mono HA.out.base.below.size)) _⟩
      · obtain ⟨i0, X, hi0, hif, rfl, hX, hA⟩ := h
        have HX : Hid (w4.heap[X]? = some (.cells #[.int .i64 (ln i0), .iface 75 (.pointer (some ⟨w1.heap.size, 0, none⟩))] 64 (0, 0))) := hX
        have HA : Hid (After w n O (w1.heap.size + 1 + 1 + 1) (i0 + 1) (fun i => P i % 3) (fun i => K i % 4) (fun i => S i % n) ln w4) := hA
        have HF : Hid (i0 + 1 = f) := hif
        have hmk := run_make_row' (P := Yba.prog) 57 3 (.int .i64 0) 8 Yba.underlying57 info3 rfl .i64 .i64 n (by omega) (by omega)
        clear hX hA hif
        go_wp2_with (go_at_call 7; refine (equalEvents (w.heap.size + 1 + 1) O n cap _ _ _ _ _ HA.out.ev HA.out.orig hn).mono ?_; rintro e w' ⟨rfl, q, rfl⟩)
        have MS := model_start w4 n (fun i => P i % 3) (fun i => K i % 4) (fun i => S i % n) q
        go_loopw [23, 24] (fun fl t wr => fl = .int .i64 (-1) ∧ ∃ i : Nat, i ≤ i0 ∧ t = .int .i64 i ∧ Model w4 n (fun i => P i % 3) (fun i => K i % 4) (fun i => S i % n) i wr) (fun _ t _ => n - (intOf t).toNat)
        case atStart => exact ⟨rfl, 0, Nat.zero_le _, rfl, MS⟩
        case round =>
          obtain ⟨rfl, i, hi, rfl, hM⟩ := hrel
          clear MS hmk
          by_cases hne : i < i0
          · have hlt : i < n := by omega
            obtain ⟨v0, v1, v2, v3, nms, kds, hbw, hsz4⟩ := round_facts hev HA.out hM.below hlt
            have kn := kds (K i % 4) (by omega)
            have p1 := hP i
            have p2 := hK i
            have p3 := hS i
            have hfi : ¬ i + 1 = f := by have := HF.out; omega
            have cn : wr.cell? ⟨w4.heap.size + 1, P i % 3, none⟩ = some (.int .i64 ((cnt (fun i => P i % 3) (P i % 3) i : Nat) : Int)) := hM.cnts.cell (by omega)
            have cf := hM.cnts.frozen (P i % 3)
            have wn : wr.cell? ⟨w4.heap.size, i, none⟩ = some (.int .i64 (stamps (fun i => P i % 3) (fun i => K i % 4) (fun i => S i % n) i i)) := hM.want.cell hlt
            have wx : wr.cell? ⟨w4.heap.size, S i % n, none⟩ = some (.int .i64 (stamps (fun i => P i % 3) (fun i => K i % 4) (fun i => S i % n) i (S i % n))) := hM.want.cell (Nat.mod_lt _ hn0)
            have wf := hM.want.frozen i
            have hcl := cnt_le (fun i => P i % 3) (P i % 3) i
            have HM : Hid (Model w4 n (fun i => P i % 3) (fun i => K i % 4) (fun i => S i % n) i wr) := hM
            clear hM nms kds hev
            by_cases hk : K i % 4 = 2
            · have hkk := kind_recv hk
              have HK : Hid (K i % 4 = 2) := hk
              clear hk
              have x0 : (0 : Int) ≤ (S i : Int) % (n : Int) := Int.emod_nonneg _ (by omega)
              have x1 : (S i : Int) % (n : Int) < (n : Int) := Int.emod_lt_of_pos _ (by omega)
              have x2 : ((S i : Int) % (n : Int)).toNat = S i % n := by rw [← Int.natCast_emod]; rfl
              go_wp2
              go_region
              go_wp2
              go_roundw
              case rel => exact ⟨rfl, i + 1, by omega, by go_num, model_drew (model_step HM.out (recv_val HK.out))⟩
              case measure => simp [intOf]; omega
            · have hkk := kind_other hk
              have HK : Hid (¬ K i % 4 = 2) := hk
              clear hk
              go_wp2
              go_roundw
              case rel => exact ⟨rfl, i + 1, by omega, by go_num, model_step HM.out (tick_val HK.out)⟩
              case measure => simp [intOf]; omega
          · have hin : i0 = i := by omega
            subst hin
            obtain ⟨ao, cl, hlg, hrows⟩ := HA.out.log
            have hLlt := lt_of_block hlg
            have lc : wr.cell? ⟨w1.heap.size + 1 + 1 + 1, 0, none⟩ = some (.slice ao (i0 + 1) cl) := by rw [hM.below.cell (p := ⟨w1.heap.size + 1 + 1 + 1, 0, none⟩) hLlt]; exact cell_of_one hlg
            obtain ⟨g, rfl, hgr⟩ := hrows (Nat.succ_pos _)
            have HM : Hid (Model w4 n (fun i => P i % 3) (fun i => K i % 4) (fun i => S i % n) i0 wr) := hM
            have HR : Hid (Has w4 g 9 (i0 + 1) (fun m => .string (name (P m % 3)))) := hgr
            have hb : (((i0 : Int) + 1) == (f : Int)) = true := by have := HF.out; simp; omega
            clear hM hgr hlg hi hne
            go_wp2
            go_loopw [27] (fun t wl => ∃ m : Nat, m ≤ i0 + 1 ∧ t = .int .i64 m ∧ ∃ q, wl = wr.drewN q) (fun t _ => i0 + 1 - (intOf t).toNat)
            case atStart => exact ⟨0, Nat.zero_le _, rfl, 0, rfl⟩
            case round =>
              obtain ⟨m, hm, rfl, q2, rfl⟩ := hrel
              by_cases hlt : m < i0 + 1
              · have hmn : m < n := by omega
                obtain ⟨v0, v1, v2, v3, nms, kds, hbw, hsz4⟩ := round_facts hev HA.out HM.out.below hmn
                have nm := nms (P m % 3) (by omega)
                have p1 := hP m
                have lg : wr.cell? ⟨g, m, none⟩ = some (.string (name (P m % 3))) := by rw [HM.out.below.cell (p := ⟨g, m, none⟩) HR.out.lt]; exact HR.out.cell hlt
                clear nms kds v1 v2 v3 hev
                go_wp2
                go_quiet (fail)
                go_wp2
                go_roundw
                case rel => exact ⟨m + 1, by omega, by go_num, _, rfl⟩
                case measure => simp [intOf]; omega
              · obtain ⟨v0, v1, v2, v3, nms, kds, hbw, hsz4⟩ := round_facts hev HA.out HM.out.below hi0
                have q57 := neq_nil57
                have x0 : wr.cell? ⟨X, 0, none⟩ = some (.int .i64 (ln i0)) := by rw [HM.out.below.cell (p := ⟨X, 0, none⟩) (lt_of_block HX.out)]; exact cell_of_block HX.out 0
                have x1 : wr.cell? ⟨X, 1, none⟩ = some (.iface 75 (.pointer (some ⟨w1.heap.size, 0, none⟩))) := by rw [HM.out.below.cell (p := ⟨X, 1, none⟩) (lt_of_block HX.out)]; exact cell_of_block HX.out 1
                have qe := eql_bad w1.heap.size
                have qt := assert_err X
                clear hev nms kds
                go_wp2
                go_quiet (fail)
                go_wp2
                go_ret
                exact ⟨rfl, below_drewN (below_drewN (HA.out.base.below.trans (HM.out.below.mono HA.out.base.below.size)) _) _⟩
end Go.Proofs.Ybulkdmkq.lawS5671CWhole
