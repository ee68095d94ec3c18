import Derived.Test.YbulkdmkqC6
namespace Go.Proofs.Ybulkdmkq.lawS5671CWhole
open Go.RowKit
set_option linter.unusedVariables false
open Go.Deep

/-- the law's own model behind i events: the wanted stamps, the counts -/
structure Model (w4 : World) (n : Nat) (p k x : Nat → Nat) (i : Nat) (wr : World) : Prop where
  below : Below w4.heap.size w4 wr
  want : wr.rowIs w4.heap.size 3 n (fun j => .int .i64 (stamps p k x i j))
  cnts : wr.rowIs (w4.heap.size + 1) 60 3 (fun j => .int .i64 ((cnt p j i : Nat) : Int))
theorem model_start (w4 : World) (n : Nat) (p k x : Nat → Nat) (q : Nat) : Model w4 n p k x 0 (((w4.drewN q).alloc (.cells (madeCells #[.int .i64 0] n) 3)).alloc (.cells #[.int .i64 0, .int .i64 0, .int .i64 0] 60)) := by
  have b0 : Below w4.heap.size w4 (w4.drewN q) := below_drewN (Below.refl _ _) q
  have e1 : ((w4.drewN q).alloc (.cells (madeCells #[.int .i64 0] n) 3)).heap.size = w4.heap.size + 1 := World.size_alloc _ _
  refine ⟨(b0.alloc (Nat.le_refl _) _).alloc (by omega) _, (World.rowIs_made (w4.drewN q) (.int .i64 0) n 3).alloc _, ?_⟩
  have h := World.rowIs_alloc ((w4.drewN q).alloc (.cells (madeCells #[.int .i64 0] n) 3)) #[.int .i64 0, .int .i64 0, .int .i64 0] 60 (fun j => .int .i64 ((cnt p j 0 : Nat) : Int)) (fun i hi => by
    match i, hi with
    | 0, _ => rfl
    | 1, _ => rfl
    | 2, _ => rfl)
  rw [e1] at h
  exact h
theorem model_step {w4 wr : World} {n : Nat} {p k x : Nat → Nat} {i : Nat} {v : Int} (h : Model w4 n p k x i wr) (hv : v = stampOf p k x (stamps p k x i) i) :
    Model w4 n p k x (i + 1) ((wr.setCell ⟨w4.heap.size + 1, p i, none⟩ (.int .i64 ((cnt p (p i) i : Int) + 1))).setCell ⟨w4.heap.size, i, none⟩ (.int .i64 v)) := by
  subst hv
  refine ⟨(h.below.setCell (p := ⟨w4.heap.size + 1, p i, none⟩) (Nat.le_succ _) _).setCell (p := ⟨w4.heap.size, i, none⟩) (Nat.le_refl _) _, ?_, ?_⟩
  · refine ((h.want.setOther (a := ⟨w4.heap.size + 1, p i, none⟩) (fun e => by have e' : w4.heap.size = w4.heap.size + 1 := e; omega) _).set i _).congr fun j _ => ?_
    show _ = Value.int .i64 (if j = i then stampOf p k x (stamps p k x i) i else stamps p k x i j)
    split <;> rfl
  · refine ((h.cnts.set (p i) _).setOther (a := ⟨w4.heap.size, i, none⟩) (fun e => by have e' : w4.heap.size + 1 = w4.heap.size := e; omega) _).congr fun j _ => ?_
    by_cases hj : j = p i
    · rw [if_pos hj, hj, cnt_own]; rfl
    · rw [if_neg hj, cnt_other p j i hj]
theorem model_drewN {w4 wr : World} {n : Nat} {p k x : Nat → Nat} {i : Nat} (h : Model w4 n p k x i wr) (q : Nat) : Model w4 n p k x i (wr.drewN q) := ⟨below_drewN h.below q, h.want, h.cnts⟩
theorem model_drew {w4 wr : World} {n : Nat} {p k x : Nat → Nat} {i : Nat} (h : Model w4 n p k x i wr) : Model w4 n p k x i wr.drew := ⟨h.below.drew, h.want, h.cnts⟩
/-- what the round reads -/
theorem round_facts {w w4 wr : World} {b o n O L a i : Nat} {P K S : Nat → Nat} {p k x : Nat → Nat} {ln : Nat → Int} (hev : EvsAt w b o n P K S ln) (hA : After w n O L a p k x ln w4) (hM : Below w4.heap.size w4 wr) (hi : i < n) :
    wr.cell? ⟨b, o + i * 4, none⟩ = some (.int .u8 (P i : Int)) ∧ wr.cell? ⟨b, o + i * 4 + 1, none⟩ = some (.int .u8 (K i : Int)) ∧ wr.cell? ⟨b, o + i * 4 + 2, none⟩ = some (.int .u16 (S i : Int)) ∧ wr.cell? ⟨b, o + i * 4 + 3, none⟩ = some (.int .i64 (ln i)) ∧
    (∀ j, j < 3 → wr.cell? ⟨w.heap.size, j, none⟩ = some (.string (name j))) ∧ (∀ j, j < 4 → wr.cell? ⟨w.heap.size + 1, j, none⟩ = some (.string (kind j))) ∧ b < w.heap.size ∧ w.heap.size + 1 + 1 < w4.heap.size := by
  have hN := hA.base.names.lt
  have hK := hA.base.kinds.lt
  have hE := hA.ev.lt
  have hsz := hA.base.below.size
  obtain ⟨hb, hc⟩ := hev
  obtain ⟨v0, v1, v2, v3⟩ := hc i hi
  have t : ∀ r, wr.cell? ⟨b, r, none⟩ = w.cell? ⟨b, r, none⟩ := fun r => (hM.cell (p := ⟨b, r, none⟩) (show b < w4.heap.size by omega)).trans (hA.base.below.cell (p := ⟨b, r, none⟩) hb)
  refine ⟨by rw [t]; exact v0, by rw [t]; exact v1, by rw [t]; exact v2, by rw [t]; exact v3, fun j hj => ?_, fun j hj => ?_, hb, hE⟩
  · rw [hM.cell (p := ⟨w.heap.size, j, none⟩) hN]; exact hA.base.names.cell hj
  · rw [hM.cell (p := ⟨w.heap.size + 1, j, none⟩) hK]; exact hA.base.kinds.cell hj
theorem tick_val {P K S : Nat → Nat} {n i : Nat} (hk : ¬ K i % 4 = 2) : (P i : Int) % 3 * 1000 + ((cnt (fun i => P i % 3) (P i % 3) i : Int) + 1) = stampOf (fun i => P i % 3) (fun i => K i % 4) (fun i => S i % n) (stamps (fun i => P i % 3) (fun i => K i % 4) (fun i => S i % n) i) i := by
  unfold stampOf
  rw [if_neg hk]
  unfold tickOf
  show _ = ((P i % 3 : Nat) : Int) * 1000 + ((cnt (fun i => P i % 3) (P i % 3) i + 1 : Nat) : Int)
  omega
theorem recv_val {P K S : Nat → Nat} {n i : Nat} (hk : K i % 4 = 2) : wrap64 (wrap64 (wrap64 (wrap64 (stamps (fun i => P i % 3) (fun i => K i % 4) (fun i => S i % n) i (S i % n) * 3) + (P i : Int) % 3) + 1) + 10000 * ((cnt (fun i => P i % 3) (P i % 3) i : Int) + 1)) = stampOf (fun i => P i % 3) (fun i => K i % 4) (fun i => S i % n) (stamps (fun i => P i % 3) (fun i => K i % 4) (fun i => S i % n) i) i := by
  unfold stampOf
  rw [if_pos hk]
  unfold recvOf
  rw [Int.natCast_emod, show ((cnt (fun i => P i % 3) (P i % 3) i + 1 : Nat) : Int) = (cnt (fun i => P i % 3) (P i % 3) i : Int) + 1 from rfl]
  rfl
theorem eql_nil57 (w : World) (a : Option Addr) (n c n' c' : Nat) : (binOp .eql 57 (.slice a n c) (.slice none n' c')).run Yba.prog w = .ok (.bool a.isNone) w := Lib.run_eql_slice_nil w _ _ a n c n' c' Yba.underlying57
theorem has_drewN {w : World} {b : Nat} {t : TypeId} {m : Nat} {f : Nat → Value} (h : Has w b t m f) (q : Nat) : Has (w.drewN q) b t m f := h
theorem neq_nil57 (w : World) (a : Option Addr) (n c n' c' : Nat) : (binOp .neq 57 (.slice a n c) (.slice none n' c')).run Yba.prog w = .ok (.bool !a.isNone) w := run_neq_slice_nil_any w _ _ a n c n' c' Yba.underlying57
theorem assert_err (X : Nat) (w : World) : (Instr.typeAssert (.iface 61 (.pointer (some ⟨X, 0, none⟩))) 35 61 true).run Yba.prog w = .ok (.tuple #[.pointer (some ⟨X, 0, none⟩), .bool true]) w := by kernel_rfl
theorem eql_bad (B : Nat) (w : World) : (binOp .eql 35 (.iface 75 (.pointer (some ⟨B, 0, none⟩))) (.iface 75 (.pointer (some ⟨B, 0, none⟩)))).run Yba.prog w = .ok (.bool true) w := by
  obtain ⟨i, hi, hc⟩ : ∃ i, Yba.prog.info? 75 = some i ∧ i.comparable = true := by
    have e : (Yba.prog.info? 75).map (fun i => i.comparable) = some true := by kernel_rfl
    obtain ⟨j, hj, h0⟩ := Option.map_eq_some_iff.1 e
    exact ⟨j, hj, h0⟩
  obtain ⟨j, hj⟩ : ∃ j, Yba.prog.info? 77 = some j := Option.isSome_iff_exists.1 (by kernel_rfl)
  exact run_eql_iface_ptr_same w _ Yba.underlying35 Yba.underlying75 hi hc hj
end Go.Proofs.Ybulkdmkq.lawS5671CWhole
