import Derived.Test.YbulkdmleRows
import Derived.WalkKit
import Derived.ProofKit
import Derived.OpenShut
import Derived.WalkLawsBesides
import Derived.WalkSpells
import Derived.Laws.LoneSync
import Derived.Laws.BytesArg
import Derived.Laws.Externs
import Derived.Lib.Builder
import Derived.LaidEqlPtr
import Derived.Deep.RegionWith
import Derived.RegionTactic
import Derived.BigRegion
import Derived.Deep.QuietTactic
import Derived.BigQuiet
namespace Go.Proofs.Ybulkdmle.lawS5672BWhole
open Go.RowKit
set_option linter.unusedVariables false

/-! ### the body-less callees -/
theorem call_bits (b : Nat) (w : World) : (callFunc 15 #[.float .f64 b]).run Yba.prog w = .ok (.value (.int .u64 (b : Int))) w := by
  rw [run_callFunc_extern (e := Extern.MathFloatBits.float64bits) Yba.func15 (by kernel_rfl) (by kernel_rfl) (by kernel_rfl) (by kernel_rfl)]
  rfl
theorem call_load {a : Addr} {p : Option Addr} {w : World} (hc : w.cell? a = some (.pointer p)) : (callFunc 16 #[.pointer (some a)]).run Yba.prog w = .ok (.value (.pointer p)) w := by
  rw [run_callFunc_extern (e := Extern.Atomic.loadT .ptr) Yba.func16 (by kernel_rfl) (by kernel_rfl) (by kernel_rfl) (by kernel_rfl)]
  change (Sem.run Yba.prog (do Extern.Atomic.read .ptr (← asAddr (.pointer (some a)))) w).andThen _ = _
  simp [Extern.Atomic.read, asAddr, hc, Result.andThen]
theorem call_store {a : Addr} {p : Option Addr} {u : Value} {w : World} (hc : w.cell? a = some u) (hz : w.frozen? a = false) :
    (callFunc 14 #[.pointer (some a), .pointer p]).run Yba.prog w = .ok (.value (.tuple #[])) (w.setCell a (.pointer p)) := by
  rw [run_callFunc_extern (e := Extern.Atomic.storeT) Yba.func14 (by kernel_rfl) (by kernel_rfl) (by kernel_rfl) (by kernel_rfl)]
  change (Sem.run Yba.prog (do
    store (← asAddr (.pointer (some a))) (.pointer p) .atomic
    pure Extern.Atomic.none_) w).andThen _ = _
  simp [asAddr, hc, hz, run_store Yba.prog w a (.pointer p) .atomic rfl, Result.andThen, Extern.Atomic.none_]

/-- the scale's pointer: nil, or the head of a block of the type beliefScale -/
def IsScale (w : World) (p : Option Addr) : Prop := p = none ∨ ∃ S x y z, p = some ⟨S, 0, none⟩ ∧ w.heap[S]? = some (.cells #[x, y, z] 33)

theorem size33 : (Yba.prog.info? 33).map (fun i => i.size) = some 3 := by kernel_rfl
/-- the scale's pointer turned into a bare pointer, as the library's own text does ahead of its store: the same address -/
theorem to_raw {w : World} {p : Option Addr} (h : IsScale w p) : (convert 31 38 (.pointer p)).run Yba.prog w = .ok (.pointer p) w := by
  obtain ⟨j, hj, hz⟩ := Option.map_eq_some_iff.1 size33
  rcases h with rfl | ⟨S, x, y, z, rfl, hs⟩
  · kernel_rfl
  · have hsh : w.shape? S = some (33, 3) := by simp [World.shape?, hs]
    have hrun : ∀ (k : Program → Sem Value), Sem.run Yba.prog (Sem.program k) w = Sem.run Yba.prog (k Yba.prog) w := fun _ => rfl
    have hb : ∀ (k : Program → Sem TypeDesc), (Sem.pure Yba.prog).bind k = k Yba.prog := fun _ => rfl
    have hp : ∀ (d : TypeDesc) (k : TypeDesc → Sem Value), Sem.bind (pure d) k = k d := fun _ _ => rfl
    simp [convert, run_underlying Yba.underlying31, run_underlying Yba.underlying38]
    conv => lhs; arg 2; whnf
    simp only [hrun, hb, hp, Yba.underlying31]
    simp [Conv.seenAt, viewAt, cellsIn, run_underlying Yba.underlying38, sizeOf, typeInfo, hj, hz, hsh]
/-- and back behind its load -/
theorem from_raw {w : World} {p : Option Addr} (h : IsScale w p) : (convert 38 31 (.pointer p)).run Yba.prog w = .ok (.pointer p) w := by
  obtain ⟨j, hj, hz⟩ := Option.map_eq_some_iff.1 size33
  rcases h with rfl | ⟨S, x, y, z, rfl, hs⟩
  · kernel_rfl
  · have hsh : w.shape? S = some (33, 3) := by simp [World.shape?, hs]
    have hl : liesAt Yba.prog Yba.prog.depth 33 (3 / Yba.prog.cellsOf 33) 0 33 1 = true := by kernel_rfl
    have hrun : ∀ (k : Program → Sem Value), Sem.run Yba.prog (Sem.program k) w = Sem.run Yba.prog (k Yba.prog) w := fun _ => rfl
    have hb : ∀ (k : Program → Sem TypeDesc), (Sem.pure Yba.prog).bind k = k Yba.prog := fun _ => rfl
    have hp : ∀ (d : TypeDesc) (k : TypeDesc → Sem Value), Sem.bind (pure d) k = k d := fun _ _ => rfl
    simp [convert, run_underlying Yba.underlying31, run_underlying Yba.underlying38]
    conv => lhs; arg 2; whnf
    simp only [hrun, hb, hp, Yba.underlying38]
    simp [Conv.seenAt, viewAt, variablesAt, run_underlying Yba.underlying31, hl, sizeOf, typeInfo, hj, hz, hsh]
theorem scale_alloc {w : World} {p : Option Addr} (h : IsScale w p) (o : Obj) : IsScale (w.alloc o) p := by
  rcases h with rfl | ⟨S, x, y, z, rfl, hs⟩
  · exact .inl rfl
  · have hlt : S < w.heap.size := (Array.getElem?_eq_some_iff.1 hs).1
    exact .inr ⟨S, x, y, z, rfl, by rw [Below.heap_alloc w o S hlt]; exact hs⟩
theorem scale_drew {w : World} {p : Option Addr} (h : IsScale w p) (k : Nat) : IsScale (w.drewN k) p := h
theorem scale_drew1 {w : World} {p : Option Addr} (h : IsScale w p) : IsScale w.drew p := h

/-! ### the small callees -/
theorem same_any (b : Nat) (w : World) : Calls Yba.prog 9 #[.float .f64 b, .float .f64 b] w fun e w' => e = .returned (.bool true) ∧ w' = w := by
  have hb := call_bits b
  go_enter Yba.func9, Yba.ntmps9
  go_wp2
  go_ret
  exact ⟨rfl, rfl⟩
theorem store_any (B : Nat) (p : Option Addr) (u : Value) (w : World) (hc : w.cell? ⟨B, 3, none⟩ = some u) (hz : w.frozen? ⟨B, 3, none⟩ = false) (hp : IsScale w p) :
    Calls Yba.prog 7 #[.pointer (some ⟨B, 3, none⟩), .pointer p] w fun e w' => e = .returned (.tuple #[]) ∧ w' = w.setCell ⟨B, 3, none⟩ (.pointer p) := by
  have hs := call_store (p := p) hc hz
  have hu := to_raw hp
  clear hp
  go_enter Yba.func7, Yba.ntmps7
  go_wp2
  go_end0
  exact ⟨rfl, rfl⟩
theorem load_any (B : Nat) (p : Option Addr) (w : World) (hc : w.cell? ⟨B, 3, none⟩ = some (.pointer p)) (hp : IsScale w p) :
    Calls Yba.prog 11 #[.pointer (some ⟨B, 3, none⟩)] w fun e w' => e = .returned (.pointer p) ∧ w' = w := by
  have hs := call_load hc
  have hu := from_raw hp
  clear hp
  go_enter Yba.func11, Yba.ntmps11
  go_wp2
  go_ret
  exact ⟨rfl, rfl⟩
theorem eql_same {t te : TypeId} {j : TypeInfo} (a : Addr) (hp : Yba.prog.underlying t = some (.pointer te)) (hte : Yba.prog.info? te = some j) (w : World) : (binOp .neq t (.pointer (some a)) (.pointer (some a))).run Yba.prog w = .ok (.bool false) w := by
  have h : ∀ d : Nat, (Op.equalIn (d + 1) t (.pointer (some a)) (.pointer (some a))).run Yba.prog w = .ok true w := fun d => by
    simp [Op.equalIn, run_underlying hp, sizeOf, typeInfo, hte, run_sameAddr_same]
  simp only [binOp]
  simp [Op.equal, Op.maxDepth, h 9999]
theorem neq55 (a : Addr) (w : World) : (binOp .neq 55 (.pointer (some a)) (.pointer (some a))).run Yba.prog w = .ok (.bool false) w := by
  obtain ⟨j, hj⟩ : ∃ j, Yba.prog.info? 5 = some j := Option.isSome_iff_exists.1 (by kernel_rfl)
  exact eql_same a Yba.underlying55 hj w
theorem neq31 (p : Option Addr) (w : World) : (binOp .neq 31 (.pointer p) (.pointer p)).run Yba.prog w = .ok (.bool false) w := by
  cases p with
  | none => simpa using run_neq_pointer_nil (P := Yba.prog) w 31 none Yba.underlying31
  | some a =>
    obtain ⟨j, hj⟩ : ∃ j, Yba.prog.info? 33 = some j := Option.isSome_iff_exists.1 (by kernel_rfl)
    exact eql_same a Yba.underlying31 hj w
theorem eql_nil (w : World) (a : Option Addr) (n c n' c' : Nat) : (binOp .eql 29 (.slice a n c) (.slice none n' c')).run Yba.prog w = .ok (.bool a.isNone) w := Lib.run_eql_slice_nil w _ _ a n c n' c' Yba.underlying29
theorem sameform_nil (w : World) : Calls Yba.prog 10 #[.slice none 0 0, .slice none 0 0] w fun e w' => e = .returned (.bool true) ∧ ∃ k, w' = w.drewN k := by
  have q := eql_nil
  have hd : decide ((0 : Int) < 0) = false := by decide
  go_enter Yba.func10, Yba.ntmps10
  go_wp2
  go_quiet (fail)
  go_wp2
  go_ret
  exact ⟨rfl, _, rfl⟩
theorem sameform_empty (x : Addr) (c : Nat) (w : World) (hc : c ≤ maxLen) : Calls Yba.prog 10 #[.slice (some x) 0 c, .slice (some x) 0 c] w fun e w' => e = .returned (.bool true) ∧ ∃ k, w' = w.drewN k := by
  unfold maxLen at hc
  have q := eql_nil
  have hd : decide ((0 : Int) < 0) = false := by decide
  go_enter Yba.func10, Yba.ntmps10
  go_wp2
  go_quiet (fail)
  go_wp2
  go_ret
  exact ⟨rfl, _, rfl⟩
theorem sameform_some (b o n c : Nat) (w : World) (hn : 0 < n) (hnc : n ≤ c) (hc : c ≤ maxLen) : Calls Yba.prog 10 #[.slice (some ⟨b, o, none⟩) n c, .slice (some ⟨b, o, none⟩) n c] w fun e w' => e = .returned (.bool true) ∧ ∃ k, w' = w.drewN k := by
  unfold maxLen at hc
  have q := eql_nil
  have hd : (0 : Int) < (n : Int) := by omega
  have hq := neq55 ⟨b, o, none⟩
  go_enter Yba.func10, Yba.ntmps10
  go_wp2
  go_quiet (fail)
  go_wp2
  go_ret
  exact ⟨rfl, _, rfl⟩
/-! ### bytes.Equal of two slices that hold the same bytes -/
theorem equal_any (v1 v2 : Value) (s : ByteArray) (w : World) (h1 : (convert 29 9 v1).run Yba.prog w = .ok (.string s) w) (h2 : (convert 29 9 v2).run Yba.prog w = .ok (.string s) w) :
    Calls Yba.prog 12 #[v1, v2] w fun e w' => e = .returned (.bool true) ∧ w' = w := by
  go_enter Yba.func12, Yba.ntmps12
  go_wp2
  go_ret
  exact ⟨rfl, rfl⟩
/-! ### (*Estimate).Clone -/
set_option maxHeartbeats 800000 in
theorem clone_any (B : Nat) (i : Int) (f s : Nat) (p : Option Addr) (a : Option Addr) (n c : Nat) (w : World) (h0 : w.cell? ⟨B, 0, none⟩ = some (.int .i64 i)) (h1 : w.cell? ⟨B, 1, none⟩ = some (.float .f64 f)) (h2 : w.cell? ⟨B, 2, none⟩ = some (.float .f64 s))
    (h3 : w.cell? ⟨B, 3, none⟩ = some (.pointer p)) (h4 : w.cell? ⟨B, 4, none⟩ = some (.slice a n c)) (hB : B < w.heap.size) (hp : IsScale w p) :
    Calls Yba.prog 8 #[.pointer (some ⟨B, 0, none⟩)] w fun e w' => e = .returned (.pointer (some ⟨w.heap.size, 0, none⟩)) ∧ ∃ k, w' = (w.alloc (.cells #[.int .i64 i, .float .f64 f, .float .f64 s, .pointer p, .slice a n c] 42)).drewN k := by
  go_enter Yba.func8, Yba.ntmps8
  go_wp2
  go_region
  all_goals go_wp2
  have H1 : Hid (IsScale w p) := hp
  clear hp
  have H3 : Hid (∀ o, (w.alloc o).cell? ⟨B, 3, none⟩ = some (.pointer p)) := fun o => by rw [World.cell?_alloc_past _ _ _ hB]; exact h3
  go_region_with (first
    | (go_at_call 11; refine (load_any B p _ ?_ ?_).mono ?_; (· exact (H3.out _)); (· exact scale_drew1 (scale_drew1 (scale_alloc H1.out _))); rintro e w' ⟨rfl, rfl⟩)
    | (go_at_call 7; refine (store_any w.heap.size p (.pointer none) _ ?_ ?_ ?_).mono ?_; (· simp); (· simp); (· exact scale_drew1 (scale_drew1 (scale_alloc H1.out _))); rintro e w' ⟨rfl, rfl⟩))
  go_wp2
  go_ret
  exact ⟨rfl, 2, rfl⟩
/-! ### bytes.Clone -/
theorem info5 : (Yba.prog.info? 5).map (fun i => (i.zero, i.size, i.bytes)) = some (some (.int .u8 0), 1, 1) := by kernel_rfl
set_option maxHeartbeats 800000 in
theorem bytesClone_at (a : Addr) (n c : Nat) (xs : List Int) (w : World) (hx : xs.length = n) (hbig : n ≤ 140737488355328) (hc : ∀ i, i < n → w.cell? (a.add i) = some (.int .u8 (xs.getD i 0))) :
    Calls Yba.prog 6 #[.slice (some a) n c] w fun e w' => ∃ v', e = .returned v' ∧ w'.ownsRow w.heap.size 5 1 v' n (xs.map (Value.int .u8)) ∧ v' ≠ .slice none 0 0 ∧ Below w.heap.size w w' := by
  obtain ⟨i0, hi, hz0, hz1, hz2⟩ := info_parts info5
  have q := eql_nil
  have A : Hid (∀ i, i < n → w.cell? (a.add i) = some (.int .u8 (xs.getD i 0))) := hc
  clear hc
  go_enter Yba.func6, Yba.ntmps6
  go_wp2_with (at_builtin; refine wpList_append_own _ rfl _ _ 29 rfl w.heap.size 5 i0 (.int .u8 0) 1 1 Yba.underlying29 hi hz0 hz1 hz2 rfl (by decide) _ _ _ rfl (World.ownsRow_made w #[] 0 (Nat.le_refl _) (Nat.zero_le _) rfl) a n c (xs.map (Value.int .u8)) rfl ?qc1 ?qc2 ?qc3 ?qc4 ?qc5 ?qc6 ?_)
  case qc1 => simp; omega
  case qc2 =>
    intro j u hj
    have hjn : j < n := by
      have := (List.getElem?_eq_some_iff.1 hj).1
      simp at this
      omega
    refine Lib.cell?_alloc_some _ ?_
    rw [A.out j hjn]
    have e : (xs.map (Value.int .u8))[j]? = some (Value.int .u8 (xs.getD j 0)) := by simp [List.getD, List.getElem?_eq_getElem (show j < xs.length by omega)]
    rw [e] at hj
    exact hj
  case qc3 => intro u hu; obtain ⟨x, _, rfl⟩ := List.mem_map.1 hu; rfl
  case qc4 => unfold maxLen; omega
  case qc5 => omega
  case qc6 => simp
  intro v' w1 hown hgrow hnil
  go_wp2
  go_ret
  refine ⟨v', rfl, by simpa using hown, ?_, ?_⟩
  · first | exact hnil | (intro e; exact absurd (hnil.1 e).1 (by simp))
  · exact ((Below.refl _ w).alloc (Nat.le_refl _) _).grown hgrow (by simp) (by intro k hk; simp [Value.ownBlock] at hk; omega)
theorem bytesClone_nil (w : World) : Calls Yba.prog 6 #[.slice none 0 0] w fun e w' => e = .returned (.slice none 0 0) ∧ w' = w := by
  have q := eql_nil
  go_enter Yba.func6, Yba.ntmps6
  go_wp2
  go_ret
  exact ⟨rfl, rfl⟩
end Go.Proofs.Ybulkdmle.lawS5672BWhole
