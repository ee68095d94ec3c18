/-
  Plain data for 'LawS5671CWhole': the names, the kinds, what the stamps are. No Go in sight but the bytes of the strings and 'wrap64'.
-/
import Derived.WalkKit
namespace Go.Proofs.Ybulkdmkq.lawS5671CWhole
open Go.RowKit
set_option linter.unusedVariables false

/-- the three names: p, q, r -/
def name : Nat → ByteArray
  | 0 => { data := #[112] }
  | 1 => { data := #[113] }
  | _ => { data := #[114] }
/-- the four kinds: local, send, recv, other -/
def kind : Nat → ByteArray
  | 0 => { data := #[108, 111, 99, 97, 108] }
  | 1 => { data := #[115, 101, 110, 100] }
  | 2 => { data := #[114, 101, 99, 118] }
  | _ => { data := #[111, 116, 104, 101, 114] }

/-- how many of the first i events are j's -/
def cnt (p : Nat → Nat) (j : Nat) : Nat → Nat
  | 0 => 0
  | i + 1 => cnt p j i + if p i = j then 1 else 0
theorem cnt_le (p : Nat → Nat) (j i : Nat) : cnt p j i ≤ i := by
  induction i with
  | zero => exact Nat.le_refl _
  | succ i ih => unfold cnt; split <;> omega
theorem cnt_own (p : Nat → Nat) (i : Nat) : cnt p (p i) (i + 1) = cnt p (p i) i + 1 := by
  show cnt p (p i) i + (if p i = p i then 1 else 0) = _
  rw [if_pos rfl]
theorem cnt_other (p : Nat → Nat) (j i : Nat) (h : j ≠ p i) : cnt p j (i + 1) = cnt p j i := by
  show cnt p j i + (if p i = j then 1 else 0) = _
  rw [if_neg (fun e => h e.symm), Nat.add_zero]

/-- what Receive makes of the sent stamp v on p's clock at count c -/
def recvOf (v : Int) (p c : Nat) : Int := wrap64 (wrap64 (wrap64 (wrap64 (v * 3) + p) + 1) + 10000 * c)
/-- what Tick makes -/
def tickOf (p c : Nat) : Int := p * 1000 + c

/-- event i's stamp, the stamps so far being s -/
def stampOf (p k x : Nat → Nat) (s : Nat → Int) (i : Nat) : Int :=
  if k i = 2 then recvOf (s (x i)) (p i) (cnt p (p i) i + 1) else tickOf (p i) (cnt p (p i) i + 1)
/-- the stamps behind i events (zero where none is stamped yet) -/
def stamps (p k x : Nat → Nat) : Nat → Nat → Int
  | 0, _ => 0
  | i + 1, j => if j = i then stampOf p k x (stamps p k x i) i else stamps p k x i j

end Go.Proofs.Ybulkdmkq.lawS5671CWhole
