/- The reading machine of package discover, told plainly: its tables (taken out of the loaded program by a function), which signs each table holds, and what may lie on its stack. -/
import Derived.Test.YtdbhgdnhdnfhiaaRows
import Derived.WalkKit
namespace Go.Proofs.Ytdbhgdnhdnfhiaa

/-- The operations of the region with a number. -/
def opsOf (n : Nat) : Code → Option (List Oper)
  | .region k ops _ => if k = n then some ops.toList else .none
  | .seq a b => match opsOf n a with
    | some x => some x
    | .none => opsOf n b
  | .cond _ a b => match opsOf n a with
    | some x => some x
    | .none => opsOf n b
  | .block _ c => opsOf n c
  | .loop c => opsOf n c
  | .scope c => opsOf n c
  | _ => .none

/-- The constant string that the last operation of a region stores. -/
def storedIn (l : List Oper) : ByteArray :=
  match l.getLast? with
  | some o => match o.op with
    | .store _ _ (.const (.string s)) => s
    | _ => ⟨#[]⟩
  | .none => ⟨#[]⟩

noncomputable def storedAt (n : Nat) : ByteArray := storedIn ((Try.f8.body.bind (opsOf n)).getD [])

/-- The string of quotes that may open a text. -/
noncomputable def quoteOk : ByteArray :=
  match ((Try.f8.body.bind (opsOf 45)).getD [])[5]? with
  | some o => match o.op with
    | .index _ (.const (.string s)) _ => s
    | _ => ⟨#[]⟩
  | .none => ⟨#[]⟩

inductive Md where
  | scan | arr | obj | key | colon | pre | val | q1 | q2 | esc | u
  deriving DecidableEq

noncomputable def Md.str : Md → ByteArray
  | .scan => storedAt 5
  | .arr => storedAt 18
  | .obj => storedAt 25
  | .key => storedAt 36
  | .pre => storedAt 39
  | .colon => storedAt 40
  | .q2 => storedAt 49
  | .q1 => storedAt 50
  | .val => storedAt 60
  | .esc => storedAt 68
  | .u => storedAt 72

/-- What a table says of a byte. -/
noncomputable def Md.code (m : Md) (b : Nat) : Nat := (m.str.data.toList.getD b 0).toNat

theorem Md.size (m : Md) : m.str.size = 257 := by cases m <;> kernel_rfl

def Md.all : List Md := [.scan, .arr, .obj, .key, .colon, .pre, .val, .q1, .q2, .esc, .u]
theorem Md.mem_all (m : Md) : m ∈ Md.all := by cases m <;> simp [Md.all]
theorem Md.apart : (Md.all.all fun a => Md.all.all fun b => decide (a = b) || !(a.str.data.toList == b.str.data.toList)) = true := by kernel_rfl
theorem Md.str_inj {a b : Md} (h : a.str = b.str) : a = b := by
  have h1 := Md.apart
  rw [List.all_eq_true] at h1
  have h2 := h1 a (Md.mem_all a)
  rw [List.all_eq_true] at h2
  have h3 := h2 b (Md.mem_all b)
  rw [h] at h3
  simpa using h3

def okCode (m : Md) (b c : Nat) : Bool :=
  match c with
  | 46 => true
  | 91 => (m == .scan || m == .arr || m == .pre) && b == 91
  | 123 => (m == .scan || m == .arr || m == .pre) && b == 123
  | 93 => (m == .arr) && b == 93
  | 125 => (m == .obj || m == .val) && b == 125
  | 107 => m == .obj
  | 75 => m == .key
  | 58 => m == .colon
  | 113 => m == .arr || m == .obj || m == .pre
  | 81 => m == .arr || m == .obj || m == .pre
  | 122 => m == .q1 || m == .q2
  | 118 => m == .pre
  | 86 => m == .val
  | 112 => m == .esc
  | 98 => m == .q1 || m == .q2
  | 85 => m == .esc
  | 117 => m == .u
  | 101 => !(m == .scan)
  | _ => false

noncomputable def okTable (m : Md) : Bool := (List.range 256).all fun b => okCode m b (m.code b)

theorem okTable_all (m : Md) : okTable m = true := by cases m <;> kernel_rfl

theorem code_ok (m : Md) {b : Nat} (hb : b < 256) : okCode m b (m.code b) = true := by
  have h := okTable_all m
  unfold okTable at h
  rw [List.all_eq_true] at h
  exact h b (List.mem_range.2 hb)

theorem quoteOk_size : quoteOk.size = 256 := by kernel_rfl

end Go.Proofs.Ytdbhgdnhdnfhiaa
