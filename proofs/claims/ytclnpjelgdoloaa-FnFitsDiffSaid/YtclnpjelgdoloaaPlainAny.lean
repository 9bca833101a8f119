/- impl.plain. -/
import Derived.Test.YtclnpjelgdoloaaPlainObj
namespace Go.Proofs.Ytclnpjelgdoloaa
open Go.RowKit Go.Maps
set_option linter.unusedVariables false

theorem plain_any (n : Nat) : ∀ (t : V) (v : Value) (w : World), SizeOf.sizeOf t ≤ n → Rep w v t → Fine t → Calls Try.prog 25 #[v] w (PlainPost t w) := by
  induction n with
  | zero => intro t v w hn; cases t; simp at hn
  | succ n ih =>
    intro t v w hn hrep hf
    have hlt : ∀ j (hj : j < t.l.length), SizeOf.sizeOf t.l[j] ≤ n := fun j hj => by
      have := V.l_lt (List.getElem_mem hj)
      omega
    have hll := l_le_wt t
    have hwt := hf.wt
    rcases fine_kind hf with h | h | h | h | h | h
    · exact plain_scalar t v w hrep (by omega)
    · exact plain_scalar t v w hrep (by omega)
    · exact plain_scalar t v w hrep (by omega)
    · exact plain_scalar t v w hrep (by omega)
    · exact plain_arr t v w hrep h (by omega) fun j hj u w' hr => ih _ u w' (hlt j hj) hr (fine_elem hf (.inl h) j hj)
    · have h8 := ((V.wh_eq t).1 hf.wh).2.2.2 h
      exact plain_obj t v w hrep h (by omega) h8.1 h8.2 fun j hj u w' hr => ih _ u w' (hlt j hj) hr (fine_elem hf (.inr h) j hj)
end Go.Proofs.Ytclnpjelgdoloaa
