/- impl.plain. -/
import Derived.Test.YtclnpjelgdoloaaGreatPlainObj
namespace Go.Proofs.YtclnpjelgdoloaaGreat
open Go.RowKit Go.Maps
set_option linter.unusedVariables false

theorem plain_any (n : Nat) : ∀ (t : V) (v : Value) (w : World), SizeOf.sizeOf t ≤ n → Rep w v t → Fine t → Calls Tryz.prog 20 #[v] w (PlainPost t w) := by
  induction n with
  | zero => intro t v w hn; cases t; simp at hn
  | succ n ih =>
    intro t v w hn hrep hf
    have hlt : ∀ j (hj : j < t.l.length), SizeOf.sizeOf t.l[j] ≤ n := fun j hj => by
      have := V.l_lt (List.getElem_mem hj)
      omega
    have hll := hf.len.1
    by_cases h7 : t.k = 7
    · exact plain_arr t v w hrep h7 (by omega) fun j hj u w' hr => ih _ u w' (hlt j hj) hr (fine_elem hf j hj)
    · by_cases h8 : t.k = 8
      · have h8' := hf.obj h8
        exact plain_obj t v w hrep h8 (by omega) h8'.1 h8'.2 fun j hj u w' hr => ih _ u w' (hlt j hj) hr (fine_elem hf j hj)
      · exact plain_scalar t v w hrep (by have := fine_kind hf; omega)
end Go.Proofs.YtclnpjelgdoloaaGreat
