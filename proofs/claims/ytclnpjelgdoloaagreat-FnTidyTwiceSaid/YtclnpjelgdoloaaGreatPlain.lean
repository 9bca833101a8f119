/- impl.plain: a tree of plain data is laid into memory as an interface value. -/
import Derived.Test.YtclnpjelgdoloaaGreatPRep
namespace Go.Proofs.YtclnpjelgdoloaaGreat
open Go.RowKit Go.Maps
set_option linter.unusedVariables false

theorem info20 : (Tryz.prog.info? 20).map (fun i => (i.zero, i.size, i.bytes)) = some (some .nilIface, 1, 16) := by kernel_rfl

section
variable {ops : Array Oper} {rest : List Oper} {o : Oper} {a : Act} {w : World} {Q : Exit → Act → World → Prop}
set_option maxRecDepth 100000 in
theorem wpList_buildSlice_any (hgd : Region.wanted o (yielded ops a.tmps) = true) (T : TypeId) (hT : T = 56) (y : Operand) (ho : o.op = .buildSlice T 1 #[(0, y)])
    (x : Value) (hy : a.eval y = x) (hx : x = .nilIface ∨ ∃ ty v, x = .iface ty v)
    (h : wpList Tryz.prog ops Q rest (a.put o.dst (.slice (some ⟨w.heap.size, 0, none⟩) 1 1)) (w.alloc (.cells #[x] 20))) : wpList Tryz.prog ops Q (o :: rest) a w := by
  refine BigFrame.wpList_want hgd fun K hK => ?_
  have hk := hK _ _ h
  clear h hK
  subst hT
  unfold Oper.wp execOp
  simp only [ho]
  simp only [List.map_toArray, List.map_cons, List.map_nil, hy]
  clear hy ho
  rcases hx with e | ⟨ty, v, e⟩
  · rw [e] at hk ⊢
    clear e
    go_simp
    exact hk
  · rw [e] at hk ⊢
    clear e
    go_simp
    exact hk
end

def PlainPost (t : V) (w : World) (e : Ending) (w' : World) : Prop := ∃ x, e = .returned x ∧ PSep w' w.heap.size w'.heap.size x t ∧ Below w.heap.size w w'

set_option maxRecDepth 100000 in
set_option maxHeartbeats 1000000 in
theorem plain_scalar (t : V) (v : Value) (w : World) (hrep : Rep w v t) (hk : t.k = 1 ∨ t.k = 2 ∨ t.k = 3 ∨ t.k = 5 ∨ t.k = 4) : Calls Tryz.prog 20 #[v] w (PlainPost t w) := by
  obtain ⟨la, ka, lc, kc, cs, ho⟩ := hrep.open_
  obtain rfl := ho.eq
  have HB0 := fun (X : Array Value) => hid ((Below.refl w.heap.size w).alloc (Nat.le_refl _) (.cells X 26))
  clear ho hrep
  rcases hk with hk | hk | hk | hk | hk
  · have HK := hid hk
    rw [hk]
    clear hk
    go_enter Tryz.func20, Tryz.ntmps20
    go_wp2_with (fail)
    go_ret
    exact ⟨_, rfl, .null _ _ t HK.out, (HB0 _).out⟩
  · have HK := hid hk
    rw [hk]
    clear hk
    go_enter Tryz.func20, Tryz.ntmps20
    go_wp2_with (fail)
    go_ret
    exact ⟨_, rfl, .bool _ _ t HK.out, (HB0 _).out⟩
  · have HK := hid hk
    rw [hk]
    clear hk
    go_enter Tryz.func20, Tryz.ntmps20
    go_wp2_with (fail)
    go_ret
    exact ⟨_, rfl, .int _ _ t HK.out, (HB0 _).out⟩
  · have HK := hid hk
    rw [hk]
    clear hk
    go_enter Tryz.func20, Tryz.ntmps20
    go_wp2_with (fail)
    go_ret
    exact ⟨_, rfl, .str _ _ t HK.out, (HB0 _).out⟩
  · have HK := hid hk
    rw [hk]
    clear hk
    go_enter Tryz.func20, Tryz.ntmps20
    go_wp2_with (fail)
    go_ret
    exact ⟨_, rfl, .flo _ _ t HK.out, (HB0 _).out⟩
end Go.Proofs.YtclnpjelgdoloaaGreat
