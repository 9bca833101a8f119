/- A store of what is there already turns nothing: into a map, into a cell. -/
import Derived.Test.YtclnpjelgdoloaaGreatTid
import Derived.Maps.RangeWalk
namespace Go.Proofs.YtclnpjelgdoloaaGreat
open Go.RowKit Go.Maps
open Go.ChangeMaps (setBlock)
open Go.WideElems (Fit rd rg rd_key rd_val rg_of)
open Go.WideShapes (atKey_sorted)
set_option linter.unusedVariables false

theorem setBlock_same {w : World} {b : Nat} {o : Obj} (h : w.heap[b]? = some o) : setBlock w b o = w := by
  unfold setBlock
  have : w.heap.setIfInBounds b o = w.heap := by
    apply Array.ext_getElem?
    intro i
    rw [Array.getElem?_setIfInBounds]
    split
    · rename_i e
      subst e
      rw [h]
      simp [block_lt h]
    · rfl
  rw [this]

theorem update_same {w : World} {b n : Nat} {D : DataW Value} {key : Value} {kl : Lit} {x : Value} (h : w.ownsMap Tryz.prog 9 heldElem b n D) (hkey : keyOf Tryz.prog 9 key = some kl) (hat : ∀ z, D.atKey kl z = .held x) :
    (Instr.mapUpdate 66 (.map (some b)) key x).run Tryz.prog w = .ok () w := by
  have K9 := K9
  obtain ⟨es, clock, hb, F, hs, rfl⟩ := h
  have hat0 := atKey_sorted (es.toList.map (rg Tryz.prog 9 heldElem)) (fit_rising K9 F) kl (K9.key hkey)
  rcases K9.find w hkey es.toList F.keys with ⟨h1, h2⟩ | ⟨j, e0, h1, h2, h3⟩
  · have := hat0.1 (fun p hp e1 => by
      obtain ⟨x, hx, rfl⟩ := List.mem_map.1 hp
      obtain ⟨y, hy⟩ := F.reads x hx
      have m1 := rd_key hy
      rw [rg_of hy] at e1
      rw [e1] at m1
      exact h2 x hx (K9.inj m1 hkey)) .nil
    rw [hat .nil] at this
    cases this
  · have hm0 : e0 ∈ es.toList := List.mem_of_getElem? h2
    obtain ⟨y0, hy0⟩ := F.reads e0 hm0
    obtain ⟨zv, hzv, hd⟩ := rd_val hy0
    have m0 := rd_key hy0
    rw [h3, hkey] at m0
    have h4 := hat0.2 (rg Tryz.prog 9 heldElem e0) (List.mem_map.2 ⟨e0, hm0, rfl⟩) (by rw [rg_of hy0]; exact (Option.some.inj m0).symm) .nil
    rw [hat .nil, rg_of hy0, hd] at h4
    have hv : e0.val = x := by
      simp only [heldElem, Option.some.injEq] at hzv
      subst hzv
      simpa using h4.symm
    have hj : es[j]? = some e0 := by simpa using h2
    have hmod : es.modify j (fun e' => { e' with key := key, val := x }) = es := by
      apply Array.ext_getElem?
      intro i
      rw [Array.getElem?_modify]
      split
      · rename_i e
        subst e
        rw [hj]
        simp only [Option.map_some, Option.some.injEq]
        rw [← h3, ← hv]
      · rfl
    have hrun : (Instr.mapUpdate 66 (.map (some b)) key x).run Tryz.prog w = .ok () (setBlock w b (.map (es.modify j (fun e' => { e' with key := key, val := x })) clock)) := by
      simp [Instr.mapUpdate, run_underlying Tryz.underlying66, MapKept.run_getObj_map hb, K9.check w false hkey, h1, hj, h3, K9.stays w hkey, MapKept.run_setObj_map _ hb, Result.andThen, setBlock]
    rw [hrun, hmod, setBlock_same hb]

theorem setCell_same {w : World} {a : Addr} {v : Value} (h : w.cell? a = some v) : w.setCell a v = w := by
  unfold World.cell? at h
  split at h
  · rename_i c e f hb
    split at h
    · cases h
    · have : (w.setCell a v).heap = w.heap := by
        apply Array.ext_getElem?
        intro i
        simp only [World.setCell, Array.getElem?_modify]
        split
        · rename_i e1
          subst e1
          rw [hb]
          simp only [Option.map_some, Option.some.injEq]
          congr 1
          apply Array.ext_getElem?
          intro q
          rw [Array.getElem?_setIfInBounds]
          split
          · rename_i e2
            subst e2
            rw [h]
            have := (Array.getElem?_eq_some_iff.1 h).1
            simp [this]
          · rfl
        · rfl
      show { w with heap := (w.setCell a v).heap } = w
      rw [this]
  · cases h
end Go.Proofs.YtclnpjelgdoloaaGreat
