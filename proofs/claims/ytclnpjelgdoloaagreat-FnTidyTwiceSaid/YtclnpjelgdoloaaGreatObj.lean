/- impl.object: an object out of its keys and of what is to be had at each. -/
import Derived.Test.YtclnpjelgdoloaaGreatKeysOf
import Derived.Test.YtclnpjelgdoloaaGreatObjAt
namespace Go.Proofs.YtclnpjelgdoloaaGreat
open Go.RowKit Go.Maps Go.Sort
set_option linter.unusedVariables false
set_option linter.unusedSimpArgs false

def SortGrown (base : Nat) (keys : List ByteArray) (v : Value) (w : World) (e : Ending) (w' : World) : Prop :=
  e = .returned (.tuple #[]) ∧ w'.ownsRow base 9 1 v keys.length ((sorted keys).map encStr) ∧ w.grownBy w' v.ownBlock

theorem grownBy_refl (w : World) (row : Option Nat) : w.grownBy w row := ⟨rfl, rfl, rfl, Nat.le_refl _, fun _ _ _ => rfl⟩

theorem sort_grown {w : World} {base : Nat} {ad : Option Addr} {cap : Nat} {keys : List ByteArray} (h : w.ownsRow base 9 1 (.slice ad keys.length cap) keys.length (keys.map Value.string)) (hn : keys.length ≤ 1000000) :
    Calls Tryz.prog 46 #[.slice ad keys.length cap] w (SortGrown base keys (.slice ad keys.length cap) w) := by
  have henc : keys.map Value.string = (keys.map fun k => k.data.toList).map encStr := by
    rw [List.map_map]
    apply List.map_congr_left
    intro k _
    simp [encStr]
  have hlen : (keys.map fun k => k.data.toList).length = keys.length := by simp
  rcases h.2 with ⟨hv, hz⟩ | ⟨g, cp, cur, hv, hb, hg, h1, h2, h3, h4⟩
  · have hk : keys = [] := List.eq_nil_of_length_eq_zero hz
    subst hk
    refine (Tryz.slices_Sort_string_none ad cap w).mono ?_
    rintro e w' ⟨rfl, rfl⟩
    exact ⟨rfl, by simpa [sorted] using h, grownBy_refl _ _⟩
  · simp only [Value.slice.injEq, true_and] at hv
    obtain ⟨rfl, rfl⟩ := hv
    have hc := Tryz.slices_Sort_string g 0 cap (keys.map fun k => k.data.toList) w (holds_of_block hg (by rw [hlen, ← henc]; simpa using h4)) (Array.getElem?_eq_some_iff.1 hg).1 (by rw [hlen]; omega)
    rw [hlen] at hc
    refine hc.mono ?_
    rintro e w' ⟨rfl, n, os, rfl⟩
    refine ⟨rfl, ?_, grownBy_sorted _⟩
    have := ownsRow_sorted (w := w) (n := n) (os := os) (e := 9) (ss := keys.map fun k => k.data.toList) (ts := sorted keys) (by simp [sorted]) hb hg (by rw [hlen]; exact h1) h2 h3
    rw [hlen] at this
    exact this

/-- The keys, sorted. -/
def skeys (ks : List ByteArray) : List ByteArray := (sorted ks).map fun l => ⟨l.toArray⟩

theorem skeys_enc (ks : List ByteArray) : (sorted ks).map encStr = (skeys ks).map Value.string := by
  unfold skeys
  rw [List.map_map]
  rfl

theorem skeys_perm (ks : List ByteArray) : (skeys ks).Perm ks := by
  have h := (sorted_perm ks).map (fun l : List UInt8 => (⟨l.toArray⟩ : ByteArray))
  rw [List.map_map] at h
  have e : ks.map ((fun l : List UInt8 => (⟨l.toArray⟩ : ByteArray)) ∘ fun k : ByteArray => k.data.toList) = ks := by
    conv => rhs; rw [← List.map_id ks]
    apply List.map_congr_left
    intro k _
    simp
  rw [e] at h
  exact h

theorem skeys_len (ks : List ByteArray) : (skeys ks).length = ks.length := (skeys_perm ks).length_eq

set_option maxRecDepth 100000 in
theorem get_any {w : World} {mb b nD : Nat} {D : DataW Value} (k : ByteArray) (hmb : w.heap[mb]? = some (.cells #[.map (some b)] 66 (0, 0))) (hm : w.ownsMap Tryz.prog 9 heldElem b nD D) (hk : k.size ≤ 140737488351232) :
    Calls Tryz.prog 35 #[.string k, .pointer (some ⟨mb, 0, none⟩)] w (fun e w' => ∃ x, e = .returned x ∧ D.atKey (keyLit k) (.held .nilIface) = .held x ∧ w' = w) := by
  obtain ⟨v1, p1, hl1, he1⟩ := hm.lookup K9 Tryz.underlying66 (z := .nilIface) (by kernel_rfl) (zd := .held .nilIface) (zp := []) rfl (keyOf9 k hk)
  have HE := hid he1
  have c0 : w.cell? ⟨mb, 0, none⟩ = some (.map (some b)) := (cell_of_row w mb 0 _ 66 (0, 0) hmb).trans rfl
  clear hmb hm hk he1
  go_enter Tryz.func35, Tryz.ntmps35
  go_wp2_with (fail)
  go_ret
  refine ⟨v1, rfl, ?_, rfl⟩
  have h := HE.out
  simp only [heldElem, Option.some.injEq, Prod.mk.injEq] at h
  exact h.1.symm

theorem enters35 : Enters 35 := fun args w => by kernel_rfl

/-- The object is whole. -/
theorem ObjAt.value {sk : List ByteArray} {l : List V} {n0 B : Nat} {w0 wr wf : World} {Lv Kv : Value} {cells : List Value} {Ts : List V} {t : V} (h : ObjAt sk l n0 w0 wr Lv Kv cells Ts) (hl : l = sk.map t.look) (hn : Ts.length = sk.length) (hk : t.k = 8) (h8 : t.keys.length = t.l.length ∧ t.keys.Nodup) (hsz : sk.length ≤ 300)
    (hnd : sk.Nodup) (hmem : ∀ k, k ∈ sk ↔ k ∈ t.keys) (hks : ∀ k ∈ t.keys, k.size ≤ 140737488351232) (ho : ∀ k, k ≠ n0 → wf.heap[k]? = wr.heap[k]?) (hB : B ≤ n0) :
    Rep (wf.only (above B)) (.agg (boxRow 8 Lv Kv)) (.mk 8 0 0 ByteArray.empty Ts sk) ∧ Same t (.mk 8 0 0 ByteArray.empty Ts sk) ∧ Fine (.mk 8 0 0 ByteArray.empty Ts sk) := by
  subst hl
  have hownK := h.ownK
  rw [hn, List.take_length] at hownK
  obtain ⟨la, lc, rfl, h1, h2, h3⟩ := ownsRow_form h.ownL
  obtain ⟨ka, kc, rfl, k1, k2, k3⟩ := ownsRow_form hownK
  refine ⟨?_, ?_, ?_⟩
  · refine Rep.mk 8 0 0 ByteArray.empty Ts sk la ka lc kc (fun j i => cells.getD (j * 6 + i) undef) (by unfold isI64; omega) (by unfold isI64; omega) (by simp) h1 (by omega) k1 (by omega) ?_ ?_ ?_
    · intro j hj
      obtain ⟨g, rfl, hg, _⟩ := h3 (j * 6) (by omega)
      refine ⟨g, 0, rfl, fun i hi => ?_⟩
      obtain ⟨g', e, _, hc⟩ := h3 (j * 6 + i) (by omega)
      simp only [Option.some.injEq, Addr.mk.injEq, and_true] at e
      subst e
      rw [only_cell]
      refine ⟨by simp [above]; omega, ?_⟩
      rw [Nat.zero_add]
      exact (World.cell?_of_block (a := ⟨g, j * 6 + i, none⟩) (ho g (by omega))).trans hc
    · intro j hj
      refine only_keep (h.row.rep j hj) fun k q1 q2 => ?_
      rw [besides2_iff] at q1
      exact ⟨by simp [above]; omega, ho k (by omega)⟩
    · intro j hj
      refine ⟨hks _ ((hmem _).1 (List.getElem_mem hj)), ?_⟩
      obtain ⟨g, rfl, hg, hc⟩ := k3 j (by omega)
      refine ⟨g, 0, rfl, ?_⟩
      rw [only_cell]
      refine ⟨by simp [above]; omega, ?_⟩
      rw [Nat.zero_add]
      refine (World.cell?_of_block (a := ⟨g, j, none⟩) (ho g (by omega))).trans (hc.trans ?_)
      rw [List.getD_eq_getElem?_getD, List.getElem?_map, List.getElem?_eq_getElem hj]
      rfl
  · refine .obj _ _ hk rfl h8.1 h8.2 (by show sk.length = Ts.length; omega) hnd hmem fun k hk' => ?_
    obtain ⟨j, hj, rfl⟩ := List.getElem_of_mem ((hmem k).2 hk')
    have hs := h.row.same j (by simpa using hj) (by omega)
    have e := look_at (t := .mk 8 0 0 ByteArray.empty Ts sk) hn.symm hnd j hj
    have e' : (V.mk 8 0 0 ByteArray.empty Ts sk).look sk[j] = Ts[j]'(by omega) := e
    rw [e']
    simpa using hs
  · refine .mk _ (by simp [V.k]) (fun h => by simp [V.k] at h) (fun h => by simp [V.k] at h) ⟨by show Ts.length ≤ 300; omega, hsz⟩ (fun h => absurd (.inr rfl) h) (fun h => ⟨hn.symm, hnd⟩) ?_
    intro x hx
    obtain ⟨j, hj, rfl⟩ := List.getElem_of_mem (show x ∈ Ts from hx)
    exact h.row.fine j hj

def lateO (i : Nat) : Bool := i == 0 || i == 2 || i == 5 || i == 7 || i == 8 || i == 13 || i == 14 || i == 15 || i == 16

/-- What impl.object gives. -/
def ObjPost (t : V) (base : Nat) (w : World) (e : Ending) (w' : World) : Prop := ∃ v t', e = .returned v ∧ Rep (w'.only (above w.heap.size)) v t' ∧ Same t t' ∧ Fine t' ∧ Below base w w'

set_option maxRecDepth 100000 in
set_option maxHeartbeats 4000000 in
theorem objectOf_any (t : V) (base mb b nD cap : Nat) (ad : Option Addr) (D : DataW Value) (xs : Nat → Value) (ks : List ByteArray) (w : World) (hk : t.k = 8) (hown : w.ownsRow base 9 1 (.slice ad ks.length cap) ks.length (ks.map Value.string)) (hbase : base ≤ w.heap.size)
    (hnd : ks.Nodup) (hmem : ∀ k, k ∈ ks ↔ k ∈ t.keys) (h8 : t.keys.length = t.l.length ∧ t.keys.Nodup) (hlen : t.keys.length ≤ 300) (hks : ∀ k ∈ t.keys, k.size ≤ 140737488351232)
    (hmb : w.heap[mb]? = some (.cells #[.map (some b)] 66 (0, 0))) (hmbb : mb < base) (hm : w.ownsMap Tryz.prog 9 heldElem b nD D) (hbb : b < base) (hD : MapIs D t.keys xs)
    (ih : ∀ k, k ∈ t.keys → ∀ x, D.atKey (keyLit k) (.held .nilIface) = .held x → ∀ (w' : World), Below base w w' → Calls Tryz.prog 18 #[x] w' (ValAt (t.look k) w')) :
    Calls Tryz.prog 33 #[.slice ad ks.length cap, .func (.func 35) #[] #[.pointer (some ⟨mb, 0, none⟩)]] w (ObjPost t base w) := by
  have hEn : ∀ (args : Array Value) (w : World), (callFunc 35 args).run Tryz.prog w = .ok (.enter 35 args) w := enters35
  have HK := hid hk
  have IH := hid ih
  have H8 := hid h8
  have HKS := hid hks
  have SKN : Hid (skeys ks).Nodup := hid ((skeys_perm ks).nodup_iff.2 hnd)
  have SKM : Hid (∀ k, k ∈ skeys ks ↔ k ∈ t.keys) := hid fun k => by rw [(skeys_perm ks).mem_iff, hmem k]
  have SKL := hid (skeys_len ks)
  have KL : Hid (ks.length ≤ 300) := hid (Nat.le_trans (nodup_len hnd fun k hk => (hmem k).1 hk) hlen)
  have HB := hid hbase
  have HMB := hid hmb
  have HM := hid hm
  have HX1 := hid hmbb
  have HX2 := hid hbb
  obtain ⟨i0, hi, hz0, hz1, hz2⟩ := info_parts info26
  obtain ⟨i9, hi9, hy0, hy1, hy2⟩ := info_parts info9
  have N2 := hid (two_new w (.cells zeroRow 26) (.cells zeroRow 26))
  unfold zeroRow at N2
  have HO := hid hown
  clear hk ih h8 hks hnd hmem hlen hbase hmb hm hmbb hbb hD hown
  go_enter Tryz.func33, Tryz.ntmps33
  go_wp2_with (first
    | (refine wpList_store26at rfl rfl (.tmp 5) (.tmp 8) rfl (w.heap.size + 1) (boxRow 8 (.slice none 0 0) (.slice none 0 0)) rfl rfl rfl (by simp [boxRow, Value.oneCell']) _ rfl N2.out.2.1 ?_; intro w2 hg2 ho2 hb2 hz2'; have G2 := hid hg2; have R2 := hid ((ho2 _ (by omega)).trans N2.out.1); have B2 : Hid (Below w.heap.size w w2) := hid (N2.out.2.2.trans (hb2.mono (by omega))); have O2 : Hid (w2.ownsRow base 9 1 (.slice ad ks.length cap) ks.length (ks.map Value.string)) := hid (ownsRow_move HO.out fun g hg => B2.out.block g (ownsRow_block HO.out hg).2); clear hg2 ho2 hb2 hz2')
    | (go_at_call 46; refine (sort_grown O2.out (by have := KL.out; omega)).mono ?_; rintro e w3 ⟨rfl, hown3, hgr3⟩; rw [skeys_enc] at hown3; have O3 := hid hown3; have GR3 := hid hgr3; clear hown3 hgr3))
  have ROW : Hid (∀ g, Value.ownBlock (.slice ad ks.length cap) = some g → base ≤ g ∧ g < w.heap.size) := hid fun g hg => ownsRow_block HO.out hg
  have keep3 : ∀ k, k < w2.heap.size → Value.ownBlock (.slice ad ks.length cap) ≠ some k → w3.heap[k]? = w2.heap[k]? := fun k hk hd => GR3.out.block k hk (fun e => hd e.symm)
  have Z2 : w.heap.size + 2 ≤ w2.heap.size := block_lt G2.out
  have B3 : Hid (Below base w w3) := hid ((B2.out.mono HB.out).grown GR3.out (by have := HB.out; omega) (fun k e => (ROW.out k e).1))
  have D0 : Hid (ObjAt (skeys ks) ((skeys ks).map t.look) w.heap.size w3 w3 (.slice none 0 0) (.slice none 0 0) [] []) := hid ⟨(keep3 _ (by omega) (fun e => by have := (ROW.out _ e).2; omega)).trans G2.out, (keep3 _ (by omega) (fun e => by have := (ROW.out _ e).2; omega)).trans R2.out, World.ownsRow_nil _ _ _ _, World.ownsRow_nil _ _ _ _, (fun g e => (by cases e)), Row6.nil _ _ _, Below.refl _ _⟩
  have MB3 : Hid (w3.heap[mb]? = some (.cells #[.map (some b)] 66 (0, 0))) := hid ((B3.out.block mb HX1.out).trans HMB.out)
  have M3 : Hid (w3.ownsMap Tryz.prog 9 heldElem b nD D) := hid (by obtain ⟨es, clock, hb', F, hs, hD⟩ := HM.out; exact ⟨es, clock, (B3.out.block b HX2.out).trans hb', F, hs, hD⟩)
  clear keep3 Z2
  go_loopw [13] (fun k wr => ∃ (Lv Kv : Value) (cells : List Value) (Ts : List V), k = .int .i64 (Ts.length : Int) ∧ Hid (ObjAt (skeys ks) ((skeys ks).map t.look) w.heap.size w3 wr Lv Kv cells Ts)) (fun k _ => ks.length - (intOf k).toNat)
  case atStart => exact ⟨_, _, [], [], rfl, D0⟩
  case round =>
    clear D0
    obtain ⟨Lv, Kv, cells, Ts, rfl, DA⟩ := hrel
    by_cases hlt : Ts.length < ks.length
    · have hls : Ts.length < (skeys ks).length := by rw [SKL.out]; exact hlt
      obtain ⟨g0, rfl, hg0⟩ : ∃ g0, ad = some ⟨g0, 0, none⟩ ∧ w3.cell? ⟨g0, Ts.length, none⟩ = some (.string (skeys ks)[Ts.length]) := by
        rcases id O3.out.2 with ⟨hv, hz⟩ | ⟨g, cp, cur, hv, _⟩
        · omega
        · simp only [Value.slice.injEq, true_and] at hv
          obtain ⟨rfl, rfl⟩ := hv
          refine ⟨g, rfl, ?_⟩
          rw [O3.out.cellAt _ (by omega), List.getElem?_map, List.getElem?_eq_getElem hls]
          rfl
      have cx : wr.cell? ⟨g0, Ts.length, none⟩ = some (.string (skeys ks)[Ts.length]) := (DA.out.bel.cell (p := ⟨g0, Ts.length, none⟩) ((ROW.out g0 rfl).2)).trans hg0
      have KM : Hid ((skeys ks)[Ts.length] ∈ t.keys) := hid ((SKM.out _).1 (List.getElem_mem hls))
      generalize hkey : (skeys ks)[Ts.length] = key at cx KM hg0
      have EKEY : Hid (∀ h : Ts.length < (skeys ks).length, (skeys ks)[Ts.length]'h = key) := hid fun _ => hkey
      clear hkey hg0
      have HLS := hid hls
      have HLT2 : Hid (Ts.length < ((skeys ks).map t.look).length) := hid (by simpa using hls)
      have SB : Hid (wr.drew.heap[w.heap.size + 1]? = some (.cells (boxRow 8 Lv Kv) 26 (0, 0))) := hid DA.out.blk
      have LO := hid DA.out.low
      have TL : Hid (Ts.length < 300) := hid (by have := KL.out; omega)
      obtain ⟨la, lc, rfl, _⟩ := ownsRow_form DA.out.ownL
      obtain ⟨ka, kc, rfl, _⟩ := ownsRow_form DA.out.ownK
      clear hls
      go_wp2_with (fail)
      refine wp_region_ways (fun w' => w'.heap[w.heap.size + 1]? = some (.cells (boxRow 8 (.slice la Ts.length lc) (.slice ka Ts.length kc)) 26 (0, 0))) lateO 17 rfl (by kernel_rfl) ?_
      refine ways_still (i := 0) (oi := ⟨some 17, .fieldAddr 26 (.tmp 5) 5, 0, _, _, none⟩) (v := .pointer (some ⟨w.heap.size + 1, 5, none⟩)) rfl (by kernel_rfl) rfl (by kernel_rfl) (by kernel_rfl) (fun _ _ _ h => h) rfl (fun w => by go_simp) ?_
      simp only [Act.put, List.setIfInBounds_toArray, List.set_cons_zero, List.set_cons_succ]
      refine ways_still (i := 2) (oi := ⟨some 19, .move (.tmp 7), 9, _, _, none⟩) (v := .string key) rfl (by kernel_rfl) rfl (by kernel_rfl) (by kernel_rfl) (fun _ _ _ h => h) rfl (fun w => by go_simp) ?_
      simp only [Act.put, List.setIfInBounds_toArray, List.set_cons_zero, List.set_cons_succ]
      refine ways_still (i := 5) (oi := ⟨some 22, .fieldAddr 26 (.tmp 5) 4, 0, _, _, none⟩) (v := .pointer (some ⟨w.heap.size + 1, 4, none⟩)) rfl (by kernel_rfl) rfl (by kernel_rfl) (by kernel_rfl) (fun _ _ _ h => h) rfl (fun w => by go_simp) ?_
      simp only [Act.put, List.setIfInBounds_toArray, List.set_cons_zero, List.set_cons_succ]
      refine ways_still (i := 7) (oi := ⟨some 24, .move (.tmp 1), 69, _, _, none⟩) (v := .func (.func 35) #[] #[.pointer (some ⟨mb, 0, none⟩)]) rfl (by kernel_rfl) rfl (by kernel_rfl) (by kernel_rfl) (fun _ _ _ h => h) rfl (fun w => by go_simp) ?_
      simp only [Act.put, List.setIfInBounds_toArray, List.set_cons_zero, List.set_cons_succ]
      refine ways_still (i := 8) (oi := ⟨some 25, .move (.tmp 7), 9, _, _, none⟩) (v := .string key) rfl (by kernel_rfl) rfl (by kernel_rfl) (by kernel_rfl) (fun _ _ _ h => h) rfl (fun w => by go_simp) ?_
      simp only [Act.put, List.setIfInBounds_toArray, List.set_cons_zero, List.set_cons_succ]
      refine ways_load (i := 1) (oi := ⟨some 18, .load 24 (.tmp 17), 24, _, _, none⟩) (v := .slice ka Ts.length kc) rfl (by kernel_rfl) rfl (by kernel_rfl) (by kernel_rfl) (by kernel_rfl) (fun _ _ _ h => h) rfl SB.out (fun w' hS => by have hc : w'.cell? ⟨w.heap.size + 1, 5, none⟩ = some (.slice ka Ts.length kc) := (cell_of_row _ _ 5 _ 26 (0, 0) hS).trans rfl; go_simp) ?_
      simp only [Act.put, List.setIfInBounds_toArray, List.set_cons_zero, List.set_cons_succ]
      refine ways_load (i := 6) (oi := ⟨some 23, .load 23 (.tmp 22), 23, _, _, none⟩) (v := .slice la Ts.length lc) rfl (by kernel_rfl) rfl (by kernel_rfl) (by kernel_rfl) (by kernel_rfl) (fun _ _ _ h => h) rfl SB.out (fun w' hS => by have hc : w'.cell? ⟨w.heap.size + 1, 4, none⟩ = some (.slice la Ts.length lc) := (cell_of_row _ _ 4 _ 26 (0, 0) hS).trans rfl; go_simp) ?_
      simp only [Act.put, List.setIfInBounds_toArray, List.set_cons_zero, List.set_cons_succ]
      refine ways_one (i := 3) (o := ⟨some 20, .buildSlice 24 1 #[(0, .tmp 19)], 24, _, _, none⟩) rfl (by kernel_rfl) ?_
      go_wp2_with (fail)
      have OK1 : Hid ((wr.drew.alloc (.cells #[.string key] 9)).ownsRow (w.heap.size + 2) 9 1 (.slice ka Ts.length kc) Ts.length (((skeys ks).take Ts.length).map Value.string)) := hid (DA.out.ownK1 (Y := .cells #[.string key] 9))
      have SB1 : Hid ((wr.drew.alloc (.cells #[.string key] 9)).heap[w.heap.size + 1]? = some (.cells (boxRow 8 (.slice la Ts.length lc) (.slice ka Ts.length kc)) 26 (0, 0))) := hid ((Below.heap_alloc _ _ _ LO.out).trans SB.out)
      refine Then.go (fun _ => SB1.out) ?_
      refine ways_one (i := 4) (o := ⟨some 21, .call { callee := .builtin .append, args := #[.tmp 18, .tmp 20], argTypes := #[24, 24] }, 24, _, _, none⟩) rfl (by kernel_rfl) ?_
      go_wp2_with (at_builtin; go_loud (refine wpList_append_own_at _ rfl (.tmp 18) (.tmp 20) 24 rfl (w.heap.size + 2) 9 i9 _ 1 16 Tryz.underlying24 hi9 hy0 hy1 hy2 rfl (by decide) (.slice ka Ts.length kc) Ts.length (((skeys ks).take Ts.length).map Value.string) rfl OK1.out ⟨wr.heap.size, 0, none⟩ 1 1 [.string key] rfl rfl (cell_one_new _ _ _) (by intro u hu; simp at hu; subst hu; rfl) (by have := TL.out; unfold maxLen; omega) (by have := TL.out; omega) (by have := LO.out; simp; omega) ?_); intro K' w4 hown4 hgrow4 hnil4 hat4; obtain ⟨ka', kc', rfl, _⟩ := ownsRow_form hown4; rw [← EKEY.out HLS.out] at hown4; have OW4 := hid hown4; have GR4 : Hid ((wr.alloc (.cells #[.string key] 9)).grownBy w4 (Value.ownBlock (.slice ka Ts.length kc))) := hid ⟨hgrow4.os, hgrow4.tape, hgrow4.output, hgrow4.size, hgrow4.block⟩; have AT4 : Hid (Value.ownBlock (.slice ka' (Ts.length + 1) kc') = Value.ownBlock (.slice ka Ts.length kc) ∨ Value.ownBlock (.slice ka' (Ts.length + 1) kc') = some (wr.alloc (.cells #[.string key] 9)).heap.size) := hid hat4; clear hown4 hgrow4 hnil4 hat4)
      have SB4 := hid (DA.out.box2 GR4.out)
      have L4 : Hid (wr.heap.size + 1 ≤ w4.heap.size) := hid (by have := GR4.out.size; simpa using this)
      have MB4 : Hid (w4.heap[mb]? = some (.cells #[.map (some b)] 66 (0, 0))) := hid (by
        have q : mb < w.heap.size := Nat.lt_of_lt_of_le HX1.out HB.out
        rw [DA.out.old2 GR4.out mb (by have := LO.out; omega) (fun e => by have := (ownsRow_block DA.out.ownK e).1; omega), DA.out.bel.block mb q]
        exact MB3.out)
      have M4 : Hid (w4.ownsMap Tryz.prog 9 heldElem b nD D) := hid (by
        have q : b < w.heap.size := Nat.lt_of_lt_of_le HX2.out HB.out
        obtain ⟨es, clock, hb', F, hs, hD⟩ := M3.out
        refine ⟨es, clock, ?_, F, hs, hD⟩
        rw [DA.out.old2 GR4.out b (by have := LO.out; omega) (fun e => by have := (ownsRow_block DA.out.ownK e).1; omega), DA.out.bel.block b q]
        exact hb')
      have BW4 : Hid (Below base w w4) := hid (by
        have b1 : Below w.heap.size w3 (wr.alloc (.cells #[.string key] 9)) := DA.out.bel.alloc (by have := LO.out; omega) _
        have b2 : Below w.heap.size w3 w4 := b1.grown GR4.out (by have := LO.out; simp; omega) (fun k e => by have := (ownsRow_block DA.out.ownK e).1; omega)
        exact B3.out.trans (b2.mono HB.out))
      refine Then.go (fun _ => SB4.out) ?_
      refine ways_still (i := 13) (oi := ⟨some 30, .fieldAddr 26 (.tmp 5) 5, 0, _, _, none⟩) (v := .pointer (some ⟨w.heap.size + 1, 5, none⟩)) rfl (by kernel_rfl) rfl (by kernel_rfl) (by kernel_rfl) (fun _ _ _ h => h) rfl (fun w => by go_simp) ?_
      simp only [Act.put, List.setIfInBounds_toArray, List.set_cons_zero, List.set_cons_succ]
      refine ways_one (i := 9) (o := ⟨some 26, .call { callee := .value (.tmp 24), args := #[.tmp 25], argTypes := #[9] }, 20, _, _, none⟩) rfl (by kernel_rfl) ?_
      go_wp2_with (refine (get_any key MB4.out M4.out (HKS.out _ KM.out)).mono ?_; rintro e w5 ⟨x, rfl, hx, rfl⟩; have EX := hid hx; have IHx := hid (IH.out key KM.out x hx w5 BW4.out); clear hx)
      refine Then.go (fun _ => SB4.out) ?_
      refine ways_one (i := 10) (o := ⟨some 27, .call { callee := .value (.func 18), args := #[.tmp 26], argTypes := #[20] }, 26, _, _, none⟩) rfl (by kernel_rfl) ?_
      go_wp2_with (go_at_call 18; refine IHx.out.mono ?_; rintro e w6 ⟨y, t', rfl, hr, hs, hf, hb⟩; obtain ⟨x0, x1, x2, x3, x4, x5, rfl⟩ := (only_rep hr).six; have R6 := hid hr; have S6 := hid hs; have F6 := hid hf; have B6 := hid hb; have C1 := hid (only_rep hr).cells.2; clear hr hs hf hb)
      refine Then.go (fun _ => (B6.out.block _ (by have := LO.out; have := L4.out; omega)).trans SB4.out) ?_
      refine ways_one (i := 11) (o := ⟨some 28, .buildSlice 23 1 #[(0, .tmp 27)], 23, _, _, none⟩) rfl (by kernel_rfl) ?_
      go_wp2_with (fail)
      have L6 := hid B6.out.size
      have SB7 : Hid ((w6.alloc (.cells #[x0, x1, x2, x3, x4, x5] 26)).heap[w.heap.size + 1]? = some (.cells (boxRow 8 (.slice la Ts.length lc) (.slice ka Ts.length kc)) 26 (0, 0))) := hid (by rw [Below.heap_alloc _ _ _ (by have := LO.out; have := L4.out; have := L6.out; omega), B6.out.block _ (by have := LO.out; have := L4.out; omega)]; exact SB4.out)
      have OL7 : Hid ((w6.alloc (.cells #[x0, x1, x2, x3, x4, x5] 26)).ownsRow (w.heap.size + 2) 26 6 (.slice la Ts.length lc) Ts.length cells) := hid (DA.out.ownL3 GR4.out B6.out)
      refine Then.go (fun _ => SB7.out) ?_
      refine ways_one (i := 12) (o := ⟨some 29, .call { callee := .builtin .append, args := #[.tmp 23, .tmp 28], argTypes := #[23, 23] }, 23, _, _, none⟩) rfl (by kernel_rfl) ?_
      go_wp2_with (at_builtin; go_loud (refine wpList_append_own_at _ rfl (.tmp 23) (.tmp 28) 23 rfl (w.heap.size + 2) 26 i0 _ 6 88 Tryz.underlying23 hi hz0 hz1 hz2 rfl (by decide) (.slice la Ts.length lc) Ts.length cells rfl OL7.out ⟨w6.heap.size, 0, none⟩ 1 1 [x0, x1, x2, x3, x4, x5] rfl rfl (news_six w6 x0 x1 x2 x3 x4 x5) (one_six C1.out) (by have := TL.out; unfold maxLen; omega) (by have := TL.out; omega) (by have := LO.out; have := L4.out; have := L6.out; simp; omega) ?_); intro L' w8 hown8 hgrow8 hnil8 hat8; obtain ⟨la', lc', rfl, _⟩ := ownsRow_form hown8; have DN := hid (DA.out.next HLT2.out HLS.out GR4.out OW4.out AT4.out B6.out R6.out (by have h := S6.out; rw [← EKEY.out HLS.out] at h; simpa using h) F6.out hgrow8 hown8 hat8); have SB8 : Hid (w8.heap[w.heap.size + 1]? = some (.cells (boxRow 8 (.slice la Ts.length lc) (.slice ka Ts.length kc)) 26 (0, 0))) := hid ((hgrow8.block _ (block_lt SB7.out) (fun e => by have := (ownsRow_block DA.out.ownL e.symm).1; omega)).trans SB7.out); clear hown8 hgrow8 hnil8 hat8)
      refine Then.go (fun _ => SB8.out) ?_
      refine ways_one (i := 14) (o := ⟨none, .store 24 (.tmp 30) (.tmp 21), 0, _, _, none⟩) rfl (by kernel_rfl) ?_
      have c5 : w8.cell? ⟨w.heap.size + 1, 5, none⟩ = some (.slice ka Ts.length kc) := (cell_of_row _ _ 5 _ 26 (0, 0) SB8.out).trans rfl
      have f5 : w8.frozen? ⟨w.heap.size + 1, 5, none⟩ = false := by simp [World.frozen?, SB8.out]
      go_wp2_with (fail)
      refine Then.go (fun h => absurd h (by decide)) ?_
      refine ways_one (i := 15) (o := ⟨some 31, .fieldAddr 26 (.tmp 5) 4, 0, _, _, none⟩) rfl (by kernel_rfl) ?_
      go_wp2_with (fail)
      refine Then.go (fun h => absurd h (by decide)) ?_
      have SB9 := hid (setCell_block (i := 5) (v := .slice ka' (Ts.length + 1) kc') SB8.out)
      refine ways_one (i := 16) (o := ⟨none, .store 23 (.tmp 31) (.tmp 29), 0, _, _, none⟩) rfl (by kernel_rfl) ?_
      have c4 : (w8.setCell ⟨w.heap.size + 1, 5, none⟩ (.slice ka' (Ts.length + 1) kc')).cell? ⟨w.heap.size + 1, 4, none⟩ = some (.slice la Ts.length lc) := (cell_of_row _ _ 4 _ 26 (0, 0) SB9.out).trans rfl
      have f4 : (w8.setCell ⟨w.heap.size + 1, 5, none⟩ (.slice ka' (Ts.length + 1) kc')).frozen? ⟨w.heap.size + 1, 4, none⟩ = false := by simp [World.frozen?, SB9.out]
      go_wp2_with (fail)
      refine Then.go (fun h => absurd h (by decide)) (ways_done (by kernel_rfl) ?_)
      go_wp2_with (fail)
      go_roundw
      case rel => exact ⟨_, _, _, Ts ++ [t'], by simp, DN⟩
      case measure => simp only [intOf]; omega
    · obtain ⟨la, lc, rfl, _⟩ := ownsRow_form DA.out.ownL
      obtain ⟨ka, kc, rfl, _⟩ := ownsRow_form DA.out.ownK
      have hle := DA.out.row.le
      have EN : Hid (Ts.length = (skeys ks).length) := hid (by have h := SKL.out; simp at hle; omega)
      have SK3 : Hid ((skeys ks).length ≤ 300) := hid (by rw [SKL.out]; exact KL.out)
      clear hle
      go_wp2_with (first
        | (refine wpList_loadBox rfl (.tmp 5) rfl (w.heap.size + 1) rfl (boxRow 8 (.slice la Ts.length lc) (.slice ka Ts.length kc)) rfl DA.out.blk ?_)
        | (refine wpList_store26at rfl rfl (.tmp 4) (.tmp 33) rfl w.heap.size (boxRow 8 (.slice la Ts.length lc) (.slice ka Ts.length kc)) rfl rfl rfl (by simp [boxRow, Value.oneCell']) _ rfl DA.out.res ?_; intro wf hgf hof hbf hzf; have GF := hid hgf; have OF := hid hof; have BF := hid hbf; clear hgf hof hbf hzf))
      have hc := fun i => cell_of_row _ w.heap.size i _ 26 (0, 0) GF.out
      have c0 := (hc 0).trans rfl
      have c1 := (hc 1).trans rfl
      have c2 := (hc 2).trans rfl
      have c3 := (hc 3).trans rfl
      have c4 := (hc 4).trans rfl
      have c5 := (hc 5).trans rfl
      clear hc
      have VV := DA.out.value (wf := wf) (B := w.heap.size) rfl EN.out HK.out H8.out SK3.out SKN.out SKM.out HKS.out OF.out (Nat.le_refl _)
      refine bodyPost_ret (v := .agg (boxRow 8 (.slice la Ts.length lc) (.slice ka Ts.length kc))) (by simp [results, Tryz.results33, go_sem, c0, c1, c2, c3, c4, c5, boxRow]) rfl ⟨_, _, rfl, VV.1, VV.2.1, VV.2.2, B3.out.trans ((DA.out.bel.trans BF.out).mono HB.out)⟩

end Go.Proofs.YtclnpjelgdoloaaGreat
