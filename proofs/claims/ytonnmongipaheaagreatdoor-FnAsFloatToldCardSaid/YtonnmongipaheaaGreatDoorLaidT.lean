/- The library's tables, read out of what the row lays. The premises on memory, out of what the row lays. -/
import Derived.Test.YtonnmongipaheaaGreatDoorData
import Derived.Test.YtonnmongipaheaaGreatDoorParse
import Derived.OpenShut
import Derived.FnData
import Derived.MakeChecks
namespace Go.Proofs.YtonnmongipaheaaGreatDoor
open Go.RowKit
set_option linter.unusedVariables false
set_option linter.unusedSimpArgs false

def TU : TypeId × Value → Unit := fun _ => ()

theorem laid_at {P : Program} {w : World} : ∀ {l : List (String × DataW Unit)} {ps : List MemPlace}, DataW.LaidVars P w l ps → ∀ n d, (n, d) ∈ l →
    ∃ g t cs fuel p, P.globalNamed n = some g ∧ (P.globals[g]?).map (·.type) = some t ∧ w.var? P n = some cs ∧ DataW.trod TU P w 0 (fun _ => true) false fuel t cs.toList = some (d, p) ∧ (∀ x ∈ MemPlace.row ⟨g, 0, none⟩ cs.size, x ∈ ps)
  | [], ps, h, n, d, hm => by simp at hm
  | (n0, d0) :: r, ps, h, n, d, hm => by
    obtain ⟨g, t, cs, fuel, p, q, h1, h2, h3, h4, h5, rfl⟩ := h
    rcases List.mem_cons.1 hm with e | hm
    · injection e with e1 e2
      subst e1 e2
      exact ⟨g, t, cs, fuel, p, h1, h2, h3, h4, fun x hx => by simp [hx]⟩
    · obtain ⟨g', t', cs', fuel', p', a, b, c, d', e⟩ := laid_at h5 n d hm
      exact ⟨g', t', cs', fuel', p', a, b, c, d', fun x hx => by simp [e x hx]⟩

theorem slice_row {W : World} {fuel : Nat} {t e : TypeId} {k : Nat} {cs : List Value} {L : List (DataW Unit)} {p : List MemPlace} (ht : Tryz.prog.underlying t = some (.slice e)) (hk : Tryz.prog.cellsOf e = k) (hk0 : 0 < k) (hL : 0 < L.length)
    (h : DataW.trod TU Tryz.prog W 0 (fun _ => true) false fuel t cs = some (.slice L [], p)) :
    ∃ b o, cs = [.slice (some ⟨b, o, none⟩) L.length L.length] ∧ ∀ i (hi : i < L.length), ∃ l m q, l.length = k ∧ (∀ j, j < k → W.cell? ⟨b, o + i * k + j, none⟩ = l[j]?) ∧ DataW.trod TU Tryz.prog W 0 (fun _ => true) false m e l = some (L[i], q) := by
  rcases DataW.trod_slice ht h with ⟨_, h2⟩ | ⟨a, len, cap, elems, rest, n, _, h1, hx, _, hlc, hcm, hel, hat, hsp, _⟩
  · cases h2
  · injection hx with e1 e2
    injection e1 with e3 e4
    obtain ⟨hrl, _⟩ := hsp rfl
    have hr0 : rest.length = 0 := by have := congrArg List.length e4; simpa using this.symm
    have hlen : L.length = len := by rw [e3, List.length_map, hel]
    have hcap : cap = len := by omega
    subst hcap
    have get : ∀ i (hi : i < L.length), ∃ l q, W.cells? 0 (a.add (i * k)) k = some l ∧ DataW.trod TU Tryz.prog W 0 (fun _ => true) false n e l = some (L[i], q) := by
      intro i hi
      have h2 := hat i (by omega)
      rw [hk, List.getElem?_eq_getElem (by omega)] at h2
      obtain ⟨l, h3, h4⟩ := Option.bind_eq_some_iff.1 h2
      refine ⟨l, (elems[i]'(by omega)).2, h3, ?_⟩
      rw [h4]
      have : L[i] = (elems[i]'(by omega)).1 := by simp [e3]
      rw [this]
    obtain ⟨l0, _, g0, _⟩ := get 0 hL
    obtain ⟨b, o, rfl⟩ := plain_of (by simpa using g0) hk0
    refine ⟨b, o, by rw [h1, hlen], fun i hi => ?_⟩
    obtain ⟨l, q, g1, g2⟩ := get i hi
    obtain ⟨_, hl, hc⟩ := World.cells?_some g1
    refine ⟨l, n, q, hl, fun j hj => ?_, g2⟩
    have := hc j hj
    rw [add_plain, add_plain] at this
    exact this

def powZ : List Int := [1, 3, 6, 9, 13, 16, 19, 23, 26]
theorem powZ_is : (Rows.laid_internal_strconv_powtab : DataW Unit) = .slice (powZ.map fun n => .lit (.int .i64 n)) [] := rfl
theorem powZ_all : powZ.all (fun z => decide (1 ≤ z) && decide (z ≤ 26)) = true := by decide
theorem powZ_ok : ∀ i (h : i < powZ.length), ∃ n : Nat, 1 ≤ n ∧ n ≤ 26 ∧ powZ[i] = (n : Int) := by
  intro i h
  have h1 := List.all_eq_true.1 powZ_all _ (List.getElem_mem h)
  simp only [Bool.and_eq_true, decide_eq_true_eq] at h1
  exact ⟨(powZ[i]).toNat, by omega, by omega, by omega⟩

def datF : DataW Unit → Nat
  | .lit (.float _ x) => x
  | _ => 0
def isF : DataW Unit → Bool
  | .lit (.float .f64 x) => match Ieee.double.read x with | .number false (m + 1) _ => true | _ => false
  | _ => false
def elemsOf : DataW Unit → List (DataW Unit)
  | .slice l _ => l
  | _ => []
theorem f10_is : (Rows.laid_internal_strconv_float64pow10 : DataW Unit) = .slice (elemsOf Rows.laid_internal_strconv_float64pow10) [] := rfl
theorem f10_len : (elemsOf Rows.laid_internal_strconv_float64pow10).length = 23 := rfl
theorem f10_ok : (elemsOf Rows.laid_internal_strconv_float64pow10).all isF = true := by kernel_rfl

theorem c3 : Tryz.prog.cellsOf 3 = 1 := by kernel_rfl
theorem c173 : Tryz.prog.cellsOf 173 = 2 := by kernel_rfl
theorem c162 : Tryz.prog.cellsOf 162 = 2 := by kernel_rfl
theorem c54 : Tryz.prog.cellsOf 54 = 1 := by kernel_rfl
theorem c51 : Tryz.prog.cellsOf 51 = 1 := by kernel_rfl
theorem cheat_len2 : Pinned.cheatRows.length = 61 := by kernel_rfl
theorem p10_len : Pinned.pow10Rows.length = 696 := by kernel_rfl

variable {W : World}

set_option maxRecDepth 100000 in
set_option maxHeartbeats 2000000 in
theorem laid_pow {fuel : Nat} {cs : List Value} {p : List MemPlace} (h : DataW.trod TU Tryz.prog W 0 (fun _ => true) false fuel 65 cs = some (Rows.laid_internal_strconv_powtab, p)) :
    ∃ q o, cs = [.slice (some ⟨q, o, none⟩) 9 9] ∧ ∀ k, k < 9 → ∃ n : Nat, 1 ≤ n ∧ n ≤ 26 ∧ W.cell? ⟨q, o + k, none⟩ = some (.int .i64 n) := by
  rw [powZ_is] at h
  obtain ⟨b, o, rfl, hr⟩ := slice_row Tryz.underlying65 c3 (by omega) (by decide) h
  refine ⟨b, o, rfl, fun k hk => ?_⟩
  have hk' : k < powZ.length := hk
  obtain ⟨l, m, q, hl, hc, ht⟩ := hr k (by rw [List.length_map]; exact hk')
  obtain ⟨z, rfl, hx, _⟩ := DataW.trod_int Tryz.underlying3 ht
  have h0 := hc 0 (by omega)
  obtain ⟨n, n1, n2, n3⟩ := powZ_ok k hk'
  have : z = n := by
    have := (Prod.mk.inj hx).1
    rw [List.getElem_map, n3] at this
    simpa using this.symm
  subst this
  exact ⟨n, n1, n2, by simpa using h0⟩

set_option maxRecDepth 100000 in
set_option maxHeartbeats 2000000 in
theorem laid_f10 {fuel : Nat} {cs : List Value} {p : List MemPlace} (h : DataW.trod TU Tryz.prog W 0 (fun _ => true) false fuel 27 cs = some (Rows.laid_internal_strconv_float64pow10, p)) :
    ∃ q o, cs = [.slice (some ⟨q, o, none⟩) 23 23] ∧ ∀ k, k < 23 → ∃ x m e, W.cell? ⟨q, o + k, none⟩ = some (.float .f64 x) ∧ Ieee.double.read x = .number false (m + 1) e := by
  rw [f10_is] at h
  obtain ⟨b, o, rfl, hr⟩ := slice_row Tryz.underlying27 cells22 (by omega) (by rw [f10_len]; omega) h
  refine ⟨b, o, by rw [f10_len], fun k hk => ?_⟩
  have hk' : k < (elemsOf Rows.laid_internal_strconv_float64pow10).length := by rw [f10_len]; exact hk
  obtain ⟨l, m, q, hl, hc, ht⟩ := hr k hk'
  obtain ⟨x, rfl, hx⟩ := trod_float Tryz.underlying22 ht
  have h0 := hc 0 (by omega)
  have h1 := List.all_eq_true.1 f10_ok _ (List.getElem_mem hk')
  rw [(Prod.mk.inj hx).1] at h1
  unfold isF at h1
  refine ⟨x, ?_⟩
  simp only at h1
  split at h1
  · rename_i m e hre
    exact ⟨m, e, by simpa using h0, hre⟩
  · cases h1

set_option maxRecDepth 100000 in
set_option maxHeartbeats 2000000 in
theorem laid_cheat {fuel : Nat} {cs : List Value} {p : List MemPlace} (h : DataW.trod TU Tryz.prog W 0 (fun _ => true) false fuel 174 cs = some (Pinned.leftcheats, p)) :
    ∃ q o, cs = [.slice (some ⟨q, o, none⟩) 61 61] ∧ ∀ k, k < 61 → W.cell? ⟨q, o + k * 2, none⟩ = some (.int .i64 (cheatD k)) ∧ W.cell? ⟨q, o + k * 2 + 1, none⟩ = some (.string ⟨(cheatL k).toArray⟩) := by
  unfold Pinned.leftcheats at h
  obtain ⟨b, o, rfl, hr⟩ := slice_row Tryz.underlying174 c173 (by omega) (by rw [List.length_map, cheat_len2]; omega) h
  refine ⟨b, o, by rw [List.length_map, cheat_len2], fun k hk => ?_⟩
  have hk' : k < Pinned.cheatRows.length := by rw [cheat_len2]; exact hk
  obtain ⟨l, m, q, hl, hc, ht⟩ := hr k (by simpa using hk')
  obtain ⟨xs, n, _, hx, hll, hxl, hf⟩ := DataW.trod_struct Tryz.underlying173 ht
  match l, hl with
  | [v0, v1], _ =>
    have f0 : DataW.trod TU Tryz.prog W 0 (fun _ => true) false n 3 ((([v0, v1] : List Value).drop 0).take (Tryz.prog.cellsOf 3)) = xs[0]? := hf 0 _ rfl
    have f1 : DataW.trod TU Tryz.prog W 0 (fun _ => true) false n 9 ((([v0, v1] : List Value).drop 1).take (Tryz.prog.cellsOf 9)) = xs[1]? := hf 1 _ rfl
    rw [c3] at f0
    rw [cells9] at f1
    match xs, hxl with
    | [y0, y1], _ =>
      obtain ⟨z, e0, rfl, _⟩ := DataW.trod_int Tryz.underlying3 f0
      obtain ⟨s, e1, rfl, _⟩ := DataW.trod_string Tryz.underlying9 f1
      have hd := (Prod.mk.inj hx).1
      rw [List.getElem_map] at hd
      simp only [List.map_cons, List.map_nil, DataW.agg.injEq, List.cons.injEq, DataW.lit.injEq, Lit.int.injEq, Lit.string.injEq, and_true, true_and] at hd
      have g0 := hc 0 (by omega)
      have g1 := hc 1 (by omega)
      simp at e0 e1
      subst e0 e1
      have d1 : cheatD k = (Pinned.cheatRows[k]'hk').1 := by unfold cheatD; rw [List.getD_eq_getElem?_getD, List.getElem?_eq_getElem hk']; rfl
      have d2 : cheatL k = (Pinned.cheatRows[k]'hk').2 := by unfold cheatL; rw [List.getD_eq_getElem?_getD, List.getElem?_eq_getElem hk']; rfl
      refine ⟨?_, ?_⟩
      · rw [d1, hd.1]; simp
      · rw [d2, hd.2]; simp

set_option maxRecDepth 100000 in
set_option maxHeartbeats 2000000 in
theorem laid_p10 {fuel : Nat} {cs : List Value} {p : List MemPlace} (h : DataW.trod TU Tryz.prog W 0 (fun _ => true) false fuel 163 cs = some (Pinned.pow10Tab, p)) : ∀ k, k < 1392 → ∃ n : Int, cs[k]? = some (.int .u64 n) := by
  intro k hk
  obtain ⟨xs, m, _, hx, hl, hxl, hf⟩ := DataW.trod_array Tryz.underlying163 h
  have h1 := hf (k / 2) (by omega)
  rw [c162, List.getElem?_eq_getElem (by omega)] at h1
  obtain ⟨ys, n, _, hy, hl2, hyl, hg⟩ := DataW.trod_struct Tryz.underlying162 h1
  have f0 : DataW.trod TU Tryz.prog W 0 (fun _ => true) false n 54 ((((cs.drop (k / 2 * 2)).take 2).drop 0).take (Tryz.prog.cellsOf 54)) = ys[0]? := hg 0 _ rfl
  have f1 : DataW.trod TU Tryz.prog W 0 (fun _ => true) false n 54 ((((cs.drop (k / 2 * 2)).take 2).drop 1).take (Tryz.prog.cellsOf 54)) = ys[1]? := hg 1 _ rfl
  rw [c54] at f0 f1
  match ys, hyl with
  | [y0, y1], _ =>
    obtain ⟨z0, e0, _, _⟩ := DataW.trod_int Tryz.underlying54 f0
    obtain ⟨z1, e1, _, _⟩ := DataW.trod_int Tryz.underlying54 f1
    have q0 : ((((cs.drop (k / 2 * 2)).take 2).drop 0).take 1)[0]? = some (.int .u64 z0) := by rw [e0]; rfl
    have q1 : ((((cs.drop (k / 2 * 2)).take 2).drop 1).take 1)[0]? = some (.int .u64 z1) := by rw [e1]; rfl
    rcases Nat.mod_two_eq_zero_or_one k with hm | hm
    · refine ⟨z0, ?_⟩
      have : k / 2 * 2 = k := by omega
      rw [this] at q0
      simpa using q0
    · refine ⟨z1, ?_⟩
      have : k / 2 * 2 + 1 = k := by omega
      simp [List.getElem?_take, List.getElem?_drop] at q1
      rw [this] at q1
      exact q1

set_option maxRecDepth 100000 in
set_option maxHeartbeats 2000000 in
theorem laid_iface {fuel : Nat} {cs : List Value} {p : List MemPlace} {nm : String} {d : DataW Unit} (h : DataW.trod TU Tryz.prog W 0 (fun _ => true) false fuel 56 cs = some (.iface nm d, p)) : ∃ te pe, cs = [.iface te pe] := by
  cases fuel with
  | zero => simp [DataW.trod] at h
  | succ n =>
    unfold DataW.trod at h
    rw [Tryz.underlying56] at h
    split at h <;> simp_all
end Go.Proofs.YtonnmongipaheaaGreatDoor

namespace Go.Proofs.YtonnmongipaheaaGreatDoor
open Go.RowKit
set_option linter.unusedVariables false
set_option linter.unusedSimpArgs false

variable {W : World}

set_option maxRecDepth 100000 in
set_option maxHeartbeats 2000000 in
theorem laid_inf {fuel : Nat} {cs : List Value} {p : List MemPlace} (h : DataW.trod TU Tryz.prog W 0 (fun _ => true) false fuel 119 cs = some (Rows.laid_internal_strconv_float64info, p)) :
    cs[0]? = some (.int .u64 52) ∧ cs[1]? = some (.int .u64 11) ∧ cs[2]? = some (.int .i64 (-1023)) := by
  obtain ⟨xs, n, _, hx, hll, hxl, hf⟩ := DataW.trod_struct Tryz.underlying119 h
  have f0 : DataW.trod TU Tryz.prog W 0 (fun _ => true) false n 51 ((cs.drop 0).take (Tryz.prog.cellsOf 51)) = xs[0]? := hf 0 _ rfl
  have f1 : DataW.trod TU Tryz.prog W 0 (fun _ => true) false n 51 ((cs.drop 1).take (Tryz.prog.cellsOf 51)) = xs[1]? := hf 1 _ rfl
  have f2 : DataW.trod TU Tryz.prog W 0 (fun _ => true) false n 3 ((cs.drop 2).take (Tryz.prog.cellsOf 3)) = xs[2]? := hf 2 _ rfl
  rw [c51] at f0 f1
  rw [c3] at f2
  match xs, hxl with
  | [y0, y1, y2], _ =>
    obtain ⟨z0, e0, rfl, _⟩ := DataW.trod_int Tryz.underlying51 f0
    obtain ⟨z1, e1, rfl, _⟩ := DataW.trod_int Tryz.underlying51 f1
    obtain ⟨z2, e2, rfl, _⟩ := DataW.trod_int Tryz.underlying3 f2
    have hd := (Prod.mk.inj hx).1
    simp only [Rows.laid_internal_strconv_float64info, List.map_cons, List.map_nil, DataW.agg.injEq, List.cons.injEq, DataW.lit.injEq, Lit.int.injEq, and_true, true_and] at hd
    obtain ⟨rfl, rfl, rfl⟩ := hd
    have q0 : ((cs.drop 0).take 1)[0]? = some (.int .u64 52) := by rw [e0]; rfl
    have q1 : ((cs.drop 1).take 1)[0]? = some (.int .u64 11) := by rw [e1]; rfl
    have q2 : ((cs.drop 2).take 1)[0]? = some (.int .i64 (-1023)) := by rw [e2]; rfl
    simp [List.getElem?_take, List.getElem?_drop] at q0 q1 q2
    exact ⟨by simpa using q0, q1, q2⟩

theorem glob {n : String} {g g' : Nat} (h : Tryz.prog.globalNamed n = some g) (h' : Tryz.prog.globalNamed n = some g') : g = g' := Option.some.inj (h.symm.trans h')

set_option maxRecDepth 100000 in
set_option maxHeartbeats 4000000 in
theorem tab_of (h : laidMetH Tryz.prog Rows.fnAsFloatToldRow.laid W) : Tab W.heap.size W ∧ ErrTab W := by
  rw [MakeChecks.laidMetH_plain _ _ _ (by kernel_rfl)] at h
  obtain ⟨ps, hL, _, hps⟩ := h
  have at_ := fun n d hm => laid_at hL n d hm
  have key : ∀ n d g t, (n, d) ∈ Rows.fnAsFloatToldRow.laid → Tryz.prog.globalNamed n = some g → (Tryz.prog.globals[g]?).map (·.type) = some t →
      ∃ (cs : Array Value) (fuel : Nat) (p : List MemPlace), (∀ i, W.cell? ⟨g, i, none⟩ = cs[i]?) ∧ DataW.trod TU Tryz.prog W 0 (fun _ => true) false fuel t cs.toList = some (d, p) ∧ (0 < cs.size → ∃ c t, W.heap[g]? = some (.cells c t (0, 0))) := by
    intro n d g t hm hg ht
    obtain ⟨g', t', cs, fuel, p, h1, h2, h3, h4, h5⟩ := at_ n d hm
    obtain rfl := glob h1 hg
    obtain rfl := Option.some.inj (h2.symm.trans ht)
    refine ⟨cs, fuel, p, fun i => World.var?_cell h1 h3 i, h4, fun h0 => ?_⟩
    exact (hps _ _ (h5 _ (by simp only [MemPlace.row, List.mem_map, List.mem_range]; exact ⟨0, h0, rfl⟩))).1
  obtain ⟨c10, _, _, g10, t10, _⟩ := key "internal/strconv.leftcheats" Rows.laid_internal_strconv_leftcheats 10 174 (by simp [Rows.fnAsFloatToldRow]) (by kernel_rfl) (by kernel_rfl)
  obtain ⟨c9, _, _, g9, t9, _⟩ := key "internal/strconv.pow10Tab" Rows.laid_internal_strconv_pow10Tab 9 163 (by simp [Rows.fnAsFloatToldRow]) (by kernel_rfl) (by kernel_rfl)
  obtain ⟨c8, _, _, g8, t8, _⟩ := key "internal/strconv.float64pow10" Rows.laid_internal_strconv_float64pow10 8 27 (by simp [Rows.fnAsFloatToldRow]) (by kernel_rfl) (by kernel_rfl)
  obtain ⟨c7, _, _, g7, t7, _⟩ := key "internal/strconv.powtab" Rows.laid_internal_strconv_powtab 7 65 (by simp [Rows.fnAsFloatToldRow]) (by kernel_rfl) (by kernel_rfl)
  obtain ⟨c5, _, _, g5, t5, b5⟩ := key "internal/strconv.float64info" Rows.laid_internal_strconv_float64info 5 119 (by simp [Rows.fnAsFloatToldRow]) (by kernel_rfl) (by kernel_rfl)
  obtain ⟨c3', _, _, g3, t3, b3⟩ := key "internal/strconv.float32info" Rows.laid_internal_strconv_float32info 3 119 (by simp [Rows.fnAsFloatToldRow]) (by kernel_rfl) (by kernel_rfl)
  obtain ⟨c4, _, _, g4, t4, _⟩ := key "internal/strconv.optimize" Rows.laid_internal_strconv_optimize 4 4 (by simp [Rows.fnAsFloatToldRow]) (by kernel_rfl) (by kernel_rfl)
  obtain ⟨c1, _, _, g1, t1, _⟩ := key "strconv.ErrSyntax" Rows.laid_strconv_ErrSyntax 1 56 (by simp [Rows.fnAsFloatToldRow]) (by kernel_rfl) (by kernel_rfl)
  obtain ⟨c2, _, _, g2, t2, _⟩ := key "strconv.ErrRange" Rows.laid_strconv_ErrRange 2 56 (by simp [Rows.fnAsFloatToldRow]) (by kernel_rfl) (by kernel_rfl)
  obtain ⟨q10, o10, e10, r10⟩ := laid_cheat t10
  obtain ⟨q8, o8, e8, r8⟩ := laid_f10 t8
  obtain ⟨q7, o7, e7, r7⟩ := laid_pow t7
  have r9 := laid_p10 t9
  obtain ⟨i0, i1, i2⟩ := laid_inf t5
  obtain ⟨te1, pe1, e1⟩ := laid_iface t1
  obtain ⟨te2, pe2, e2⟩ := laid_iface t2
  obtain ⟨b4, e4, x4⟩ := DataW.trod_bool Tryz.underlying4 t4
  have hb4 : b4 = true := by
    have := (Prod.mk.inj x4).1
    simpa [Rows.laid_internal_strconv_optimize] using this.symm
  subst hb4
  have one : ∀ {c : Array Value} {v : Value}, c.toList = [v] → c[0]? = some v := by
    intro c v h
    rw [← Array.getElem?_toList, h]; rfl
  have k1 : W.cell? ⟨1, 0, none⟩ = some (.iface te1 pe1) := (g1 0).trans (one e1)
  have k2 : W.cell? ⟨2, 0, none⟩ = some (.iface te2 pe2) := (g2 0).trans (one e2)
  have k10 : W.cell? ⟨10, 0, none⟩ = _ := (g10 0).trans (one e10)
  have k8 : W.cell? ⟨8, 0, none⟩ = _ := (g8 0).trans (one e8)
  have k7 : W.cell? ⟨7, 0, none⟩ = _ := (g7 0).trans (one e7)
  have k4 : W.cell? ⟨4, 0, none⟩ = _ := (g4 0).trans (one e4)
  have lt : ∀ {a : Addr} {v : Value}, W.cell? a = some v → a.block < W.heap.size := fun h => World.block_lt_of_cell? W _ h
  have sz : 11 ≤ W.heap.size := by
    have h10 := lt k10
    have h10' : 10 < W.heap.size := h10
    omega
  refine ⟨⟨sz, ⟨q10, o10, lt (r10 0 (by omega)).1, k10, r10⟩, ⟨q7, o7, ?_, k7, r7⟩, ⟨q8, o8, ?_, k8, r8⟩, ?_, k4, ?_, ?_, ?_, ?_, ⟨_, k1⟩, ⟨_, k2⟩⟩, ⟨by omega, ⟨_, _, k1⟩, ⟨_, _, k2⟩⟩⟩
  · obtain ⟨n, _, _, h⟩ := r7 0 (by omega)
    exact lt h
  · obtain ⟨x, m, e, h, _⟩ := r8 0 (by omega)
    exact lt h
  · intro k hk
    obtain ⟨n, h⟩ := r9 k hk
    exact ⟨n, (g9 k).trans (by rw [← Array.getElem?_toList]; exact h)⟩
  · exact (g5 0).trans (by rw [← Array.getElem?_toList]; exact i0)
  · exact (g5 1).trans (by rw [← Array.getElem?_toList]; exact i1)
  · exact (g5 2).trans (by rw [← Array.getElem?_toList]; exact i2)
  · intro g hg
    have s5 : 0 < c5.size := by
      have := i0
      rw [Array.getElem?_toList] at this
      exact (Array.getElem?_eq_some_iff.1 this).1
    have s3 : 0 < c3'.size := by
      obtain ⟨xs, n, _, hx, hll, hxl, hf⟩ := DataW.trod_struct Tryz.underlying119 t3
      have : Tryz.prog.cellsOf 119 = 3 := by kernel_rfl
      rw [this] at hll
      simp at hll
      omega
    rcases hg with rfl | rfl
    · exact b3 s3
    · exact b5 s5
end Go.Proofs.YtonnmongipaheaaGreatDoor
