/- laws.light, laws.plainData, laws.zzFits1: what their yes says of a tree. -/
import Derived.Test.YtclnpjelgdoloaaGreatWhole
namespace Go.Proofs.YtclnpjelgdoloaaGreat
open Go.RowKit
set_option linter.unusedVariables false

section
variable {ops : Array Oper} {rest : List Oper} {o : Oper} {a : Act} {w : World} {Q : Exit → Act → World → Prop}
/-- A boxed value is loaded, whole. -/
theorem wpList_loadBox (hgd : Region.wanted o (yielded ops a.tmps) = true) (x : Operand) (ho : o.op = .load 26 x) (g : Nat) (hx : a.eval x = .pointer (some ⟨g, 0, none⟩)) (cs : Array Value) (hs : cs.size = 6)
    (hg : w.heap[g]? = some (.cells cs 26 (0, 0))) (h : wpList Tryz.prog ops Q rest (a.put o.dst (.agg cs)) w) : wpList Tryz.prog ops Q (o :: rest) a w := by
  refine BigFrame.wpList_want hgd fun K hK => ?_
  exact wp_load_row 26 x ho g hx 26 cs (0, 0) _ hg Tryz.underlying26 rfl (by rw [hs]; kernel_rfl) (hK _ _ h)
end

/-- A tree of plain data, of at most 300 parts and bytes. -/
structure Lite (t : V) : Prop where
  wt : t.wt ≤ 300
  cl : t.cl
  wh : t.wh
  big : t.has 6 = false

def Light (t : V) : Prop := Lite t

theorem box_block {w w1 : World} {X : Array Value} (hbel : Below (w.heap.size + 1) (w.alloc (.cells X 26)) w1) : w1.heap[w.heap.size]? = some (.cells X 26) := by
  rw [hbel.block _ (by omega)]
  exact heap_alloc_new w _

set_option maxRecDepth 100000 in
set_option maxHeartbeats 1000000 in
theorem light_any (t : V) (v : Value) (w : World) (hrep : Rep w v t) : Calls Tryz.prog 5 #[v, .int .i64 300] w (SaysPost (Light t) w) := by
  obtain ⟨la, ka, lc, kc, cs, ho⟩ := hrep.open_
  obtain rfl := ho.eq
  obtain ⟨X, hX⟩ : ∃ X, X = #[Value.int .i64 t.k, .int .i64 t.n, .float .f64 t.f, .string t.s, .slice la t.l.length lc, .slice ka t.keys.length kc] := ⟨_, rfl⟩
  have hXs : Hid (X.size = 6) := hid (by rw [hX]; rfl)
  rw [← hX] at hrep ⊢
  have HR := hid hrep
  clear hrep ho hX
  have R0 : Hid (Rep (w.alloc (.cells X 26)) (.agg X) t) := hid (HR.out.kept ((Below.refl _ w).alloc (Nat.le_refl _) _))
  have G0 : Hid ((w.alloc (.cells X 26)).heap[w.heap.size]? = some (.cells X 26)) := hid (heap_alloc_new w _)
  have B0 : Hid (Below (w.heap.size + 1) (w.alloc (.cells X 26)) (w.alloc (.cells X 26))) := hid (Below.refl _ _)
  go_enter Tryz.func5, Tryz.ntmps5
  go_wp2_with (first
    | (refine wpList_loadBox rfl (.tmp 2) rfl w.heap.size rfl X hXs.out (by first | exact G0.out | exact box_block B1.out | exact box_block B2.out | exact box_block B3.out) ?_)
    | (go_at_call 10; refine (weight_any _ t _ 300 _ (Nat.le_refl _) R0.out (by omega) (by omega)).mono ?_; rintro e w1 ⟨r, rfl, hr1, hr2, hb⟩; have B1 := hid (box_trans B0.out hb); have R1 := hid (R0.out.kept hb); have H1 := hid hr1; clear hr1 hr2 hb; by_cases hr0 : 0 ≤ r)
    | (go_at_call 11; refine (clean_any _ t _ _ (Nat.le_refl _) R1.out).mono ?_; rintro e w2 ⟨r2, rfl, hr2, hb⟩; have B2 := hid (box_trans B1.out hb); have R2 := hid (R1.out.kept hb); have H2 := hid hr2; clear hr2 hb; cases r2)
    | (go_at_call 12; refine (whole_any _ t _ _ (Nat.le_refl _) R2.out (by have := H1.out hr0; omega)).mono ?_; rintro e w3 ⟨r3, rfl, hr3, hb⟩; have B3 := hid (box_trans B2.out hb); have R3 := hid (R2.out.kept hb); have H3 := hid hr3; clear hr3 hb; cases r3)
    | (go_at_call 13; refine (holds_any 6 _ t _ _ (Nat.le_refl _) R3.out).mono ?_; rintro e w4 ⟨rfl, hb⟩; have B4 := hid (box_trans B3.out hb); clear hb; rcases h6 : t.has 6 with _ | _))
  all_goals go_ret
  · exact ⟨false, rfl, (fun h => by cases h), box_below B2.out⟩
  · exact ⟨false, rfl, (fun h => by cases h), box_below B3.out⟩
  · exact ⟨true, rfl, (fun _ => ⟨by have := H1.out hr0; omega, H2.out rfl, H3.out rfl, h6⟩), box_below B4.out⟩
  · exact ⟨false, rfl, (fun h => by cases h), box_below B4.out⟩
  · exact ⟨false, rfl, (fun h => by cases h), box_below B1.out⟩

set_option maxRecDepth 100000 in
theorem fits2_any {w : World} {ka : Option Addr} {kc : Nat} {keys : List ByteArray} (h : Keys w ka kc keys) : Calls Tryz.prog 9 #[.slice ka keys.length kc] w (SomeBool w) := by
  have s1 := h.le
  have s2 := h.cap
  have H := hid h
  clear h
  by_cases hbig : 2147483647 < keys.length
  · go_enter Tryz.func9, Tryz.ntmps9
    go_wp2_with (fail)
    go_ret
    exact ⟨_, rfl, rfl⟩
  · go_enter Tryz.func9, Tryz.ntmps9
    go_wp2_with (fail)
    go_loop [4, 10] (fun x k => ∃ kk : Nat, k = .int .i64 kk ∧ kk ≤ keys.length) (fun _ k => keys.length - (intOf k).toNat)
    case atStart => exact ⟨0, rfl, by omega⟩
    case round =>
      obtain ⟨kk, rfl, hkk⟩ := hrel
      by_cases hlt : kk < keys.length
      · obtain ⟨hs, b, o, rfl, hc⟩ := H.out.at_ kk hlt
        by_cases hb : 2147483647 < keys[kk].size
        · go_wp2_with (fail)
          go_ret
          exact ⟨_, rfl, rfl⟩
        · go_wp2_with (fail)
          go_round
          case rel => exact ⟨kk + 1, by go_num, by omega⟩
          case measure => simp [intOf]; omega
      · go_wp2_with (fail)
        go_ret
        exact ⟨_, rfl, rfl⟩

def MayBe (w : World) (e : Ending) (w' : World) : Prop := ∃ b : Bool, e = .returned (.bool b) ∧ Below w.heap.size w w'

set_option maxRecDepth 100000 in
theorem fits1_any (t : V) (v : Value) (w : World) (hrep : Rep w v t) : Calls Tryz.prog 4 #[v] w (MayBe w) := by
  obtain ⟨la, ka, lc, kc, cs, ho⟩ := hrep.open_
  obtain rfl := ho.eq
  have HK := hid (ho.kept ((Below.refl _ w).alloc (Nat.le_refl _) (.cells #[Value.int .i64 t.k, .int .i64 t.n, .float .f64 t.f, .string t.s, .slice la t.l.length lc, .slice ka t.keys.length kc] 26))).toKeys
  have s1 := ho.hs
  have s4 := ho.hl
  have s5 := ho.hlc
  have s6 := ho.hkl
  have s7 := ho.hkc
  clear ho hrep
  have hb := (Below.refl w.heap.size w).alloc (Nat.le_refl _) (.cells #[Value.int .i64 t.k, .int .i64 t.n, .float .f64 t.f, .string t.s, .slice la t.l.length lc, .slice ka t.keys.length kc] 26)
  have HB := hid hb
  clear hb
  by_cases h1 : 2147483647 < t.s.size
  · go_enter Tryz.func4, Tryz.ntmps4
    go_wp2_with (fail)
    go_ret
    exact ⟨_, rfl, HB.out⟩
  by_cases h2 : 2147483647 < t.l.length
  · go_enter Tryz.func4, Tryz.ntmps4
    go_wp2_with (fail)
    go_ret
    exact ⟨_, rfl, HB.out⟩
  go_enter Tryz.func4, Tryz.ntmps4
  go_wp2_with (go_at_call 9; refine (fits2_any HK.out).mono ?_; rintro e w' ⟨b, rfl, rfl⟩; cases b)
  all_goals go_ret
  all_goals exact ⟨_, rfl, HB.out⟩
end Go.Proofs.YtclnpjelgdoloaaGreat
