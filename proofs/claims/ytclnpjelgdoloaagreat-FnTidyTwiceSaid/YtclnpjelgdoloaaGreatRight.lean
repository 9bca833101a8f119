/- impl.right and impl.big at trees of plain data: yes, and no. -/
import Derived.Test.YtclnpjelgdoloaaGreatGood
namespace Go.Proofs.YtclnpjelgdoloaaGreat
open Go.RowKit
set_option linter.unusedVariables false

/-- A slice in memory that reads as a list of trees. -/
structure Lst (w : World) (la : Option Addr) (lc : Nat) (l : List V) (cs : Nat → Nat → Value) : Prop where
  le : l.length ≤ lc
  cap : l.length ≤ 140737488351232 ∧ lc ≤ 9223372036854775807
  at_ : ∀ j, j < l.length → ∃ b o, la = some ⟨b, o, none⟩ ∧ ∀ i, i < 6 → w.cell? ⟨b, o + j * 6 + i, none⟩ = some (cs j i)
  rep : ∀ j (hj : j < l.length), Rep w (.agg #[cs j 0, cs j 1, cs j 2, cs j 3, cs j 4, cs j 5]) l[j]

theorem Open.toLst {w : World} {v : Value} {t : V} {la ka : Option Addr} {lc kc : Nat} {cs : Nat → Nat → Value} (h : Open w v t la ka lc kc cs) : Lst w la lc t.l cs := ⟨h.hl, h.hlc, h.hla, h.hr⟩

theorem Lst.kept {w w' : World} {la : Option Addr} {lc : Nat} {l : List V} {cs : Nat → Nat → Value} (h : Lst w la lc l cs) (hb : Below w.heap.size w w') : Lst w' la lc l cs := by
  have keep : ∀ {a : Addr} {u : Value}, w.cell? a = some u → w'.cell? a = some u := fun h => (hb.cell (World.block_lt_of_cell? w _ h)).trans h
  refine ⟨h.le, h.cap, ?_, fun j hj => (h.rep j hj).kept hb⟩
  intro j hj
  obtain ⟨b, o, h1, h2⟩ := h.at_ j hj
  exact ⟨b, o, h1, fun i hi => keep (h2 i hi)⟩

/-- A function of a value that says no of each of a list. -/
def SaysNo (F : Nat) (w : World) (l : List V) (cs : Nat → Nat → Value) : Prop :=
  ∀ j (hj : j < l.length) (w' : World), Below w.heap.size w w' → Calls Tryz.prog F #[.agg #[cs j 0, cs j 1, cs j 2, cs j 3, cs j 4, cs j 5]] w' (BoolPost false w')

/-- A function that is entered when it is called. -/
def Enters (F : Nat) : Prop := ∀ (args : Array Value) (w : World), (callFunc F args).run Tryz.prog w = .ok (.enter F args) w
theorem enters22 : Enters 29 := fun args w => by kernel_rfl
theorem enters39 : Enters 48 := fun args w => by kernel_rfl
theorem enters43 : Enters 50 := fun args w => by kernel_rfl

def MinusOne (w : World) (e : Ending) (w' : World) : Prop := e = .returned (.int .i64 (-1)) ∧ Below w.heap.size w w'

set_option maxRecDepth 100000 in
theorem indexFunc_none {w : World} {la : Option Addr} {lc : Nat} {l : List V} {cs : Nat → Nat → Value} (F : Nat) (hE : Enters F) (h : Lst w la lc l cs) (hF : SaysNo F w l cs) :
    Calls Tryz.prog 58 #[.slice la l.length lc, .func (.func F) #[] #[]] w (MinusOne w) := by
  have s1 := h.le
  have s2 := h.cap
  have H := hid h
  have HF := hid hF
  have hEn : ∀ (args : Array Value) (w : World), (callFunc F args).run Tryz.prog w = .ok (.enter F args) w := hE
  clear h hF hE
  go_enter Tryz.func58, Tryz.ntmps58
  go_wp2_with (fail)
  go_loopw [8] (fun k wr => ∃ jj : Nat, k = .int .i64 jj ∧ jj ≤ l.length ∧ Below w.heap.size w wr) (fun k _ => l.length - (intOf k).toNat)
  case atStart => exact ⟨0, rfl, by omega, Below.refl _ _⟩
  case round =>
    obtain ⟨jj, rfl, hjj, hbel⟩ := hrel
    have BW := hid hbel
    clear hbel
    by_cases hlt : jj < l.length
    · obtain ⟨b, o, rfl, hc⟩ := (H.out.kept BW.out).at_ jj hlt
      have HC := hid hc
      clear hc
      go_wp2_with (first
        | (refine wpList_load26 rfl (.tmp 14) rfl b (o + jj * 6) rfl (cs jj) HC.out ?_)
        | (refine (HF.out jj hlt _ BW.out).mono ?_; rintro e w2 ⟨rfl, hb2⟩; have HB := hid hb2; clear hb2))
      go_roundw
      case rel => exact ⟨jj + 1, by go_num, by omega, BW.out.trans (HB.out.mono BW.out.size)⟩
      case measure => simp [intOf]; omega
    · go_wp2_with (fail)
      go_ret
      exact ⟨rfl, BW.out⟩

set_option maxRecDepth 100000 in
theorem containsFunc_none {w : World} {la : Option Addr} {lc : Nat} {l : List V} {cs : Nat → Nat → Value} (F : Nat) (hE : Enters F) (h : Lst w la lc l cs) (hF : SaysNo F w l cs) :
    Calls Tryz.prog 47 #[.slice la l.length lc, .func (.func F) #[] #[]] w (BoolPost false w) := by
  have H := hid (indexFunc_none F hE h hF)
  clear h hF
  go_enter Tryz.func47, Tryz.ntmps47
  go_wp2_with (go_at_call 58; refine H.out.mono ?_; rintro e w2 ⟨rfl, hb2⟩; have HB := hid hb2; clear hb2)
  go_ret
  exact ⟨rfl, HB.out⟩

set_option maxRecDepth 100000 in
set_option maxHeartbeats 1000000 in
theorem big_any (n : Nat) : ∀ (t : V) (v : Value) (w : World), SizeOf.sizeOf t ≤ n → Rep w v t → Fine t → Calls Tryz.prog 29 #[v] w (BoolPost false w) := by
  induction n with
  | zero => intro t v w hn; cases t; simp at hn
  | succ n ih =>
    intro t v w hn hrep hf
    have hk6 : (t.k == 6) = false := by have := fine_kind hf; simp; omega
    have helem : ∀ j (hj : j < t.l.length), Fine t.l[j] := fun j hj => by
      exact fine_elem hf j hj
    obtain ⟨la, ka, lc, kc, cs, ho⟩ := hrep.open_
    obtain rfl := ho.eq
    have hb0 := (Below.refl w.heap.size w).alloc (Nat.le_refl _) (.cells #[Value.int .i64 t.k, .int .i64 t.n, .float .f64 t.f, .string t.s, .slice la t.l.length lc, .slice ka t.keys.length kc] 26)
    have hL := (ho.kept hb0).toLst
    have hN : Hid (SaysNo 29 (w.alloc (.cells #[Value.int .i64 t.k, .int .i64 t.n, .float .f64 t.f, .string t.s, .slice la t.l.length lc, .slice ka t.keys.length kc] 26)) t.l cs) := hid fun j hj w' hb =>
      ih t.l[j] _ w' (by have := V.l_lt (t := t) (List.getElem_mem hj); omega) ((hL.rep j hj).kept hb) (helem j hj)
    have HL := hid hL
    have HB0 := hid hb0
    clear hL hb0 ho hrep helem hf
    go_enter Tryz.func29, Tryz.ntmps29
    go_wp2_with (go_at_call 47; refine (containsFunc_none 29 enters22 HL.out hN.out).mono ?_; rintro e w2 ⟨rfl, hb2⟩; have HB := hid hb2; clear hb2)
    go_ret
    exact ⟨rfl, HB0.out.trans (HB.out.mono HB0.out.size)⟩
end Go.Proofs.YtclnpjelgdoloaaGreat
