/- impl.simple, impl.AsFloat, impl.AsInt at seven, laws.becomes. laws.deep returns, at a tree of bounded weight. laws.given, impl.AsFloat, laws.becomes. -/
import Derived.Test.YtonnmongipaheaaGreatDoorFlt
import Derived.Test.YtonnmongipaheaaGreatDoorTexts
import Derived.Test.YtonnmongipaheaaGreatDoorPlainObj
import Derived.Test.YtonnmongipaheaaGreatDoorRight2
import Derived.Test.YtonnmongipaheaaGreatDoorLight
import Derived.Test.YtonnmongipaheaaGreatDoorWeight
import Derived.Deep.LoopGhost
namespace Go.Proofs.YtonnmongipaheaaGreatDoor
open Go.RowKit
set_option linter.unusedVariables false
set_option linter.unusedSimpArgs false

theorem box_block2 {w w1 : World} {X : Array Value} (hbel : Below (w.alloc (.cells X 26)).heap.size (w.alloc (.cells X 26)) w1) : w1.heap[w.heap.size]? = some (.cells X 26) := by
  rw [hbel.block _ (by simp)]
  exact heap_alloc_new w _

set_option maxRecDepth 100000 in
set_option maxHeartbeats 1000000 in
theorem simple_any (t : V) (v : Value) (w : World) (n : Nat) (hn : n ≤ 2) (hrep : Rep w v t) (hf : Fine t) : Calls Tryz.prog 16 #[v, .int .i64 (n : Int)] w (BoolPost true w) := by
  obtain ⟨la, ka, lc, kc, cs, ho⟩ := hrep.open_
  obtain rfl := ho.eq
  obtain ⟨X, hX⟩ : ∃ X, X = #[Value.int .i64 t.k, .int .i64 t.n, .float .f64 t.f, .string t.s, .slice la t.l.length lc, .slice ka t.keys.length kc] := ⟨_, rfl⟩
  have hXs : Hid (X.size = 6) := hid (by rw [hX]; rfl)
  rw [← hX] at hrep ⊢
  have HR := hid hrep
  have HF := hid hf
  clear hrep ho hX hf
  have hn2 : decide ((n : Int) ≤ 2) = true := by simp; omega
  have R0 : Hid (Rep (w.alloc (.cells X 26)) (.agg X) t) := hid (HR.out.kept ((Below.refl _ w).alloc (Nat.le_refl _) _))
  have G0 : Hid ((w.alloc (.cells X 26)).heap[w.heap.size]? = some (.cells X 26)) := hid (heap_alloc_new w _)
  have B0 : Hid (Below (w.heap.size + 1) (w.alloc (.cells X 26)) (w.alloc (.cells X 26))) := hid (Below.refl _ _)
  go_enter Tryz.func16, Tryz.ntmps16
  go_wp2_with (first
    | (refine wpList_loadBox rfl (.tmp 2) rfl w.heap.size rfl X hXs.out (by first | exact G0.out | exact box_block B1.out) ?_)
    | (go_at_call 27; refine (isRight_any _ t _ _ (Nat.le_refl _) R0.out HF.out).mono ?_; rintro e w1 ⟨rfl, hb⟩; have B1 := hid (box_trans B0.out hb); have R1 := hid (R0.out.kept hb); clear hb)
    | (go_at_call 28; refine (big_any _ t _ _ (Nat.le_refl _) R1.out HF.out).mono ?_; rintro e w2 ⟨rfl, hb⟩; have B2 := hid (box_trans B1.out hb); clear hb))
  go_ret
  exact ⟨rfl, box_below B2.out⟩

theorem psep_forms {w : World} {lo hi : Nat} {x : Value} {t : V} (h : PSep w lo hi x t) : (t.k = 1 ∧ x = .nilIface) ∨ (t.k = 2 ∧ ∃ b, x = .iface 4 (.bool b)) ∨ (t.k = 3 ∧ x = .iface 2 (.int .i64 t.n)) ∨ (t.k = 4 ∧ x = .iface 22 (.float .f64 t.f)) ∨ (t.k = 5 ∧ x = .iface 9 (.string t.s)) ∨ (t.k = 7 ∧ ∃ v, x = .iface 63 v) ∨ (t.k = 8 ∧ ∃ v, x = .iface 64 v) := by
  cases h with
  | null lo hi t hk => exact .inl ⟨hk, rfl⟩
  | bool lo hi t hk => exact .inr (.inl ⟨hk, _, rfl⟩)
  | int lo hi t hk => exact .inr (.inr (.inl ⟨hk, rfl⟩))
  | flo lo hi t hk => exact .inr (.inr (.inr (.inl ⟨hk, rfl⟩)))
  | str lo hi t hk => exact .inr (.inr (.inr (.inr (.inl ⟨hk, rfl⟩))))
  | arr lo hi t hk => exact .inr (.inr (.inr (.inr (.inr (.inl ⟨hk, _, rfl⟩)))))
  | obj lo hi t hk => exact .inr (.inr (.inr (.inr (.inr (.inr ⟨hk, _, rfl⟩)))))

/-- A row of at most two floats. -/
inductive Dfs (w : World) : Value → Nat → Nat → Nat → Prop
  | nought (ad : Option Addr) (c : Nat) (hc : c ≤ 9223372036854775807) : Dfs w (.slice ad 0 c) 0 0 0
  | one (g o c x0 : Nat) (hc : c ≤ 9223372036854775807) (h1 : 1 ≤ c) (hx : w.cell? ⟨g, o, none⟩ = some (.float .f64 x0)) : Dfs w (.slice (some ⟨g, o, none⟩) 1 c) 1 x0 0
  | two (g o c x0 x1 : Nat) (hc : c ≤ 9223372036854775807) (h1 : 2 ≤ c) (hx : w.cell? ⟨g, o, none⟩ = some (.float .f64 x0)) (hy : w.cell? ⟨g, o + 1, none⟩ = some (.float .f64 x1)) : Dfs w (.slice (some ⟨g, o, none⟩) 2 c) 2 x0 x1

theorem Dfs.kept {w w' : World} {d : Value} {n x0 x1 : Nat} (h : Dfs w d n x0 x1) (hb : Below w.heap.size w w') : Dfs w' d n x0 x1 := by
  have keep : ∀ {a : Addr} {u : Value}, w.cell? a = some u → w'.cell? a = some u := fun h => (hb.cell (World.block_lt_of_cell? w _ h)).trans h
  cases h with
  | nought ad c hc => exact .nought ad c hc
  | one g o c x0 hc h1 hx => exact .one g o c x0 hc h1 (keep hx)
  | two g o c x0 x1 hc h1 hx hy => exact .two g o c x0 x1 hc h1 (keep hx) (keep hy)

theorem NumS.uniq {s : ByteArray} {a b : Bool} {j L j' L' : Nat} (h : NumS s a j L) (h' : NumS s b j' L') : a = b ∧ j = j' ∧ L = L' := by
  have e1 := h.jn
  have e2 := h'.jn
  have e3 := h.size
  have e4 := h'.size
  cases a <;> cases b <;> simp at e1 e2
  · exact ⟨rfl, by omega, by omega⟩
  · have := h.dig 0 h.lo
    rw [e1] at this
    have h2 := h'.sign rfl
    simp at this
    omega
  · have := h'.dig 0 h'.lo
    rw [e2] at this
    have h2 := h.sign rfl
    simp at this
    omega
  · exact ⟨rfl, by omega, by omega⟩

theorem NumS.not_noDig {s : ByteArray} {a : Bool} {j L : Nat} (h : NumS s a j L) (h' : NoDig s) : False := by
  have h1 := h.dig 0 h.lo
  have h2 := h' (j + 0) (by have := h.size; have := h.lo; omega)
  omega

/-- What AsFloat answers. -/
def AnsF (t : V) (n x0 x1 f : Nat) : Prop :=
  (t.k = 4 → f = t.f) ∧ (t.k ≠ 4 → n = 2 → f = x1) ∧ (t.k = 3 → n ≠ 2 → f = floatOfInt .f64 t.n) ∧
  (t.k = 5 → n ≠ 2 → (∀ ng j L, NumS t.s ng j L → f = floatOfInt .f64 (numI t.s ng j L)) ∧ (NoDig t.s → f = if n = 1 then x0 else 0)) ∧
  (t.k ≠ 3 → t.k ≠ 4 → t.k ≠ 5 → n ≠ 2 → f = if n = 1 then x0 else 0)

def FloatPost (t : V) (n x0 x1 : Nat) (w : World) (e : Ending) (w' : World) : Prop := ∃ f, e = .returned (.float .f64 f) ∧ AnsF t n x0 x1 f ∧ Below w.heap.size w w'

theorem ans_of {t : V} {n x0 x1 f : Nat} {w : World} {P : World → Ending → World → Prop} (h4 : t.k ≠ 4) (h5 : t.k = 5 → n = 2) (h2 : n = 2 → f = x1) (h3 : t.k = 3 → n ≠ 2 → f = floatOfInt .f64 t.n) (h0 : t.k ≠ 3 → n ≠ 2 → f = if n = 1 then x0 else 0) : AnsF t n x0 x1 f :=
  ⟨fun h => absurd h h4, fun _ => h2, h3, fun h hn => absurd (h5 h) hn, fun h _ _ hn => h0 h hn⟩

theorem fis_post {t : V} {n x0 x1 f : Nat} {w : World} {x d : Value} (h : Calls Tryz.prog 17 #[x, d] w (FIs f w)) (ha : AnsF t n x0 x1 f) : Calls Tryz.prog 17 #[x, d] w (FloatPost t n x0 x1 w) :=
  h.mono fun e w' h => by obtain ⟨rfl, rfl⟩ := h; exact ⟨_, rfl, ha, Below.refl _ _⟩

/-- The parse of a text, told once and for all. -/
theorem parse_told (B : Nat) (w : World) (s : ByteArray) (hT : Tab B w) (hB : B ≤ w.heap.size) (hE : ErrTab w) (hs : s.size ≤ 100000) :
    ∃ R, Told R w ∧ Calls Tryz.prog 29 #[.string s, .int .i64 64] w (Two R) ∧ (∀ f e w', R f e w' → (∀ ng j L, NumS s ng j L → f = floatOfInt .f64 (numI s ng j L) ∧ e = .nilIface) ∧ (NoDig s → f = 0 ∧ e ≠ .nilIface)) := by
  by_cases h1 : ∃ ng j L, NumS s ng j L
  · obtain ⟨ng, j, L, h⟩ := h1
    refine ⟨_, ?_, parse_num B w s ng j L hT hE h, ?_⟩
    · rintro f e w' ⟨rfl, rfl, rfl⟩
      exact ⟨.inl rfl, Below.refl _ _⟩
    · rintro f e w' ⟨rfl, rfl, rfl⟩
      refine ⟨fun ng' j' L' h' => ?_, fun hd => absurd hd fun hd => h.not_noDig hd⟩
      obtain ⟨rfl, rfl, rfl⟩ := h.uniq h'
      exact ⟨rfl, rfl⟩
  · by_cases h2 : NoDig s
    · refine ⟨_, ?_, parse_none w s hE hs h2, ?_⟩
      · rintro f e w' ⟨rfl, h, hb⟩
        exact ⟨.inr h, hb⟩
      · rintro f e w' ⟨rfl, ⟨N, rfl⟩, hb⟩
        exact ⟨fun ng j L h => absurd ⟨ng, j, L, h⟩ h1, fun _ => ⟨rfl, by intro h; cases h⟩⟩
    · refine ⟨_, ?_, parse_any B w s hT hB hE hs, ?_⟩
      · rintro f e w' ⟨h, hb⟩
        exact ⟨h, hb⟩
      · intro f e w' _
        exact ⟨fun ng j L h => absurd ⟨ng, j, L, h⟩ h1, fun h => absurd h h2⟩

theorem float_any (B : Nat) {w : World} {t : V} {x d : Value} {lo hi n x0 x1 : Nat} (hT : Tab B w) (hB : B ≤ w.heap.size) (hE : ErrTab w) (hs : t.s.size ≤ 100000) (hp : PSep w lo hi x t) (hd : Dfs w d n x0 x1) :
    Calls Tryz.prog 17 #[x, d] w (FloatPost t n x0 x1 w) := by
  rcases psep_forms hp with ⟨hk, rfl⟩ | ⟨hk, b, rfl⟩ | ⟨hk, rfl⟩ | ⟨hk, rfl⟩ | ⟨hk, rfl⟩ | ⟨hk, v, rfl⟩ | ⟨hk, v, rfl⟩
  · cases hd with
    | nought ad c hc => exact fis_post (float_n0 ad c w hc) (ans_of (P := fun _ _ _ => True) (w := w) (by omega) (by omega) (by omega) (by omega) (fun _ _ => rfl))
    | one g o c x0 hc h1 hx => exact fis_post (float_n1 g o c x0 w hc h1 hx) (ans_of (P := fun _ _ _ => True) (w := w) (by omega) (by omega) (by omega) (by omega) (fun _ _ => rfl))
    | two g o c x0 x1 hc h1 hx hy => exact fis_post (float_two_n g o c x1 w hc h1 hy) (ans_of (P := fun _ _ _ => True) (w := w) (by omega) (by omega) (fun _ => rfl) (by omega) (by omega))
  · cases hd with
    | nought ad c hc => exact fis_post (float_b0 b ad c w hc) (ans_of (P := fun _ _ _ => True) (w := w) (by omega) (by omega) (by omega) (by omega) (fun _ _ => rfl))
    | one g o c x0 hc h1 hx => exact fis_post (float_b1 b g o c x0 w hc h1 hx) (ans_of (P := fun _ _ _ => True) (w := w) (by omega) (by omega) (by omega) (by omega) (fun _ _ => rfl))
    | two g o c x0 x1 hc h1 hx hy => exact fis_post (float_two_b b g o c x1 w hc h1 hy) (ans_of (P := fun _ _ _ => True) (w := w) (by omega) (by omega) (fun _ => rfl) (by omega) (by omega))
  · cases hd with
    | nought ad c hc => exact fis_post (float_int0 _ ad c w hc) (ans_of (P := fun _ _ _ => True) (w := w) (by omega) (by omega) (by omega) (fun _ _ => rfl) (by omega))
    | one g o c x0 hc h1 hx => exact fis_post (float_int1 _ g o c x0 w hc h1 hx) (ans_of (P := fun _ _ _ => True) (w := w) (by omega) (by omega) (by omega) (fun _ _ => rfl) (by omega))
    | two g o c x0 x1 hc h1 hx hy => exact fis_post (float_two_i _ g o c x1 w hc h1 hy) (ans_of (P := fun _ _ _ => True) (w := w) (by omega) (by omega) (fun _ => rfl) (by omega) (by omega))
  · exact fis_post (float_flo t.f d w) ⟨fun _ => rfl, fun h => absurd hk h, by omega, by omega, by omega⟩
  · obtain ⟨R, hR, hC, hN⟩ := parse_told B w t.s hT hB hE hs
    cases hd with
    | nought ad c hc =>
      refine (float_str0 t.s ad c w hc R hR hC).mono ?_
      rintro e w' ⟨f, er, hr, h⟩
      have hb := (hR _ _ _ hr).2
      obtain ⟨n1, n2⟩ := hN _ _ _ hr
      rcases h with ⟨h, rfl⟩ | ⟨h, rfl⟩
      · exact ⟨_, rfl, ⟨by omega, by omega, by omega, fun _ _ => ⟨fun ng j L hh => (n1 ng j L hh).1, fun hh => absurd h (n2 hh).2⟩, by omega⟩, hb⟩
      · exact ⟨_, rfl, ⟨by omega, by omega, by omega, fun _ _ => ⟨fun ng j L hh => (n1 ng j L hh).1, fun hh => (n2 hh).1⟩, by omega⟩, hb⟩
    | one g o c x0 hc h1 hx =>
      refine (float_str1 t.s g o c x0 w hc h1 hx R hR hC).mono ?_
      rintro e w' ⟨f, er, hr, h⟩
      have hb := (hR _ _ _ hr).2
      obtain ⟨n1, n2⟩ := hN _ _ _ hr
      rcases h with ⟨h, rfl⟩ | ⟨h, rfl⟩
      · exact ⟨_, rfl, ⟨by omega, by omega, by omega, fun _ _ => ⟨fun ng j L hh => (n1 ng j L hh).1, fun hh => absurd h (n2 hh).2⟩, by omega⟩, hb⟩
      · exact ⟨_, rfl, ⟨by omega, by omega, by omega, fun _ _ => ⟨fun ng j L hh => absurd (n1 ng j L hh).2 h, fun hh => rfl⟩, by omega⟩, hb⟩
    | two g o c x0 x1 hc h1 hx hy => exact fis_post (float_two_s t.s g o c x1 w hc h1 hy) (ans_of (P := fun _ _ _ => True) (w := w) (by omega) (fun _ => rfl) (fun _ => rfl) (by omega) (by omega))
  · cases hd with
    | nought ad c hc => exact fis_post (float_a0 v ad c w hc) (ans_of (P := fun _ _ _ => True) (w := w) (by omega) (by omega) (by omega) (by omega) (fun _ _ => rfl))
    | one g o c x0 hc h1 hx => exact fis_post (float_a1 v g o c x0 w hc h1 hx) (ans_of (P := fun _ _ _ => True) (w := w) (by omega) (by omega) (by omega) (by omega) (fun _ _ => rfl))
    | two g o c x0 x1 hc h1 hx hy => exact fis_post (float_two_a v g o c x1 w hc h1 hy) (ans_of (P := fun _ _ _ => True) (w := w) (by omega) (by omega) (fun _ => rfl) (by omega) (by omega))
  · cases hd with
    | nought ad c hc => exact fis_post (float_o0 v ad c w hc) (ans_of (P := fun _ _ _ => True) (w := w) (by omega) (by omega) (by omega) (by omega) (fun _ _ => rfl))
    | one g o c x0 hc h1 hx => exact fis_post (float_o1 v g o c x0 w hc h1 hx) (ans_of (P := fun _ _ _ => True) (w := w) (by omega) (by omega) (by omega) (by omega) (fun _ _ => rfl))
    | two g o c x0 x1 hc h1 hx hy => exact fis_post (float_two_o v g o c x1 w hc h1 hy) (ans_of (P := fun _ _ _ => True) (w := w) (by omega) (by omega) (fun _ => rfl) (by omega) (by omega))
end Go.Proofs.YtonnmongipaheaaGreatDoor

namespace Go.Proofs.YtonnmongipaheaaGreatDoor
open Go.RowKit
set_option linter.unusedVariables false
set_option linter.unusedSimpArgs false

theorem deep_wt {t : V} {j : Nat} (hj : j < t.l.length) : (t.l[j]).wt + 1 ≤ t.wt := by
  have h : ∀ (l : List V) (j : Nat) (hj : j < l.length), (l[j]).wt ≤ V.wtl l := by
    intro l
    induction l with
    | nil => intro j hj; simp at hj
    | cons a l ih =>
      intro j hj
      cases j with
      | zero => simp [V.wtl]
      | succ j =>
        have := ih j (by simpa using hj)
        simp [V.wtl]
        omega
  have := h t.l j hj
  rw [V.wt_eq t]
  omega

def DeepPost (t : V) (w : World) (e : Ending) (w' : World) : Prop := ∃ r : Nat, e = .returned (.int .i64 (r : Int)) ∧ r ≤ t.wt ∧ Below w.heap.size w w'

set_option maxRecDepth 100000 in
set_option maxHeartbeats 1000000 in
theorem deep_any (n : Nat) : ∀ (t : V) (v : Value) (w : World), SizeOf.sizeOf t ≤ n → Rep w v t → t.wt ≤ 300 → Calls Tryz.prog 14 #[v] w (DeepPost t w) := by
  induction n with
  | zero => intro t v w hn; cases t; simp at hn
  | succ n ih =>
    intro t v w hn hrep hwt
    obtain ⟨la, ka, lc, kc, cs, ho⟩ := hrep.open_
    obtain rfl := ho.eq
    have s4 := ho.hl
    have s5 := ho.hlc
    have HO := hid ho
    clear ho hrep
    go_enter Tryz.func14, Tryz.ntmps14
    go_wp2_with (fail)
    go_loopw [3, 4] (fun l k wr => ∃ (jj : Nat) (R : Nat), k = .int .i64 jj ∧ l = .int .i64 (R : Int) ∧ jj ≤ t.l.length ∧ R ≤ 300 ∧ Hid (R + 1 ≤ t.wt) ∧
        Below (w.heap.size + 1) (w.alloc (.cells #[.int .i64 t.k, .int .i64 t.n, .float .f64 t.f, .string t.s, .slice la t.l.length lc, .slice ka t.keys.length kc] 26)) wr)
      (fun _ k _ => t.l.length - (intOf k).toNat)
    case atStart => exact ⟨0, 0, rfl, rfl, by omega, by omega, hid (by rw [V.wt_eq t]; omega), Below.refl _ _⟩
    case round =>
      obtain ⟨jj, R, rfl, rfl, hjj, hR1, hR, hbel⟩ := hrel
      have cL : wr.cell? ⟨w.heap.size, 4, none⟩ = some (.slice la t.l.length lc) := box_cell hbel 4 _ rfl
      have cK : wr.cell? ⟨w.heap.size, 0, none⟩ = some (.int .i64 t.k) := box_cell hbel 0 _ rfl
      have BW : Hid (Below w.heap.size w wr) := hid (box_below hbel)
      have BE := hid hbel
      clear hbel
      by_cases hlt : jj < t.l.length
      · obtain ⟨b, o, rfl, hc⟩ := (HO.out.kept BW.out).hla jj hlt
        have HC := hid hc
        clear hc
        have hrp := hid ((HO.out.kept BW.out).hr jj hlt)
        have hwe := deep_wt hlt
        go_wp2_with (first
          | (refine wpList_load26 rfl (.tmp 16) rfl b (o + jj * 6) rfl (cs jj) HC.out ?_)
          | (go_at_call 14; refine (ih t.l[jj] _ wr (by have := V.l_lt (t := t) (List.getElem_mem hlt); omega) hrp.out (by omega)).mono ?_; rintro e w2 ⟨r, rfl, hr1, hb2⟩; have HB := hid hb2; have hr3 : r ≤ 1000 := (by omega); have HRR : Hid ((if R < r then r else R) ≤ 300 ∧ (if R < r then r else R) + 1 ≤ t.wt) := hid (by have := hR.out; split <;> omega); clear hr1 hb2 hwe))
        go_roundw
        case rel =>
          refine ⟨jj + 1, (if R < r then r else R), by go_num, (by congr 1; split <;> first | rfl | omega), by omega, HRR.out.1, hid HRR.out.2, BE.out.trans (HB.out.mono (by have := BE.out.size; simpa using this))⟩
        case measure => simp [intOf]; omega
      · have hks : ((t.k == 7) = true) ∨ ((t.k == 7) = false ∧ (t.k == 8) = true) ∨ ((t.k == 7) = false ∧ (t.k == 8) = false) := by
          cases (t.k == 7) <;> cases (t.k == 8) <;> simp
        rcases hks with h7 | ⟨h7, h8⟩ | ⟨h7, h8⟩
        · go_wp2_with (fail)
          go_ret
          exact ⟨R + 1, by first | rfl | (congr 1), hR.out, BW.out⟩
        · go_wp2_with (fail)
          go_ret
          exact ⟨R + 1, by first | rfl | (congr 1), hR.out, BW.out⟩
        · go_wp2_with (fail)
          go_ret
          exact ⟨R, rfl, by have := hR.out; omega, BW.out⟩
end Go.Proofs.YtonnmongipaheaaGreatDoor

namespace Go.Proofs.YtonnmongipaheaaGreatDoor
open Go.RowKit
set_option linter.unusedVariables false
set_option linter.unusedSimpArgs false

set_option maxRecDepth 100000 in
set_option maxHeartbeats 1000000 in
theorem given_any (t : V) (v : Value) (w : World) (hrep : Rep w v t) : Calls Tryz.prog 5 #[v] w (SaysPost (Light t) w) := by
  obtain ⟨la, ka, lc, kc, cs, ho⟩ := hrep.open_
  obtain rfl := ho.eq
  obtain ⟨X, hX⟩ : ∃ X, X = #[Value.int .i64 t.k, .int .i64 t.n, .float .f64 t.f, .string t.s, .slice la t.l.length lc, .slice ka t.keys.length kc] := ⟨_, rfl⟩
  have hXs : Hid (X.size = 6) := hid (by rw [hX]; rfl)
  rw [← hX] at hrep ⊢
  have HR := hid hrep
  clear hrep ho hX
  have R0 : Hid (Rep (w.alloc (.cells X 26)) (.agg X) t) := hid (HR.out.kept ((Below.refl _ w).alloc (Nat.le_refl _) _))
  have G0 : Hid ((w.alloc (.cells X 26)).heap[w.heap.size]? = some (.cells X 26)) := hid (heap_alloc_new w _)
  have B0 : Hid (Below (w.heap.size + 1) (w.alloc (.cells X 26)) (w.alloc (.cells X 26))) := hid (Below.refl _ _)
  go_enter Tryz.func5, Tryz.ntmps5
  go_wp2_with (first
    | (refine wpList_loadBox rfl (.tmp 1) rfl w.heap.size rfl X hXs.out (by first | exact G0.out | exact box_block B1.out | exact box_block B2.out | exact box_block B3.out) ?_)
    | (go_at_call 13; refine (light_any t _ _ R0.out).mono ?_; rintro e w1 ⟨b, rfl, hb0, hb⟩; have B1 := hid (box_trans B0.out hb); have R1 := hid (R0.out.kept hb); have H1 := hid hb0; clear hb0 hb; cases b)
    | (go_at_call 14; refine (deep_any _ t _ _ (Nat.le_refl _) R1.out (H1.out rfl).wt).mono ?_; rintro e w2 ⟨r, rfl, hr1, hb⟩; have B2 := hid (box_trans B1.out hb); have R2 := hid (R1.out.kept hb); clear hr1 hb; by_cases hr60 : decide ((r : Int) ≤ 60) = true)
    | (go_at_call 15; refine (clean_any _ t _ _ (Nat.le_refl _) R2.out).mono ?_; rintro e w3 ⟨r3, rfl, hr3, hb⟩; have B3 := hid (box_trans B2.out hb); clear hr3 hb))
  all_goals go_ret
  all_goals first
    | exact ⟨false, rfl, (fun h => by cases h), box_below B1.out⟩
    | exact ⟨false, rfl, (fun h => by cases h), box_below B2.out⟩
    | exact ⟨_, rfl, (fun _ => H1.out rfl), box_below B3.out⟩
    | exact ⟨_, rfl, (fun _ => H1.out rfl), box_below B2.out⟩

def AsFloatPost (t : V) (n x0 x1 : Nat) (w : World) (e : Ending) (w' : World) : Prop := ∃ f, e = .returned (.tuple #[.float .f64 f, .bool false]) ∧ AnsF t n x0 x1 f ∧ Below w.heap.size w w'

theorem Dfs.open_ {w : World} {d : Value} {n x0 x1 : Nat} (h : Dfs w d n x0 x1) : n ≤ 2 ∧ ∃ ad c, d = .slice ad n c := by
  cases h with
  | nought ad c hc => exact ⟨by omega, _, _, rfl⟩
  | one g o c x0 hc h1 hx => exact ⟨by omega, _, _, rfl⟩
  | two g o c x0 x1 hc h1 hx hy => exact ⟨by omega, _, _, rfl⟩

set_option maxRecDepth 100000 in
set_option maxHeartbeats 1000000 in
theorem asFloat_any (B : Nat) (t : V) (v d : Value) (w : World) (n x0 x1 : Nat) (hrep : Rep w v t) (hl : Light t) (hd : Dfs w d n x0 x1) (hT : Tab B w) (hB : B ≤ w.heap.size) (hE : ErrTab w) : Calls Tryz.prog 7 #[v, d] w (AsFloatPost t n x0 x1 w) := by
  obtain ⟨la, ka, lc, kc, cs, ho⟩ := hrep.open_
  obtain rfl := ho.eq
  obtain ⟨hn2, ad, c, rfl⟩ := hd.open_
  obtain ⟨X, hX⟩ : ∃ X, X = #[Value.int .i64 t.k, .int .i64 t.n, .float .f64 t.f, .string t.s, .slice la t.l.length lc, .slice ka t.keys.length kc] := ⟨_, rfl⟩
  have hXs : Hid (X.size = 6) := hid (by rw [hX]; rfl)
  rw [← hX] at hrep ⊢
  have HR := hid hrep
  have HF : Hid (Fine t) := hid (lite_fine _ t (Nat.le_refl _) hl)
  have HS : Hid (t.s.size ≤ 100000) := hid (by have := hl.wt; rw [V.wt_eq t] at this; omega)
  have HD := hid hd
  have HT := hid hT
  have HB := hid hB
  have HE := hid hE
  have HN := hid hn2
  clear hrep ho hX hl hd hT hB hE hn2
  have R0 : Hid (Rep (w.alloc (.cells X 26)) (.agg X) t) := hid (HR.out.kept ((Below.refl _ w).alloc (Nat.le_refl _) _))
  have G0 : Hid ((w.alloc (.cells X 26)).heap[w.heap.size]? = some (.cells X 26)) := hid (heap_alloc_new w _)
  have B0 : Hid (Below (w.heap.size + 1) (w.alloc (.cells X 26)) (w.alloc (.cells X 26))) := hid (Below.refl _ _)
  go_enter Tryz.func7, Tryz.ntmps7
  go_wp2_with (first
    | (refine wpList_loadBox rfl (.tmp 2) rfl w.heap.size rfl X hXs.out (by first | exact G0.out | exact box_block B1.out) ?_)
    | (go_at_call 16; refine (simple_any t _ _ n HN.out R0.out HF.out).mono ?_; rintro e w1 ⟨rfl, hb⟩; have B1 := hid (box_trans B0.out hb); have R1 := hid (R0.out.kept hb); clear hb)
    | (go_at_call 18; refine (plain_any _ t _ _ (Nat.le_refl _) R1.out HF.out).mono ?_; rintro e w2 ⟨x, rfl, hp, hb⟩; have B2 := hid (box_trans B1.out hb); have HP := hid hp; clear hp hb)
    | (go_at_call 17; refine (float_any B (HT.out.below ((box_below B2.out).mono HB.out)) (by have := (box_below B2.out).size; have := HB.out; omega) (HE.out.below (box_below B2.out)) HS.out HP.out (HD.out.kept (box_below B2.out))).mono ?_; rintro e w3 ⟨f, rfl, ha, hb⟩; have B3 := hid (box_trans B2.out hb); have HA := hid ha; clear ha hb))
  go_ret2
  exact ⟨_, rfl, HA.out, box_below B3.out⟩

def seven : Value := .agg #[.int .i64 3, .int .i64 7, .float .f64 0, .string ByteArray.empty, .slice none 0 0, .slice none 0 0]

set_option maxRecDepth 100000 in
set_option maxHeartbeats 1000000 in
theorem int_seven (w : World) : Calls Tryz.prog 22 #[.int .i64 7] w (fun e w' => e = .returned seven ∧ Below w.heap.size w w') := by
  go_enter Tryz.func22, Tryz.ntmps22
  go_wp2_with (refine wpList_store26 rfl rfl (.tmp 2) (.tmp 4) rfl w.heap.size #[.int .i64 3, .int .i64 7, .float .f64 0, .string ByteArray.empty, .slice none 0 0, .slice none 0 0] rfl rfl rfl (by simp [Value.oneCell']) _ rfl (heap_alloc_new w _) ?_; intro w2 hg2 hb2 hz2; have G2 := hid hg2; have B2 : Hid (Below w.heap.size w w2) := hid (((Below.refl _ w).alloc (Nat.le_refl _) _).trans hb2); clear hg2 hb2 hz2)
  have hc := fun i => cell_of_row _ w.heap.size i _ 26 (0, 0) G2.out
  have c0 := (hc 0).trans rfl
  have c1 := (hc 1).trans rfl
  have c2 := (hc 2).trans rfl
  have c3 := (hc 3).trans rfl
  have c4 := (hc 4).trans rfl
  have c5 := (hc 5).trans rfl
  clear hc
  refine bodyPost_ret (v := seven) (by simp [results, Tryz.results22, go_sem, c0, c1, c2, c3, c4, c5, seven]) rfl ⟨rfl, B2.out⟩

def sevenT : V := .mk 3 7 0 ByteArray.empty [] []
theorem rep_seven (w : World) : Rep w seven sevenT :=
  Rep.mk 3 7 0 ByteArray.empty [] [] none none 0 0 (fun _ _ => .nilIface) (by unfold isI64; omega) (by unfold isI64; omega) (by decide) (by decide) (by decide) (by decide) (by decide) (fun j hj => absurd hj (by simp)) (fun j hj => absurd hj (by simp)) (fun j hj => absurd hj (by simp))

set_option maxRecDepth 100000 in
set_option maxHeartbeats 2000000 in
theorem altInt_seven (w : World) : Calls Tryz.prog 30 #[.iface 2 (.int .i64 7), .slice none 0 0] w (fun e w' => e = .returned (.int .i64 7) ∧ w = w') := by
  have t2 := tai2 (.int .i64 7); unfold Ta at t2
  go_enter Tryz.func30, Tryz.ntmps30
  go_wp2_with (fail)
  go_ret
  exact ⟨rfl, rfl⟩

set_option maxRecDepth 100000 in
set_option maxHeartbeats 1000000 in
theorem asInt_seven (w : World) (hF : Fine sevenT) : Calls Tryz.prog 21 #[seven, .slice none 0 0] w (fun e w' => e = .returned (.tuple #[.int .i64 7, .bool false]) ∧ Below w.heap.size w w') := by
  obtain ⟨X, hX⟩ : ∃ X, X = #[Value.int .i64 3, .int .i64 7, .float .f64 0, .string ByteArray.empty, .slice none 0 0, .slice none 0 0] := ⟨_, rfl⟩
  have hXs : Hid (X.size = 6) := hid (by rw [hX]; rfl)
  have HR : Hid (Rep w (.agg X) sevenT) := hid (hX ▸ rep_seven w)
  have hv : seven = .agg X := by rw [hX]; rfl
  rw [hv]
  have HF := hid hF
  clear hX hv hF
  have R0 : Hid (Rep (w.alloc (.cells X 26)) (.agg X) sevenT) := hid (HR.out.kept ((Below.refl _ w).alloc (Nat.le_refl _) _))
  have G0 : Hid ((w.alloc (.cells X 26)).heap[w.heap.size]? = some (.cells X 26)) := hid (heap_alloc_new w _)
  have B0 : Hid (Below (w.heap.size + 1) (w.alloc (.cells X 26)) (w.alloc (.cells X 26))) := hid (Below.refl _ _)
  go_enter Tryz.func21, Tryz.ntmps21
  go_wp2_with (first
    | (refine wpList_loadBox rfl (.tmp 2) rfl w.heap.size rfl X hXs.out (by first | exact G0.out | exact box_block B1.out) ?_)
    | (go_at_call 16; refine (simple_any sevenT _ _ 0 (by omega) R0.out HF.out).mono ?_; rintro e w1 ⟨rfl, hb⟩; have B1 := hid (box_trans B0.out hb); have R1 := hid (R0.out.kept hb); clear hb))
  refine wp_loop_rounds 1 ?_
  rw [rounds_succ]
  go_wp2_with (first
    | (refine wpList_loadBox rfl (.tmp 2) rfl w.heap.size rfl X hXs.out (by first | exact G0.out | exact box_block B1.out) ?_)
    | (go_at_call 18; refine (plain_any _ sevenT _ _ (Nat.le_refl _) R1.out HF.out).mono ?_; rintro e w2 ⟨x, rfl, hp, hb⟩; have B2 := hid (box_trans B1.out hb); have hx : x = .iface 2 (.int .i64 7) := (by rcases psep_forms hp with ⟨hk, h⟩ | ⟨hk, h⟩ | ⟨hk, h⟩ | ⟨hk, h⟩ | ⟨hk, h⟩ | ⟨hk, h⟩ | ⟨hk, h⟩ <;> first | exact h | exact absurd hk (by decide)); subst hx; clear hp hb)
    | (go_at_call 30; refine (altInt_seven _).mono ?_; rintro e w3 ⟨rfl, rfl⟩))
  go_ret2
  exact ⟨rfl, box_below B2.out⟩

theorem fine_seven : Fine sevenT := by
  refine .mk _ (by simp [sevenT, V.k]) (fun h => by simp [sevenT, V.k] at h) (fun h => by simp [sevenT, V.k] at h) ⟨by simp [sevenT, V.l], by simp [sevenT, V.keys]⟩ (fun _ => rfl) (fun h => by simp [sevenT, V.k] at h) (fun x hx => by simp [sevenT, V.l] at hx)

set_option maxRecDepth 100000 in
set_option maxHeartbeats 1000000 in
theorem becomes_any (w : World) : Calls Tryz.prog 11 #[] w (BoolPost true w) := by
  have HF := hid fine_seven
  go_enter Tryz.func11, Tryz.ntmps11
  go_wp2_with (first
    | (go_at_call 22; refine (int_seven _).mono ?_; rintro e w1 ⟨rfl, hb⟩; have B1 := hid hb; clear hb)
    | (go_at_call 21; refine (asInt_seven _ HF.out).mono ?_; rintro e w2 ⟨rfl, hb⟩; have B2 := hid (B1.out.trans (hb.mono B1.out.size)); clear hb))
  go_ret
  exact ⟨rfl, B2.out⟩
end Go.Proofs.YtonnmongipaheaaGreatDoor
