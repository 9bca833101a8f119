/- An argument that can be read as data is a tree in memory. -/
import Derived.Test.YtonnmongipaheaaGreatDoorRep
import Derived.ChangeArms
import Derived.SizedLaws
import Derived.DataReads
namespace Go.Proofs.YtonnmongipaheaaGreatDoor
open Go.RowKit
set_option linter.unusedVariables false

section
variable {H : Type} {enc : TypeId × Value → H} {W : World}

theorem trod_float {P : Program} {base : Nat} {spare : Nat → Bool} {held : Bool} {fuel : Nat} {t : TypeId} {k : FloatKind} {cs : List Value} {x : DataW H × List MemPlace} (ht : P.underlying t = some (.float k)) (h : DataW.trod enc P W base spare held fuel t cs = some x) : ∃ b, cs = [.float k b] ∧ x = (.lit (.float k b), []) := by
  cases fuel with
  | zero => simp [DataW.trod] at h
  | succ n =>
    unfold DataW.trod at h
    rw [ht] at h
    split at h <;> simp_all

theorem cells26 : Tryz.prog.cellsOf 26 = 6 := by kernel_rfl
theorem cells3 : Tryz.prog.cellsOf 3 = 1 := by kernel_rfl
theorem cells22 : Tryz.prog.cellsOf 22 = 1 := by kernel_rfl
theorem cells9 : Tryz.prog.cellsOf 9 = 1 := by kernel_rfl
theorem cells23 : Tryz.prog.cellsOf 23 = 1 := by kernel_rfl
theorem cells24 : Tryz.prog.cellsOf 24 = 1 := by kernel_rfl
theorem bytes26 : Tryz.prog.bytesOf 26 = 88 := by kernel_rfl
theorem bytes9 : Tryz.prog.bytesOf 9 = 16 := by kernel_rfl

theorem weightsAll_at {P : Program} {e : TypeId} : ∀ (ds : List (DataW H)), (DataW.weightsAll P e ds).all (· ≤ reachBytes) = true → ∀ d ∈ ds, (d.weights P e).all (· ≤ reachBytes) = true
  | [], _, d, h => by simp at h
  | d0 :: ds, h, d, hd => by
    simp only [DataW.weightsAll, List.all_append, Bool.and_eq_true] at h
    rcases List.mem_cons.1 hd with rfl | hd
    · exact h.1
    · exact weightsAll_at ds h.2 d hd

theorem list6 {α : Type} {l : List α} (h : l.length = 6) : ∃ a b c d e f, l = [a, b, c, d, e, f] := by
  rcases l with _ | ⟨a, _ | ⟨b, _ | ⟨c, _ | ⟨d, _ | ⟨e, _ | ⟨f, _ | ⟨g, r⟩⟩⟩⟩⟩⟩⟩
  all_goals first
    | exact ⟨_, _, _, _, _, _, rfl⟩
    | simp at h

theorem spot_none {w : World} {a : Addr} {v : Value} (h : w.cell? a = some v) : a.spot = none := by
  unfold World.cell? at h
  split at h
  · split at h
    · cases h
    · rename_i hs
      rcases e : a.spot with _ | _
      · rfl
      · simp [e] at hs
  · cases h

theorem add_plain (b o n : Nat) : (⟨b, o, none⟩ : Addr).add n = ⟨b, o + n, none⟩ := by unfold Addr.add; split <;> simp_all

theorem wf_i64 {n : Int} (h : (Lit.int .i64 n).wf = true) : isI64 n := by
  unfold isI64
  have h1 : IntKind.i64.min ≤ n ∧ n ≤ IntKind.i64.max := by simpa [Lit.wf] using h
  have e1 : IntKind.i64.min = -9223372036854775808 := by decide
  have e2 : IntKind.i64.max = 9223372036854775807 := by decide
  omega

theorem plain_of {a : Addr} {k : Nat} {cs : List Value} (h : W.cells? 0 (a.add 0) k = some cs) (hk : 0 < k) : ∃ b o, a = ⟨b, o, none⟩ := by
  obtain ⟨_, hl, hc⟩ := World.cells?_some h
  have h0 := hc 0 hk
  have e : (a.add 0).add 0 = a := by simp [Addr.add]
  rw [e, List.getElem?_eq_getElem (by omega)] at h0
  have hs := spot_none h0
  obtain ⟨b, o, sp⟩ := a
  exact ⟨b, o, by simp at hs; rw [hs]⟩

def strAt (w : World) (a : Addr) : ByteArray :=
  match w.cell? a with
  | some (.string s) => s
  | _ => ByteArray.empty

theorem keys_of {fuel : Nat} {c : Value} {y : DataW H × List MemPlace} (h : DataW.trod enc Tryz.prog W 0 (fun _ => true) true fuel 24 [c] = some y) (hw : (y.1.weights Tryz.prog 24).all (· ≤ reachBytes) = true) :
    ∃ (ka : Option Addr) (keys : List ByteArray) (kc : Nat), c = .slice ka keys.length kc ∧ keys.length ≤ kc ∧ kc ≤ 140737488351232 ∧ ∀ j (hj : j < keys.length), keys[j].size ≤ 140737488351232 ∧ ∃ b o, ka = some ⟨b, o, none⟩ ∧ W.cell? ⟨b, o + j, none⟩ = some (.string keys[j]) := by
  rcases DataW.trod_slice Tryz.underlying24 h with ⟨h1, _⟩ | ⟨a, len, cap, elems, rest, n, _, h1, rfl, _, hlc, hcm, hel, hat, hsp, _⟩
  · simp only [List.cons.injEq, and_true] at h1
    exact ⟨none, [], 0, h1, Nat.le_refl _, by omega, fun j hj => absurd hj (by simp)⟩
  · simp only [List.cons.injEq, and_true] at h1
    subst h1
    obtain ⟨hrl, _⟩ := hsp rfl
    simp only [DataW.weights, Tryz.underlying24, bytes9, List.length_map, List.all_cons, List.all_append, Bool.and_eq_true, decide_eq_true_eq] at hw
    have hr : reachBytes = 140737488351232 := rfl
    rw [hr] at hw
    have one : ∀ i, i < len → ∃ b o s, a = ⟨b, o, none⟩ ∧ W.cell? ⟨b, o + i, none⟩ = some (.string s) ∧ s.size ≤ 140737488351232 := by
      have get : ∀ i, i < len → ∃ cs e, W.cells? 0 (a.add i) 1 = some cs ∧ DataW.trod enc Tryz.prog W 0 (fun _ => true) true n 9 cs = some e ∧ e ∈ elems := by
        intro i hi
        have h2 := hat i hi
        rw [cells9, Nat.mul_one, List.getElem?_eq_getElem (by omega)] at h2
        obtain ⟨cs, h3, h4⟩ := Option.bind_eq_some_iff.1 h2
        exact ⟨cs, _, h3, h4, List.getElem_mem _⟩
      intro i hi
      obtain ⟨cs0, e0, g0, _, _⟩ := get 0 (by omega)
      obtain ⟨b, o, rfl⟩ := plain_of g0 (by omega)
      obtain ⟨cs, e, g1, g2, g3⟩ := get i hi
      obtain ⟨s, rfl, rfl, _⟩ := DataW.trod_string Tryz.underlying9 g2
      obtain ⟨_, _, hc⟩ := World.cells?_some g1
      have h5 := hc 0 (by omega)
      rw [add_plain, add_plain] at h5
      have h6 := weightsAll_at _ hw.2.1 _ (List.mem_map.2 ⟨_, g3, rfl⟩)
      simp only [DataW.weights, List.all_cons, List.all_nil, Bool.and_true, decide_eq_true_eq, hr] at h6
      exact ⟨b, o, s, rfl, h5, by simpa using h6⟩
    by_cases h0 : len = 0
    · subst h0
      exact ⟨some a, [], cap, rfl, Nat.zero_le _, by omega, fun j hj => absurd hj (by simp)⟩
    · obtain ⟨b, o, _, rfl, _, _⟩ := one 0 (by omega)
      refine ⟨some ⟨b, o, none⟩, (List.range len).map (fun i => strAt W ⟨b, o + i, none⟩), cap, by simp, by simpa using hlc, by omega, fun j hj => ?_⟩
      have hj' : j < len := by simpa using hj
      obtain ⟨b', o', s, e, g1, g2⟩ := one j hj'
      injection e with e1 e2 _
      subst e1 e2
      have es : ((List.range len).map (fun i => strAt W ⟨b, o + i, none⟩))[j] = s := by simp [strAt, g1]
      rw [es]
      exact ⟨g2, b, o, rfl, g1⟩

open Classical in
theorem rep_of (n : Nat) : ∀ {fuel : Nat} {cs : List Value} {x : DataW H × List MemPlace}, fuel ≤ n → DataW.trod enc Tryz.prog W 0 (fun _ => true) true fuel 26 cs = some x → (x.1.weights Tryz.prog 26).all (· ≤ reachBytes) = true → ∃ t, Rep W (.agg cs.toArray) t := by
  induction n with
  | zero =>
    intro fuel cs x hf h
    obtain rfl : fuel = 0 := by omega
    simp [DataW.trod] at h
  | succ n ih =>
    intro fuel cs x hf h hw
    obtain ⟨xs, m, rfl, rfl, hl, hxl, hfs⟩ := DataW.trod_struct Tryz.underlying26 h
    rw [cells26] at hl
    obtain ⟨c0, c1, c2, c3, c4, c5, rfl⟩ := list6 hl
    obtain ⟨y0, y1, y2, y3, y4, y5, rfl⟩ := list6 hxl
    have f0 : DataW.trod enc Tryz.prog W 0 (fun _ => true) true m 3 [c0] = some y0 := by have g := hfs 0 { name := "Kind", type := 3, offset := 0, embedded := false, tag := "", pkgPath := "", byteOffset := 0 } rfl; dsimp only at g; rw [cells3] at g; exact g
    have f1 : DataW.trod enc Tryz.prog W 0 (fun _ => true) true m 3 [c1] = some y1 := by have g := hfs 1 { name := "N", type := 3, offset := 1, embedded := false, tag := "", pkgPath := "", byteOffset := 8 } rfl; dsimp only at g; rw [cells3] at g; exact g
    have f2 : DataW.trod enc Tryz.prog W 0 (fun _ => true) true m 22 [c2] = some y2 := by have g := hfs 2 { name := "F", type := 22, offset := 2, embedded := false, tag := "", pkgPath := "", byteOffset := 16 } rfl; dsimp only at g; rw [cells22] at g; exact g
    have f3 : DataW.trod enc Tryz.prog W 0 (fun _ => true) true m 9 [c3] = some y3 := by have g := hfs 3 { name := "S", type := 9, offset := 3, embedded := false, tag := "", pkgPath := "", byteOffset := 24 } rfl; dsimp only at g; rw [cells9] at g; exact g
    have f4 : DataW.trod enc Tryz.prog W 0 (fun _ => true) true m 23 [c4] = some y4 := by have g := hfs 4 { name := "L", type := 23, offset := 4, embedded := false, tag := "", pkgPath := "", byteOffset := 40 } rfl; dsimp only at g; rw [cells23] at g; exact g
    have f5 : DataW.trod enc Tryz.prog W 0 (fun _ => true) true m 24 [c5] = some y5 := by have g := hfs 5 { name := "Keys", type := 24, offset := 5, embedded := false, tag := "", pkgPath := "", byteOffset := 64 } rfl; dsimp only at g; rw [cells24] at g; exact g
    clear hfs h
    obtain ⟨k, e0, rfl, k1⟩ := DataW.trod_int Tryz.underlying3 f0
    obtain ⟨nn, e1, rfl, n1⟩ := DataW.trod_int Tryz.underlying3 f1
    obtain ⟨f, e2, rfl⟩ := trod_float Tryz.underlying22 f2
    obtain ⟨s, e3, rfl, s1⟩ := DataW.trod_string Tryz.underlying9 f3
    simp only [List.cons.injEq, and_true] at e0 e1 e2 e3
    subst e0 e1 e2 e3
    simp only [List.map_cons, List.map_nil, DataW.weights, Tryz.underlying26, DataW.weightsEach, List.nil_append, List.append_nil, List.all_append, List.all_cons, List.all_nil, Bool.and_true, Bool.and_eq_true] at hw
    obtain ⟨hw3, hw4, hw5⟩ := hw
    have hr : reachBytes = 140737488351232 := rfl
    have s2 : s.size ≤ 140737488351232 := by simpa [hr] using hw3
    obtain ⟨ka, keys, kc, rfl, kl, kcm, hka⟩ := keys_of f5 hw5
    obtain ⟨la, l, lc, cs, rfl, ll, lcm, hla, hlr⟩ : ∃ (la : Option Addr) (l : List V) (lc : Nat) (cs : Nat → Nat → Value), c4 = .slice la l.length lc ∧ l.length ≤ lc ∧ lc ≤ 140737488351232 ∧ (∀ j, j < l.length → ∃ b o, la = some ⟨b, o, none⟩ ∧ ∀ i, i < 6 → W.cell? ⟨b, o + j * 6 + i, none⟩ = some (cs j i)) ∧
        ∀ j (hj : j < l.length), Rep W (.agg #[cs j 0, cs j 1, cs j 2, cs j 3, cs j 4, cs j 5]) l[j] := by
      rcases DataW.trod_slice Tryz.underlying23 f4 with ⟨h1, _⟩ | ⟨a, len, cap, elems, rest, p, hp, h1, rfl, _, hlc, hcm, hel, hat, hsp, _⟩
      · simp only [List.cons.injEq, and_true] at h1
        exact ⟨none, [], 0, fun _ _ => undef, h1, Nat.le_refl _, by omega, fun j hj => absurd hj (by simp), fun j hj => absurd hj (by simp)⟩
      · simp only [List.cons.injEq, and_true] at h1
        subst h1
        obtain ⟨hrl, _⟩ := hsp rfl
        simp only [DataW.weights, Tryz.underlying23, bytes26, List.length_map, List.all_cons, List.all_append, Bool.and_eq_true, decide_eq_true_eq] at hw4
        rw [hr] at hw4
        have get : ∀ i, i < len → ∃ cs e, W.cells? 0 (a.add (i * 6)) 6 = some cs ∧ DataW.trod enc Tryz.prog W 0 (fun _ => true) true p 26 cs = some e ∧ e ∈ elems := by
          intro i hi
          have h2 := hat i hi
          rw [cells26, List.getElem?_eq_getElem (by omega)] at h2
          obtain ⟨cs, h3, h4⟩ := Option.bind_eq_some_iff.1 h2
          exact ⟨cs, _, h3, h4, List.getElem_mem _⟩
        by_cases h0 : len = 0
        · subst h0
          exact ⟨some a, [], cap, fun _ _ => undef, rfl, Nat.zero_le _, by omega, fun j hj => absurd hj (by simp), fun j hj => absurd hj (by simp)⟩
        · obtain ⟨cs0, e0, g0, _, _⟩ := get 0 (by omega)
          rw [Nat.zero_mul] at g0
          obtain ⟨b, o, rfl⟩ := plain_of g0 (by omega)
          obtain ⟨c, hcd⟩ : ∃ c : Nat → Nat → Value, c = fun i j => (W.cell? ⟨b, o + i * 6 + j, none⟩).getD undef := ⟨_, rfl⟩
          have one : ∀ i, i < len → (∀ j, j < 6 → W.cell? ⟨b, o + i * 6 + j, none⟩ = some (c i j)) ∧ ∃ t, Rep W (.agg #[c i 0, c i 1, c i 2, c i 3, c i 4, c i 5]) t := by
            intro i hi
            obtain ⟨cs, e, g1, g2, g3⟩ := get i hi
            obtain ⟨_, hl6, hc⟩ := World.cells?_some g1
            obtain ⟨u0, u1, u2, u3, u4, u5, rfl⟩ := list6 hl6
            have hc' : ∀ j, j < 6 → W.cell? ⟨b, o + i * 6 + j, none⟩ = [u0, u1, u2, u3, u4, u5][j]? := fun j hj => by
              have := hc j hj
              rw [add_plain, add_plain] at this
              exact this
            have q : ∀ j, j < 6 → c i j = ([u0, u1, u2, u3, u4, u5][j]?).getD undef := fun j hj => by rw [hcd]; simp only; rw [hc' j hj]
            refine ⟨fun j hj => ?_, ?_⟩
            · rw [q j hj, hc' j hj, List.getElem?_eq_getElem (by simpa using hj)]
              rfl
            · rw [q 0 (by omega), q 1 (by omega), q 2 (by omega), q 3 (by omega), q 4 (by omega), q 5 (by omega)]
              exact ih (by omega) g2 (weightsAll_at _ hw4.2.1 _ (List.mem_map.2 ⟨_, g3, rfl⟩))
          have pick : ∃ T : Nat → V, ∀ i, i < len → Rep W (.agg #[c i 0, c i 1, c i 2, c i 3, c i 4, c i 5]) (T i) :=
            ⟨fun i => if h : ∃ t, Rep W (.agg #[c i 0, c i 1, c i 2, c i 3, c i 4, c i 5]) t then Classical.choose h else .mk 1 0 0 ByteArray.empty [] [], fun i hi => by
              have hx := (one i hi).2
              simp only [dif_pos hx]
              exact Classical.choose_spec hx⟩
          obtain ⟨T, hT⟩ := pick
          refine ⟨some ⟨b, o, none⟩, (List.range len).map T, cap, c, by simp, by simpa using hlc, by omega, fun j hj => ⟨b, o, rfl, (one j (by simpa using hj)).1⟩, fun j hj => ?_⟩
          have e : ((List.range len).map T)[j] = T j := by simp
          rw [e]
          exact hT j (by simpa using hj)
    exact ⟨_, Rep.mk k nn f s l keys la ka lc kc cs (wf_i64 k1) (wf_i64 n1) s2 ll (by omega) kl (by omega) hla hlr hka⟩
end
end Go.Proofs.YtonnmongipaheaaGreatDoor
