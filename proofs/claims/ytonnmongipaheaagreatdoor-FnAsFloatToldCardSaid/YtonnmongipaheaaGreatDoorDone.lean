/- Proved: for every value and every row of floats, laws.FnAsFloatTold returns true and leaves the memory that was there as it was; what its row lists is tied to the program's text (the card). Conditions: none beyond the row's own. The frame of this text follows the guide's proof-skeleton.mjs and its worked proofs; the walk is in the texts that it imports. -/
import Derived.Test.YtonnmongipaheaaGreatDoorAll
import Derived.Test.YtonnmongipaheaaGreatDoorLaidT
import Derived.Test.YtonnmongipaheaaGreatDoorCards
import Derived.Test.YtonnmongipaheaaGreatDoorTie
import Derived.WalkKit
import Derived.ProofKit
import Derived.OpenShut
import Derived.LaidMore
import Derived.Lay
import Derived.SevenTiedAt
import Derived.Stop.Joined
namespace Go.Proofs.YtonnmongipaheaaGreatDoor
open Go.ChangeShapes Go.WideShapes Go.ChangeAt Go.RowKit
set_option linter.unusedVariables false
set_option linter.unusedSimpArgs false

theorem own : ownKnob Tryz.prog.godebug = none := by kernel_rfl
theorem laidOut : laidOutB Tryz.prog = true := by kernel_rfl

-- A value of package impl, opened.
set_option maxRecDepth 100000 in
theorem open_value {H : Type} {enc : TypeId × Value → H} {W : World} {base : Nat} {v : Value} {d : DataW H} {p : List MemPlace} (hv : Value.okWide Tryz.prog W .any base 26 v) (h : DataW.Trod enc Tryz.prog W 0 (fun _ => true) true 26 v d p) (hw : (d.weights Tryz.prog 26).all (· ≤ reachBytes) = true) : ∃ t, Rep W v t := by
  obtain ⟨cs, rfl, hsz⟩ := okWide_struct Tryz.underlying26 hv
  obtain ⟨fuel, hf⟩ := h
  have h := rep_of fuel (Nat.le_refl _) hf hw
  rw [Array.toArray_toList] at h
  exact h

-- A row of floats, opened.
set_option maxRecDepth 100000 in
theorem open_row {H : Type} {enc : TypeId × Value → H} {W : World} {base : Nat} {v : Value} {d : DataW H} {p : List MemPlace} (hv : Value.okWide Tryz.prog W .any base 27 v) (h : DataW.Trod enc Tryz.prog W 0 (fun _ => true) true 27 v d p) :
    (∃ n x0 x1, Dfs W v n x0 x1) ∨ ∃ ad n c, v = .slice ad n c ∧ 2 < n ∧ n ≤ c ∧ c ≤ 9223372036854775807 := by
  obtain ⟨ad, n, c, rfl⟩ := okWide_slice Tryz.underlying27 hv
  obtain ⟨fuel, hf⟩ := h
  have hf' : DataW.trod enc Tryz.prog W 0 (fun _ => true) true fuel 27 [.slice ad n c] = some (d, p) := hf
  rcases DataW.trod_slice Tryz.underlying27 hf' with ⟨h1, _⟩ | ⟨a, len, cap, elems, rest, m, _, h1, _, _, hlc, hcm, hel, hat, _, _⟩
  · simp only [List.cons.injEq, and_true] at h1
    injection h1 with e1 e2 e3
    subst e1 e2 e3
    exact .inl ⟨_, _, _, .nought none 0 (by omega)⟩
  · simp only [List.cons.injEq, and_true] at h1
    injection h1 with e1 e2 e3
    subst e1 e2 e3
    have hmx : maxLen = 9223372036854775807 := rfl
    have hc : c ≤ 9223372036854775807 := by omega
    by_cases hn : 2 < n
    · exact .inr ⟨_, _, _, rfl, hn, hlc, hc⟩
    · have get : ∀ i, i < n → ∃ x, ∃ l : List Value, W.cells? 0 (a.add i) 1 = some l ∧ l = [.float .f64 x] := by
        intro i hi
        have h2 := hat i hi
        rw [cells22, Nat.mul_one, List.getElem?_eq_getElem (by omega)] at h2
        obtain ⟨l, h3, h4⟩ := Option.bind_eq_some_iff.1 h2
        obtain ⟨x, rfl, _⟩ := trod_float Tryz.underlying22 h4
        exact ⟨x, _, h3, rfl⟩
      by_cases h0 : n = 0
      · subst h0
        exact .inl ⟨_, _, _, .nought _ c hc⟩
      · obtain ⟨x0, l0, g0, rfl⟩ := get 0 (by omega)
        obtain ⟨b, o, rfl⟩ := plain_of g0 (by omega)
        have cell : ∀ i x, W.cells? 0 ((⟨b, o, none⟩ : Addr).add i) 1 = some [.float .f64 x] → W.cell? ⟨b, o + i, none⟩ = some (.float .f64 x) := by
          intro i x g
          obtain ⟨_, _, hc'⟩ := World.cells?_some g
          have h5 := hc' 0 (by omega)
          rw [add_plain, add_plain] at h5
          exact h5
        have k0 := cell 0 x0 g0
        rw [Nat.add_zero] at k0
        by_cases h1 : n = 1
        · subst h1
          exact .inl ⟨_, _, _, .one b o c x0 hc hlc k0⟩
        · obtain rfl : n = 2 := by omega
          obtain ⟨x1, l1, g1, rfl⟩ := get 1 (by omega)
          exact .inl ⟨_, _, _, .two b o c x0 x1 hc hlc k0 (cell 1 x1 g1)⟩

/-! ### THE ROW's STEP -/
set_option maxRecDepth 100000 in
theorem lifted (os : Os) (started : os.Started) (H : Type) (enc : TypeId × Value → H) :
    ReturnsInHanded {} Tryz.checked os 3 .any (fun w args => (Rows.fnAsFloatToldSpec.pre enc Tryz.prog Tryz.f3 Rows.fnAsFloatToldRow.domain false w args ∧ laidMetH Tryz.prog Rows.fnAsFloatToldRow.laid w) ∧ sizedMet enc Tryz.prog Tryz.f3 (OpenSpec.ofChange Rows.fnAsFloatToldSpec) false w args)
      (Rows.fnAsFloatToldSpec.post enc Tryz.prog Tryz.f3 false true false false) := by
  refine returnsInHanded_of_change_and (C := Tryz.checked) (X := fun w _ => laidMetH Tryz.prog Rows.fnAsFloatToldRow.laid w) (fun _ _ _ hh h => h.of_heap hh) own started (by kernel_rfl) Tryz.func3
    (ChangeSpec.witness_shaped (enc := enc) (C := Tryz.checked) (os := os) (X := fun w _ => laidMetH Tryz.prog Rows.fnAsFloatToldRow.laid w) false (World.laidAll Tryz.prog os Rows.fnAsFloatToldRow.laid) #[.agg #[.int .i64 1, .int .i64 0, .float .f64 0, .string ByteArray.empty, .slice none 0 0, .slice none 0 0], .slice none 0 0] 8 (World.laidAll_os _ _ _)
      (World.shaped_of_ZipB (by kernel_rfl) (by kernel_rfl)) (by kernel_rfl) (by kernel_rfl) (by kernel_rfl)
      (by rw [MakeChecks.laidMetH_plain _ _ _ (by kernel_rfl)]; exact laidMet_laidAll _ (by kernel_rfl) (by kernel_rfl))) ?_
  intro W base args ds gs before hval0 hW hc hsz hL _
  have hval : ∀ (j : Nat) t v, Tryz.f3.params[j]? = some t → args[j]? = some v → Value.okWide Tryz.prog W .any base t v := hval0
  have hW' := hW
  obtain ⟨p, q, hA0, hV, rfl, hfz, hnd⟩ := hW
  have hA : DataW.TrodAll enc Tryz.prog W 0 (fun _ => true) true Tryz.f3.params.toList args.toList ds p := hA0
  rw [Tryz.params3] at hA hval
  obtain ⟨v0, vs0, d0, ds0, p0, q0, hargs, rfl, rfl, h0, r0⟩ := trodAll_cons hA
  obtain ⟨v1, vs1, d1, ds1, p1, q1, rfl, rfl, rfl, h1, r1⟩ := trodAll_cons r0
  obtain ⟨rfl, rfl, rfl⟩ := trodAll_nil r1
  obtain rfl : args = #[v0, v1] := by cases args; simp_all
  obtain ⟨rfl, rfl⟩ := trodVars_none hV
  have hsz' : (d0.weights Tryz.prog 26 ++ (d1.weights Tryz.prog 27 ++ [])).all (· ≤ reachBytes) = true := by
    have hsz2 := hsz
    rw [show Tryz.f3.params = #[26, 27] from Tryz.params3] at hsz2
    exact hsz2
  rw [List.all_append, Bool.and_eq_true] at hsz'
  have w0 := hsz'.1
  obtain ⟨a, ra⟩ := open_value (hval 0 26 v0 rfl rfl) h0 w0
  have hrow := open_row (hval 1 27 v1 rfl rfl) h1
  obtain ⟨hT, hE⟩ := tab_of hL
  clear hA0 hval0
  have lt0 : ∀ x ∈ p0, x.block < W.heap.size := fun x hx => DataW.TrodAll.lt hA x (by simp [hx])
  have lt1 : ∀ x ∈ p1, x.block < W.heap.size := fun x hx => DataW.TrodAll.lt hA x (by simp [hx])
  simp only [List.append_nil] at hW'
  have law : Calls Tryz.prog 3 #[v0, v1] W (BoolPost true W) := by
    rcases hrow with ⟨n, x0, x1, hd⟩ | ⟨ad, n, c, rfl, hn, hnc, hcc⟩
    · exact few_any W.heap.size a v0 v1 W n x0 x1 ra hd hT (Nat.le_refl _) hE
    · exact many_any a v0 W ad n c hn hnc hcc ra
  refine law.mono fun e W' ⟨he, hg⟩ => ?_
  subst he
  exact ⟨_, rfl, _, _, _, [], _, [], hW', trodAll_mk1 (shut_bool Tryz.underlying4 _), (trodAll_cons_mk (Below.trod laidOut (by kernel_rfl) (of_decide_eq_true (by kernel_rfl)) h0 hg lt0) (trodAll_cons_mk (Below.trod laidOut (by kernel_rfl) (of_decide_eq_true (by kernel_rfl)) h1 hg lt1) trodAll_mk0)), rfl, hg.frame _, fun h => by cases h⟩

theorem over : Rows.FnAsFloatToldSaid :=
  OpenClaim.holds_of_wide 3 Tryz.f3 rfl rfl rfl rfl rfl rfl rfl ⟨rfl, rfl, rfl, rfl, rfl⟩ rfl rfl rfl rfl rfl (by kernel_rfl) Tryz.func3 (by kernel_rfl)
    (of_decide_eq_true (by kernel_rfl)) (by unfold Func.isWrapper; first | (rw [if_pos (by decide +kernel)]; kernel_rfl) | (rw [if_neg (by decide +kernel)]; exact ⟨rfl, rfl⟩))
    (fun os started H enc _ => lifted os started H enc)

/-- ████ THE STATEMENT: THE TIED CARD ████ -/
theorem proved : Rows.FnAsFloatToldCardSaid :=
  Claim7.holds_tied_plain_at .later [] [.data, .data, .widerDeep, .widerDeep, .data, .data, .data, .data, .data, .sentinel, .sentinel, .pinned, .pinned] true (true, "33cbfdf3db058102a5130ea03d8974430e7f6c05b6790e748e1100b897563251") true over (fun _ h => by cases h) (by kernel_rfl) (fun _ h => by cases h) fnAsFloatTold_row_tie rfl ⟨rfl, rfl⟩ (by kernel_rfl) rfl
    (fun f fn hf hfn => by
      obtain rfl : f = 3 := Option.some.inj ((show Tryz.prog.funcNamed "pub-hodometer/laws.FnAsFloatTold" = some 3 by kernel_rfl).symm.trans hf) |>.symm
      obtain rfl : fn = Tryz.f3 := (Option.some.inj (Tryz.func3.symm.trans hfn)).symm
      exact ⟨by kernel_rfl, fun j t ht => by
        rw [Tryz.params3] at ht
        have hm : t ∈ [26, 27] := by simpa using Array.mem_of_getElem? ht
        have hall : ([26, 27].all fun u => !Tryz.prog.wantsStandIn u) = true := by kernel_rfl
        exact (show Tryz.prog.wantsStandIn t = false by simpa using List.all_eq_true.1 hall t hm)⟩)
    (by kernel_rfl)
#print axioms proved
end Go.Proofs.YtonnmongipaheaaGreatDoor
