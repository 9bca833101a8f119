/- laws.FnDiscoverPart returns true for every text and either way; it writes nothing that was there. -/
import Derived.Test.YtdbhgdnhdnfhiaaTop
namespace Go.Proofs.Ytdbhgdnhdnfhiaa
open Go.RowKit
set_option linter.unusedVariables false

/-- A part of a text, as a string of its own. -/
structure Piece (s : ByteArray) (p : Nat × Nat) (x : ByteArray) : Prop where
  size : p.1 + x.size = p.2
  le : p.2 ≤ s.size
  two : 2 ≤ x.size
  same : s.extract p.1 (p.1 + x.size) = x
  first : ∀ h : 0 < x.size, x[0].toNat = 91 ∨ x[0].toNat = 123
  last : ∀ h : x.size - 1 < x.size, x[x.size - 1].toNat = 93 ∨ x[x.size - 1].toNat = 125

/-- Said where the search does not go back. -/
def Onward (back : Bool) (X : Prop) : Prop := back = false → X

theorem getElem_extract (s : ByteArray) (a b i : Nat) (h : i < (s.extract a b).size) (h' : a + i < s.size) : (s.extract a b)[i] = s[a + i] := by
  have e1 : (s.extract a b)[i] = (s.extract a b).data.toList[i]'(by rw [Array.length_toList]; exact h) := by rw [Array.getElem_toList]; rfl
  have e2 : s[a + i] = s.data.toList[a + i]'(by simpa using h') := by rw [Array.getElem_toList]; rfl
  rw [e1, e2]
  simp [ByteArray.data_extract]

theorem Piece.of {s : ByteArray} {p : Nat × Nat} (h : isPart s p) : Piece s p (s.extract p.1 p.2) := by
  obtain ⟨h1, h2, h3, h4⟩ := h
  have hz : (s.extract p.1 p.2).size = p.2 - p.1 := by rw [ByteArray.size_extract]; omega
  refine ⟨by omega, h2, by omega, by rw [hz]; congr 1; omega, ?_, ?_⟩
  · intro h
    rw [getElem_extract s _ _ _ h (by omega)]
    rw [getD_at s (by omega)] at h3
    simp only [Nat.add_zero]
    rcases h3 with e | e
    · left; rw [e]; rfl
    · right; rw [e]; rfl
  · intro h
    rw [getElem_extract s _ _ _ h (by omega)]
    rw [getD_at s (by omega)] at h4
    have e0 : p.1 + ((s.extract p.1 p.2).size - 1) = p.2 - 1 := by omega
    simp only [e0]
    rcases h4 with e | e
    · left; rw [e]; rfl
    · right; rw [e]; rfl

set_option maxRecDepth 100000 in
theorem law_big (s : ByteArray) (back : Bool) (w : World) (hm : s.size ≤ maxLen) (hs : 1000 < s.size) : Calls Try.prog 3 #[.string s, .bool back] w fun e w' => e = .returned (.bool true) ∧ w = w' := by
  unfold maxLen at hm
  by_cases h : 2147483647 < s.size
  · go_enter Try.func3, Try.ntmps3
    go_wp2
    go_ret
    exact ⟨rfl, rfl⟩
  · go_enter Try.func3, Try.ntmps3
    go_wp2
    go_ret
    exact ⟨rfl, rfl⟩

set_option maxRecDepth 100000 in
set_option maxHeartbeats 1000000 in
theorem law_small (s : ByteArray) (back : Bool) (w : World) (hs : s.size ≤ 1000) : Calls Try.prog 3 #[.string s, .bool back] w fun e w' => e = .returned (.bool true) ∧ Below w.heap.size w w' := by
  go_enter Try.func3, Try.ntmps3
  go_wp2_with (first
    | (go_at_call 4
       refine (discover_any s back _ hs).mono ?_
       rintro e w1 ⟨ps, v, rfl, hown, he, hch, hl, hb, _⟩
       have HB := hid hb
       have HE := hid he
       have HC := hid hch
       have HV : Hid (∃ ad cap, v = .slice ad ps.length cap ∧ ∀ k (hk : k < ps.length), ∃ g, ad = some ⟨g, 0, none⟩ ∧ w1.cell? ⟨g, k, none⟩ = some (.string (s.extract ps[k].1 ps[k].2))) := by
         rcases hown.2 with ⟨rfl, hn⟩ | ⟨g, cp, cur, rfl, _⟩
         · exact ⟨none, 0, by rw [hn], fun k hk => by omega⟩
         · refine ⟨_, _, rfl, fun k hk => ⟨g, rfl, ?_⟩⟩
           rw [hown.cellAt k (by simpa using hk)]
           simp [List.getElem?_eq_getElem hk]
       obtain ⟨ad, cap, rfl, hcell⟩ := HV.out
       have CE := hid hcell
       clear hown he hch hb HV hcell))
  go_loop [6, 7] (fun at_ k => ∃ kk A : Nat, k = .int .i64 kk ∧ at_ = .int .i64 A ∧ kk ≤ ps.length ∧ A ≤ s.size ∧ Onward back (∀ q ∈ ps.drop kk, A ≤ q.1)) (fun _ k => ps.length - (intOf k).toNat)
  case atStart => exact ⟨0, 0, rfl, rfl, by omega, by omega, fun _ _ _ => Nat.zero_le _⟩
  case round =>
    obtain ⟨kk, A, rfl, rfl, hkk, hA, hq⟩ := hrel
    by_cases hlt : kk < ps.length
    · obtain ⟨g, rfl, hc⟩ := CE.out kk hlt
      have P := Piece.of (HE.out _ (List.getElem_mem hlt))
      obtain ⟨x, hx⟩ : ∃ x, x = s.extract ps[kk].1 ps[kk].2 := ⟨_, rfl⟩
      rw [← hx] at hc P
      have Hx := hid hx
      clear hx
      obtain ⟨p, hp⟩ : ∃ p, p = ps[kk] := ⟨_, rfl⟩
      rw [← hp] at P
      have Hp := hid hp
      clear hp
      have p1 := P.size
      have p2 := P.le
      have p3 := P.two
      have pf := P.first (by omega)
      have pl := P.last (by omega)
      have PS := hid P.same
      clear P
      have hfrom : Onward back (A ≤ p.1) := fun hb => by
        have := hq hb ps[kk] (by rw [List.drop_eq_getElem_cons hlt]; exact List.mem_cons_self)
        rw [← Hp.out] at this
        exact this
      have hnext : Hid (∀ B, B ≤ p.2 → Onward back (∀ q ∈ ps.drop (kk + 1), B ≤ q.1)) := hid fun B hB hb q hqm => by
        have hpw := HC.out hb
        have h1 : ps.drop kk = ps[kk] :: ps.drop (kk + 1) := List.drop_eq_getElem_cons hlt
        have h2 : (ps.drop kk).Pairwise (fun p q => p.2 ≤ q.1) := hpw.sublist (List.drop_sublist _ _)
        rw [h1, List.pairwise_cons] at h2
        have h3 := h2.1 q hqm
        rw [← Hp.out] at h3
        omega
      rcases pf with pf | pf <;> rcases pl with pl | pl <;> cases back
      all_goals
        go_wp2
        go_loop [10] (fun i => ∃ I : Nat, i = .int .i64 I ∧ I ≤ p.1) (fun i => p.1 - (intOf i).toNat)
        case atStart => first | exact ⟨0, rfl, Nat.zero_le _⟩ | exact ⟨A, rfl, hfrom rfl⟩
        case round =>
          obtain ⟨I, rfl, hI⟩ := hrel
          have hsl : ∀ w : World, (Instr.slice 9 (.string s) (some (.int .i64 (I : Int))) (some (.int .i64 ((I : Int) + (x.size : Int)))) none).run Try.prog w = .ok (.string (s.extract I (I + x.size))) w := fun w => by
            rw [run_slice_string w 9 s .i64 .i64 (I : Int) ((I : Int) + (x.size : Int)) Try.underlying9 (by omega) (by omega) (by omega)]
            congr 2
          rcases hb : ((s.extract I (I + x.size)).toList == x.toList) with _ | _
          · have hI' : I < p.1 := by
              rcases Nat.lt_or_ge I p.1 with h | h
              · exact h
              · have e : I = p.1 := by omega
                rw [e, PS.out] at hb
                simp at hb
            go_wp2
            go_round
            case rel => exact ⟨I + 1, by go_num, by omega⟩
            case measure => simp [intOf]; omega
          · go_wp2
            go_round
            case rel => exact ⟨kk + 1, I + x.size, by go_num, by go_num, by omega, by omega, hnext.out _ (by omega)⟩
            case measure => simp [intOf]; omega
    · go_wp2_with (go_at_call 5; refine (finds_any _).mono ?_; rintro e w' ⟨rfl, hb⟩; have HF := hid hb; clear hb)
      go_ret
      exact ⟨rfl, HB.out.trans (HF.out.mono HB.out.size)⟩
end Go.Proofs.Ytdbhgdnhdnfhiaa
