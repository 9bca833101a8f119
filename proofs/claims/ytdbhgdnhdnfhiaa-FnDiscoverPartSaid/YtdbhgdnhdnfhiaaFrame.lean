/- The frame of discover.find: what its slots hold while the search runs; its loop's body, taken out of the loaded program. -/
import Derived.Test.YtdbhgdnhdnfhiaaPlan
import Derived.Test.YtdbhgdnhdnfhiaaCalled
import Derived.Deep.LoopGhost
namespace Go.Proofs.Ytdbhgdnhdnfhiaa
open Go.RowKit
set_option linter.unusedVariables false

def firstLoop : Code → Option Code
  | .loop c => some c
  | .seq a b => match firstLoop a with
    | some c => some c
    | .none => firstLoop b
  | .block _ c => firstLoop c
  | .scope c => firstLoop c
  | .cond _ a b => match firstLoop a with
    | some c => some c
    | .none => firstLoop b
  | _ => .none
noncomputable def body : Code := (Try.f8.body.bind firstLoop).getD .skip

structure FrameOk (M N bb n cap : Nat) (a : Act) : Prop where
  defers : a.defers = []
  size : a.tmps.size = 219
  s0 : a.tmps.getD 0 undef = .slice (some ⟨bb, 0, none⟩) n cap
  s1 : a.tmps.getD 1 undef = .func (.func 7) #[] #[.pointer (some ⟨M + 1, 0, none⟩), .pointer (some ⟨M, 0, none⟩)]
  s2 : a.tmps.getD 2 undef = .nilFunc
  s7 : a.tmps.getD 7 undef = .pointer (some ⟨N, 0, none⟩)
  s8 : a.tmps.getD 8 undef = .pointer (some ⟨N + 1, 0, none⟩)
  s9 : ∃ uc : Int, a.tmps.getD 9 undef = .int .i64 uc
  s10 : a.tmps.getD 10 undef = .pointer (some ⟨N + 2, 0, none⟩)
  s11 : a.tmps.getD 11 undef = .pointer (some ⟨N + 3, 0, none⟩)
  s12 : a.tmps.getD 12 undef = .func (.func 9) #[] #[.pointer (some ⟨N, 0, none⟩), .pointer (some ⟨N + 2, 0, none⟩), .pointer (some ⟨N + 1, 0, none⟩), .pointer (some ⟨N + 3, 0, none⟩)]

theorem act_out {a : Act} (hd : a.defers = []) (hs : a.tmps.size = 219) : ∃ g : Nat → Value, (∀ k, g k = a.tmps.getD k undef) ∧ a = ⟨#[g 0, g 1, g 2, g 3, g 4, g 5, g 6, g 7, g 8, g 9, g 10, g 11, g 12, g 13, g 14, g 15, g 16, g 17, g 18, g 19, g 20, g 21, g 22, g 23, g 24, g 25, g 26, g 27, g 28, g 29, g 30, g 31, g 32, g 33, g 34, g 35, g 36, g 37, g 38, g 39, g 40, g 41, g 42, g 43, g 44, g 45, g 46, g 47, g 48, g 49, g 50, g 51, g 52, g 53, g 54, g 55, g 56, g 57, g 58, g 59, g 60, g 61, g 62, g 63, g 64, g 65, g 66, g 67, g 68, g 69, g 70, g 71, g 72, g 73, g 74, g 75, g 76, g 77, g 78, g 79, g 80, g 81, g 82, g 83, g 84, g 85, g 86, g 87, g 88, g 89, g 90, g 91, g 92, g 93, g 94, g 95, g 96, g 97, g 98, g 99, g 100, g 101, g 102, g 103, g 104, g 105, g 106, g 107, g 108, g 109, g 110, g 111, g 112, g 113, g 114, g 115, g 116, g 117, g 118, g 119, g 120, g 121, g 122, g 123, g 124, g 125, g 126, g 127, g 128, g 129, g 130, g 131, g 132, g 133, g 134, g 135, g 136, g 137, g 138, g 139, g 140, g 141, g 142, g 143, g 144, g 145, g 146, g 147, g 148, g 149, g 150, g 151, g 152, g 153, g 154, g 155, g 156, g 157, g 158, g 159, g 160, g 161, g 162, g 163, g 164, g 165, g 166, g 167, g 168, g 169, g 170, g 171, g 172, g 173, g 174, g 175, g 176, g 177, g 178, g 179, g 180, g 181, g 182, g 183, g 184, g 185, g 186, g 187, g 188, g 189, g 190, g 191, g 192, g 193, g 194, g 195, g 196, g 197, g 198, g 199, g 200, g 201, g 202, g 203, g 204, g 205, g 206, g 207, g 208, g 209, g 210, g 211, g 212, g 213, g 214, g 215, g 216, g 217, g 218], []⟩ := by
  obtain ⟨g, hg⟩ : ∃ g : Nat → Value, ∀ k, g k = a.tmps.getD k undef := ⟨_, fun _ => rfl⟩
  refine ⟨g, hg, ?_⟩
  have h := list_range_getD undef a.tmps.toList
  cases a with
  | mk t d =>
    subst hd
    simp only at hs h ⊢
    congr 1
    apply Array.toList_inj.1
    rw [h, Array.length_toList, hs]
    have e : (List.range 219).map (fun i => t.toList.getD i undef) = (List.range 219).map g := by
      apply List.map_congr_left
      intro i _
      rw [hg]
      simp [List.getD_eq_getElem?_getD, Array.getD_eq_getD_getElem?]
    rw [e]
    show @Eq (List Value) _ _
    kernel_rfl


/-- Where the search stands: what holds whenever the loop (or the label) is reached; n: the measure. -/
def At (s : ByteArray) (back : Bool) (M N bb cap : Nat) (W0 : World) (n : Nat) (a : Act) (w : World) : Prop :=
  ∃ ps st i m k vm vl, FrameOk M N bb s.size cap a ∧ Inv s back M N bb W0 ps st i (Md.str m) k vm vl w ∧ Plan s back ps st i k ∧ Good m k ∧ n = mu s st i k ∧ Run s back ⟨ps, st, i, m, k⟩
/-- What a step hands on: a state that the step leads to, at a smaller measure. -/
def Next (s : ByteArray) (back : Bool) (M N bb cap : Nat) (W0 : World) (n : Nat) (S : State) (a : Act) (w : World) : Prop :=
  ∃ ps st i m k vm vl, FrameOk M N bb s.size cap a ∧ Inv s back M N bb W0 ps st i (Md.str m) k vm vl w ∧ Plan s back ps st i k ∧ Good m k ∧ mu s st i k < n ∧ Stp s back S ⟨ps, st, i, m, k⟩

theorem Next.intro {s : ByteArray} {back : Bool} {M N bb cap : Nat} {W0 : World} {n : Nat} {S : State} {a : Act} {w : World} {ps : List (Nat × Nat)} {st i : Nat} (m : Md) {k : List Md} {vm vl : Value}
    (hf : FrameOk M N bb s.size cap a) (hi : Inv s back M N bb W0 ps st i m.str k vm vl w) (hp : Plan s back ps st i k ∧ mu s st i k < n) (hg : Good m k) (hs : Stp s back S ⟨ps, st, i, m, k⟩) : Next s back M N bb cap W0 n S a w :=
  ⟨ps, st, i, m, k, vm, vl, hf, hi, hp.1, hg, hp.2, hs⟩

theorem Next.at {s : ByteArray} {back : Bool} {M N bb cap : Nat} {W0 : World} {n : Nat} {S : State} {a : Act} {w : World} (h : Next s back M N bb cap W0 n S a w) (hr : Run s back S) (hm : S.i < s.size ∨ S.k ≠ []) : ∃ n', n' < n ∧ At s back M N bb cap W0 n' a w := by
  obtain ⟨ps, st, i, m, k, vm, vl, hf, hi, hp, hg, hlt, hs⟩ := h
  exact ⟨_, hlt, ps, st, i, m, k, vm, vl, hf, hi, hp, hg, rfl, hr.step hs hm⟩

end Go.Proofs.Ytdbhgdnhdnfhiaa
