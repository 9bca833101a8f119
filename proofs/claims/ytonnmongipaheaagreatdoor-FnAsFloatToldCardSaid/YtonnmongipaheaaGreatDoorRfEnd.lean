/- internal/strconv.readFloat, its end: from the test on the mantissa on. -/
import Derived.Test.YtonnmongipaheaaGreatDoorUnder
namespace Go.Proofs.YtonnmongipaheaaGreatDoor
open Go.RowKit
set_option linter.unusedVariables false
set_option linter.unusedSimpArgs false

set_option maxRecDepth 1000000 in
theorem act_out253 {a : Act} (hd : a.defers = []) (hs : a.tmps.size = 253) : ∃ g : Nat → Value, (∀ k, g k = a.tmps.getD k undef) ∧ a = ⟨#[g 0, g 1, g 2, g 3, g 4, g 5, g 6, g 7, g 8, g 9, g 10, g 11, g 12, g 13, g 14, g 15, g 16, g 17, g 18, g 19, g 20, g 21, g 22, g 23, g 24, g 25, g 26, g 27, g 28, g 29, g 30, g 31, g 32, g 33, g 34, g 35, g 36, g 37, g 38, g 39, g 40, g 41, g 42, g 43, g 44, g 45, g 46, g 47, g 48, g 49, g 50, g 51, g 52, g 53, g 54, g 55, g 56, g 57, g 58, g 59, g 60, g 61, g 62, g 63, g 64, g 65, g 66, g 67, g 68, g 69, g 70, g 71, g 72, g 73, g 74, g 75, g 76, g 77, g 78, g 79, g 80, g 81, g 82, g 83, g 84, g 85, g 86, g 87, g 88, g 89, g 90, g 91, g 92, g 93, g 94, g 95, g 96, g 97, g 98, g 99, g 100, g 101, g 102, g 103, g 104, g 105, g 106, g 107, g 108, g 109, g 110, g 111, g 112, g 113, g 114, g 115, g 116, g 117, g 118, g 119, g 120, g 121, g 122, g 123, g 124, g 125, g 126, g 127, g 128, g 129, g 130, g 131, g 132, g 133, g 134, g 135, g 136, g 137, g 138, g 139, g 140, g 141, g 142, g 143, g 144, g 145, g 146, g 147, g 148, g 149, g 150, g 151, g 152, g 153, g 154, g 155, g 156, g 157, g 158, g 159, g 160, g 161, g 162, g 163, g 164, g 165, g 166, g 167, g 168, g 169, g 170, g 171, g 172, g 173, g 174, g 175, g 176, g 177, g 178, g 179, g 180, g 181, g 182, g 183, g 184, g 185, g 186, g 187, g 188, g 189, g 190, g 191, g 192, g 193, g 194, g 195, g 196, g 197, g 198, g 199, g 200, g 201, g 202, g 203, g 204, g 205, g 206, g 207, g 208, g 209, g 210, g 211, g 212, g 213, g 214, g 215, g 216, g 217, g 218, g 219, g 220, g 221, g 222, g 223, g 224, g 225, g 226, g 227, g 228, g 229, g 230, g 231, g 232, g 233, g 234, g 235, g 236, g 237, g 238, g 239, g 240, g 241, g 242, g 243, g 244, g 245, g 246, g 247, g 248, g 249, g 250, g 251, g 252], []⟩ := by
  obtain ⟨g, hg⟩ : ∃ g : Nat → Value, ∀ k, g k = a.tmps.getD k undef := ⟨_, fun _ => rfl⟩
  refine ⟨g, hg, ?_⟩
  have h := range_getD undef a.tmps.toList
  cases a with
  | mk t d =>
    subst hd
    simp only at hs h ⊢
    congr 1
    apply Array.toList_inj.1
    rw [h, Array.length_toList, hs]
    have e : (List.range 253).map (fun i => t.toList.getD i undef) = (List.range 253).map g := by
      apply List.map_congr_left
      intro i _
      rw [hg]
      simp [List.getD_eq_getElem?_getD, Array.getD_eq_getD_getElem?]
    rw [e]
    show @Eq (List Value) _ _
    kernel_rfl


theorem results_tmp7 {fn : Func} {a b c d e f g : Tmp} (h : fn.results = #[.tmp a, .tmp b, .tmp c, .tmp d, .tmp e, .tmp f, .tmp g]) (tmps : Array Value) (P : Program) (w : World) :
    (results fn tmps).run P w = .ok (.tuple #[tmps.getD a undef, tmps.getD b undef, tmps.getD c undef, tmps.getD d undef, tmps.getD e undef, tmps.getD f undef, tmps.getD g undef]) w := by
  simp [results, h]

def U64 (m : Int) : Prop := 0 ≤ m ∧ m ≤ 18446744073709551615
theorem U64.wrap (m : Int) : U64 (IntKind.u64.wrap m) := by unfold U64; rw [IntKind.wrap_u64]; omega

/-- What readFloat answers, whatever the text. -/
def ReadPost (s : ByteArray) (w : World) (x : Ending) (w' : World) : Prop :=
  ∃ (m e : Int) (ng tr hx : Bool) (n : Nat) (ok : Bool), x = .returned (.tuple #[.int .u64 m, .int .i64 e, .bool ng, .bool tr, .bool hx, .int .i64 (n : Int), .bool ok]) ∧ U64 m ∧ -10000000 ≤ e ∧ e ≤ 10000000 ∧ n ≤ s.size ∧ w = w'

/-- The frame where the mantissa is tested. -/
def RfEndAt (s : ByteArray) (w0 : World) (a : Act) (w : World) : Prop :=
  w0 = w ∧ a.defers = [] ∧ a.tmps.size = 253 ∧ ∃ (m dp nm : Int) (ng tr hx us : Bool) (i : Nat), a.tmps.getD 0 undef = .string s ∧ a.tmps.getD 2 undef = .int .u64 m ∧ a.tmps.getD 3 undef = .int .i64 0 ∧ a.tmps.getD 4 undef = .bool ng ∧ a.tmps.getD 5 undef = .bool tr ∧ a.tmps.getD 6 undef = .bool hx ∧
    a.tmps.getD 7 undef = .int .i64 (i : Int) ∧ a.tmps.getD 8 undef = .bool false ∧ a.tmps.getD 9 undef = .bool us ∧ a.tmps.getD 16 undef = .int .i64 nm ∧ a.tmps.getD 17 undef = .int .i64 dp ∧ i ≤ s.size ∧ U64 m ∧ -2000000 ≤ dp ∧ dp ≤ 2000000 ∧ 0 ≤ nm ∧ nm ≤ 2000000

noncomputable def rfEnd : Code := (Tryz.f79.body.bind (restFrom 77)).getD .skip

set_option maxRecDepth 1000000 in
set_option maxHeartbeats 8000000 in
theorem rf_end (s : ByteArray) (hs : s.size ≤ 100000) (w0 : World) (a : Act) (w : World) (h : RfEndAt s w0 a w) : rfEnd.wp Tryz.prog (bodyPost Tryz.prog Tryz.f79 (ReadPost s w0)) a w := by
  obtain ⟨rfl, hde, hsi, m, dp, nm, ng, tr, hx, us, i, h0, h2, h3, h4, h5, h6, h7, h8, h9, h16, h17, hi, hm, hd1, hd2, hn1, hn2⟩ := h
  obtain ⟨g, hg, ha⟩ := act_out253 hde hsi
  have e0 := (hg 0).trans h0
  have e2 := (hg 2).trans h2
  have e3 := (hg 3).trans h3
  have e4 := (hg 4).trans h4
  have e5 := (hg 5).trans h5
  have e6 := (hg 6).trans h6
  have e7 := (hg 7).trans h7
  have e8 := (hg 8).trans h8
  have e9 := (hg 9).trans h9
  have e16 := (hg 16).trans h16
  have e17 := (hg 17).trans h17
  rw [ha, e0, e2, e3, e4, e5, e6, e7, e8, e9, e16, e17]
  have HM := hide2 hm
  have hi' : ((i : Nat) : Int) ≤ ((s.size : Nat) : Int) := by omega
  have hiN : (0 : Int) ≤ ((i : Nat) : Int) := by omega
  clear hg h0 h2 h3 h4 h5 h6 h7 h8 h9 h16 h17 e0 e2 e3 e4 e5 e6 e7 e8 e9 e16 e17 ha hde hsi hm
  conv => arg 2; whnf
  have hmz : (m != 0) = true ∨ (m != 0) = false := by cases (m != 0) <;> simp
  rcases hmz with hmz | hmz
  all_goals cases us
  all_goals go_wp2_with (go_at_call 93; refine (under_any _ _ (by simp; omega)).mono ?_; rintro u w9 ⟨r, rfl, rfl⟩; cases r)
  all_goals (refine bodyPost_ret (results_tmp7 rfl _ _ _) rfl ?_)
  all_goals exact ⟨_, _, _, _, _, i, _, rfl, HM.out, by omega, by omega, hi, rfl⟩
end Go.Proofs.YtonnmongipaheaaGreatDoor
