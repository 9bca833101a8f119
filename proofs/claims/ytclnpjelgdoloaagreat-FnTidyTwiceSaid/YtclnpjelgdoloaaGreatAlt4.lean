/- alt.alter at any value of plain data; alt.Alter, alt.Decompose. -/
import Derived.Test.YtclnpjelgdoloaaGreatAlt3
namespace Go.Proofs.YtclnpjelgdoloaaGreat
open Go.RowKit Go.Maps
set_option linter.unusedVariables false
set_option linter.unusedSimpArgs false

theorem alt_any (on oe : Bool) (n : Nat) : ∀ {lo hi : Nat} (t : V) (x : Value) (w : World) (ob : Nat), SizeOf.sizeOf t ≤ n → PSep w lo hi x t → Fine t → Opts w ob on oe → (ob < lo ∨ hi ≤ ob) → hi ≤ w.heap.size → Calls Tryz.prog 41 #[x, .pointer (some ⟨ob, 0, none⟩)] w (AltPost on oe t lo hi x w) := by
  induction n with
  | zero => intro lo hi t x w ob hn; cases t; simp at hn
  | succ n ih =>
    intro lo hi t x w ob hn hx hf ho hob hsz
    cases hx with
    | null _ _ _ hk => exact (alt_null _ w).mono fun e w' ⟨h1, h2⟩ => by subst h2; exact ⟨h1, t, .flat t (by omega), .null _ _ t hk, Outside.refl _ _ _⟩
    | bool _ _ _ hk => exact (alt_bool _ _ w).mono fun e w' ⟨h1, h2⟩ => by subst h2; exact ⟨h1, t, .flat t (by omega), .bool _ _ t hk, Outside.refl _ _ _⟩
    | int _ _ _ hk => exact (alt_int _ _ w).mono fun e w' ⟨h1, h2⟩ => by subst h2; exact ⟨h1, t, .flat t (by omega), .int _ _ t hk, Outside.refl _ _ _⟩
    | str _ _ _ hk => exact (alt_str _ _ w).mono fun e w' ⟨h1, h2⟩ => by subst h2; exact ⟨h1, t, .flat t (by omega), .str _ _ t hk, Outside.refl _ _ _⟩
    | flo _ _ _ hk => exact (alt_flo _ _ w).mono fun e w' ⟨h1, h2⟩ => by subst h2; exact ⟨h1, t, .flat t (by omega), .flo _ _ t hk, Outside.refl _ _ _⟩
    | arr _ _ _ hk g cap cur xs los his hg hg' hle hcap hb hc hin hdis hr =>
      refine alt_arr on oe t lo hi g cap ob cur xs los his w hk hf.len.1 hg hg' hle hcap hb hc hin hdis hr ho hob hsz ?_
      intro j hj w' hp ho' hsz'
      have hi' := hin j hj
      exact ih _ _ w' ob (by have := V.l_lt (t := t) (List.getElem_mem hj); omega) hp (fine_elem hf j hj) ho' (by omega) (by omega)
    | obj _ _ _ hk b nD D xs los his hb hb' hm hn' hT hD hx hkl hnd hin hdis hr =>
      refine alt_obj on oe t lo hi b nD ob D xs los his w hk hb hb' hm hn' hT hD hx hnd hin hdis hr ho hob hsz ?_
      intro k hk' w' hp ho' hsz'
      have hi' := hin k hk'
      have hmem := lookIn_mem _ _ _ hkl hk'
      exact ih _ _ w' ob (by have := V.l_lt (t := t) hmem; simp only [V.look]; omega) hp (hf.mem _ hmem) ho' (by omega) (by omega)

/-- What Alter and Decompose give, in new memory. -/
def TidPost (on oe : Bool) (t : V) (w : World) (e : Ending) (w' : World) : Prop := ∃ y t', e = .returned y ∧ Tid on oe t t' ∧ PRep w' 0 y t'

set_option maxRecDepth 100000 in
theorem alter_top {on oe : Bool} {lo hi : Nat} {t : V} {x : Value} {w : World} {ob : Nat} (hx : PSep w lo hi x t) (hf : Fine t) (ho : Opts w ob on oe) (hob : ob < lo ∨ hi ≤ ob) (hsz : hi ≤ w.heap.size) : Calls Tryz.prog 19 #[x, .pointer (some ⟨ob, 0, none⟩)] w (AltPost on oe t lo hi x w) := by
  have H := hid (alt_any on oe _ t x w ob (Nat.le_refl _) hx hf ho hob hsz)
  clear hx hf ho hob hsz
  go_enter Tryz.func19, Tryz.ntmps19
  go_wp2_with (go_at_call 41; refine H.out.mono ?_; rintro e w1 ⟨rfl, h2⟩; have H2 := hid h2; clear h2)
  go_ret
  exact ⟨rfl, H2.out⟩

set_option maxRecDepth 100000 in
theorem decompose_top {on oe : Bool} {B : Nat} {t : V} {x : Value} {w : World} {ob : Nat} (hx : PRep w B x t) (hf : Fine t) (ho : Opts w ob on oe) : Calls Tryz.prog 21 #[x, .pointer (some ⟨ob, 0, none⟩)] w (DecPost on oe t w) := by
  have H := hid (dec_any on oe _ t x w ob (Nat.le_refl _) hx hf ho)
  clear hx hf ho
  go_enter Tryz.func21, Tryz.ntmps21
  go_wp2_with (go_at_call 42; refine H.out.mono ?_; rintro e w1 ⟨y, t', rfl, h1, h2, h3⟩; have H1 := hid h1; have H2 := hid h2; have H3 := hid h3; clear h1 h2 h3)
  go_ret
  exact ⟨y, t', rfl, H1.out, H2.out, H3.out⟩
end Go.Proofs.YtclnpjelgdoloaaGreat
