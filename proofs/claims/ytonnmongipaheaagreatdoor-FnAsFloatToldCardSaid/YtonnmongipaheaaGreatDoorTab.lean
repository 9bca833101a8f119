/- The library's tables in memory; the answer of prefixIsLessThan as one Bool; what a shift leaves. -/
import Derived.Test.YtonnmongipaheaaGreatDoorNum
namespace Go.Proofs.YtonnmongipaheaaGreatDoor
open Go.RowKit
set_option linter.unusedVariables false
set_option linter.unusedSimpArgs false

/-- The library's tables lie in memory, in blocks below B. -/
structure Tab (B : Nat) (w : World) : Prop where
  big : 11 ≤ B
  cheat : ∃ q o, q < B ∧ w.cell? ⟨10, 0, none⟩ = some (.slice (some ⟨q, o, none⟩) 61 61) ∧ ∀ k, k < 61 → w.cell? ⟨q, o + k * 2, none⟩ = some (.int .i64 (cheatD k)) ∧ w.cell? ⟨q, o + k * 2 + 1, none⟩ = some (.string ⟨(cheatL k).toArray⟩)
  pow : ∃ q o, q < B ∧ w.cell? ⟨7, 0, none⟩ = some (.slice (some ⟨q, o, none⟩) 9 9) ∧ ∀ k, k < 9 → ∃ n : Nat, 1 ≤ n ∧ n ≤ 26 ∧ w.cell? ⟨q, o + k, none⟩ = some (.int .i64 n)
  f10 : ∃ q o, q < B ∧ w.cell? ⟨8, 0, none⟩ = some (.slice (some ⟨q, o, none⟩) 23 23) ∧ ∀ k, k < 23 → ∃ x m e, w.cell? ⟨q, o + k, none⟩ = some (.float .f64 x) ∧ Ieee.double.read x = .number false (m + 1) e
  p10 : ∀ k, k < 1392 → ∃ n : Int, w.cell? ⟨9, k, none⟩ = some (.int .u64 n)
  opt : w.cell? ⟨4, 0, none⟩ = some (.bool true)
  inf0 : w.cell? ⟨5, 0, none⟩ = some (.int .u64 52)
  inf1 : w.cell? ⟨5, 1, none⟩ = some (.int .u64 11)
  inf2 : w.cell? ⟨5, 2, none⟩ = some (.int .i64 (-1023))
  blk : ∀ g, g = 3 ∨ g = 5 → ∃ c t, w.heap[g]? = some (.cells c t (0, 0))
  errS : ∃ v, w.cell? ⟨1, 0, none⟩ = some v
  errR : ∃ v, w.cell? ⟨2, 0, none⟩ = some v

theorem Tab.of {B : Nat} {w w' : World} (h : Tab B w) (hb : ∀ a v, a.block < B → w.cell? a = some v → w'.cell? a = some v) (hk : ∀ g o, g < B → w.heap[g]? = some o → w'.heap[g]? = some o) : Tab B w' := by
  have big := h.big
  refine ⟨big, ?_, ?_, ?_, ?_, hb _ _ (by show 4 < B; omega) h.opt, hb _ _ (by show 5 < B; omega) h.inf0, hb _ _ (by show 5 < B; omega) h.inf1, hb _ _ (by show 5 < B; omega) h.inf2, ?_, ?_, ?_⟩
  · obtain ⟨q, o, h1, h2, h3⟩ := h.cheat
    exact ⟨q, o, h1, hb _ _ (by show 10 < B; omega) h2, fun k hk => ⟨hb _ _ h1 (h3 k hk).1, hb _ _ h1 (h3 k hk).2⟩⟩
  · obtain ⟨q, o, h1, h2, h3⟩ := h.pow
    exact ⟨q, o, h1, hb _ _ (by show 7 < B; omega) h2, fun k hk => by
      obtain ⟨n, a, b, c⟩ := h3 k hk
      exact ⟨n, a, b, hb _ _ h1 c⟩⟩
  · obtain ⟨q, o, h1, h2, h3⟩ := h.f10
    exact ⟨q, o, h1, hb _ _ (by show 8 < B; omega) h2, fun k hk => by
      obtain ⟨x, m, e, c, d⟩ := h3 k hk
      exact ⟨x, m, e, hb _ _ h1 c, d⟩⟩
  · intro k hk
    obtain ⟨n, c⟩ := h.p10 k hk
    exact ⟨n, hb _ _ (by show 9 < B; omega) c⟩
  · intro g hg
    obtain ⟨c, t, e⟩ := h.blk g hg
    exact ⟨c, t, hk _ _ (by omega) e⟩
  · obtain ⟨v, c⟩ := h.errS
    exact ⟨v, hb _ _ (by show 1 < B; omega) c⟩
  · obtain ⟨v, c⟩ := h.errR
    exact ⟨v, hb _ _ (by show 2 < B; omega) c⟩

theorem Tab.only {B b : Nat} {w w' : World} (h : Tab B w) (ho : Only b w w') (hB : B ≤ b) : Tab B w' :=
  h.of (fun a v ha hv => ho.cell hv (by omega)) (fun g o hg ho' => (ho.block g (Array.getElem?_eq_some_iff.1 ho').1 (by omega)).trans ho')
theorem Tab.below {B : Nat} {w w' : World} (h : Tab B w) (ho : Below B w w') : Tab B w' :=
  h.of (fun a v ha hv => (ho.cell ha).trans hv) (fun g o hg ho' => (ho.block g hg).trans ho')
theorem Tab.drewN {B : Nat} {w : World} (h : Tab B w) (n : Nat) : Tab B (w.drewN n) := h.of (fun _ _ _ hv => hv) (fun _ _ _ ho => ho)

/-- Is the number of the first nd digits, as a fraction, below the cheat's text? -/
def lessB (d : Nat → Nat) (nd : Nat) (e : Nat → Nat) (L : Nat) : Bool := decide (pre d nd * 10 ^ L < pre e L * 10 ^ nd)

theorem less_is {d e : Nat → Nat} {nd L : Nat} {r : Bool} (h : Less d nd e L r) : r = lessB d nd e L := by
  unfold lessB
  cases r with
  | true => exact (decide_eq_true (h.1 rfl)).symm
  | false => exact (decide_eq_false (Nat.not_lt.2 (h.2 rfl))).symm
theorem lessB_less (d e : Nat → Nat) (nd L : Nat) : Less d nd e L (lessB d nd e L) := by
  unfold lessB
  refine ⟨fun h => of_decide_eq_true h, fun h => Nat.not_lt.1 (of_decide_eq_false h)⟩

def dOf (c : Nat → Nat) : Nat → Nat := fun i => c i - 48

theorem less_quiet (w : World) (q b nd k : Nat) (c : Nat → Nat) (hnd : nd ≤ 800) (h1 : 1 ≤ k) (h2 : k ≤ 60) (hc : ∀ i, i < nd → w.cell? ⟨b, i, none⟩ = some (.int .u8 (c i))) (hd : DigTo c nd) :
    Calls Tryz.prog 117 #[.slice (some ⟨b, 0, none⟩) nd 800, .string ⟨(cheatL k).toArray⟩] (w.drewN q) fun x w' => x = .returned (.bool (lessB (dOf c) nd (cheatE k) (cheatL k).length)) ∧ ∃ m, w' = (w.drewN q).drewN m := by
  have hC := cheat_is h1 h2
  refine (less_any (w.drewN q) b nd (cheatL k).length c (dOf c) (cheatE k) ⟨(cheatL k).toArray⟩ hnd (by simp [ByteArray.size]) (cheat_len h1 h2).1 hC.pos hc (fun i hi => ?_) (fun i hi => ?_) hC.last).mono ?_
  · have := hd i hi
    unfold dOf; omega
  · have hi' : i < (cheatL k).length := by simpa [ByteArray.size] using hi
    have := cheat_byte h1 h2 hi'
    rw [List.getD_eq_getElem?_getD, List.getElem?_eq_getElem hi', Option.getD_some] at this
    exact this
  · rintro x w' ⟨r, rfl, hr, m, rfl⟩
    exact ⟨by rw [less_is hr], m, rfl⟩

/-- What a shift leaves: a decimal that begins with a digit above nought. -/
def DecG (w : World) (b : Nat) (c : Nat → Nat) (nd : Nat) (dp : Int) (ng tr : Bool) : Prop := Dec w b c nd dp ng tr ∧ 1 ≤ nd ∧ nd ≤ 800 ∧ DigTo c nd ∧ 49 ≤ c 0
end Go.Proofs.YtonnmongipaheaaGreatDoor
