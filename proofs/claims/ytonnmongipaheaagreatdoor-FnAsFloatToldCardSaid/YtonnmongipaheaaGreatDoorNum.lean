/- Plain arithmetic of decimal digits: what the library's multiprecision decimals lean on. The table of cheats, as the form's constant has it. The library's multiprecision decimal in memory. internal/strconv.prefixIsLessThan and trim. -/
import GoSem.PinnedTables
import Derived.KernelRfl
import Derived.Test.YtonnmongipaheaaGreatDoorRows
import Derived.WalkKit
import Derived.ProofKit
import Derived.BigQuiet
import Derived.Deep.QuietTactic
import Derived.Deep.LoopGhost
namespace Go.Proofs.YtonnmongipaheaaGreatDoor

/-- The number whose digits are the first n of d. -/
def pre (d : Nat → Nat) : Nat → Nat
  | 0 => 0
  | n + 1 => pre d n * 10 + d n

theorem pre_congr {d e : Nat → Nat} : ∀ {n : Nat}, (∀ i, i < n → d i = e i) → pre d n = pre e n
  | 0, _ => rfl
  | n + 1, h => by simp only [pre]; rw [pre_congr (fun i hi => h i (by omega)), h n (by omega)]

theorem pre_bounds {d : Nat → Nat} {i m : Nat} (h : ∀ j, i ≤ j → j < i + m → d j ≤ 9) : pre d i * 10 ^ m ≤ pre d (i + m) ∧ pre d (i + m) < (pre d i + 1) * 10 ^ m := by
  induction m with
  | zero => simp
  | succ m ih =>
    obtain ⟨h1, h2⟩ := ih (fun j a b => h j a (by omega))
    have h3 := h (i + m) (by omega) (by omega)
    have e1 : pre d i * 10 ^ (m + 1) = pre d i * 10 ^ m * 10 := by rw [Nat.pow_succ, Nat.mul_assoc]
    have e2 : (pre d i + 1) * 10 ^ (m + 1) = (pre d i + 1) * 10 ^ m * 10 := by rw [Nat.pow_succ, Nat.mul_assoc]
    have e3 : pre d (i + (m + 1)) = pre d (i + m) * 10 + d (i + m) := rfl
    rw [e1, e2, e3]
    omega

theorem pre_pos {d : Nat → Nat} {n : Nat} (h0 : 1 ≤ d 0) (hn : 1 ≤ n) (h : ∀ j, j < n → d j ≤ 9) : 10 ^ (n - 1) ≤ pre d n ∧ d 0 * 10 ^ (n - 1) ≤ pre d n := by
  have e : n = 1 + (n - 1) := by omega
  have h1 := (pre_bounds (d := d) (i := 1) (m := n - 1) (fun j _ b => h j (by omega))).1
  rw [← e] at h1
  have e1 : pre d 1 = d 0 := by simp [pre]
  rw [e1] at h1
  refine ⟨Nat.le_trans ?_ h1, h1⟩
  exact Nat.le_mul_of_pos_left _ h0

/-- The number whose digits are the last m of the first n. -/
def suf (d : Nat → Nat) (n : Nat) : Nat → Nat
  | 0 => 0
  | m + 1 => d (n - 1 - m) * 10 ^ m + suf d n m

theorem pre_suf (d : Nat → Nat) (n : Nat) : ∀ m, m ≤ n → pre d (n - m) * 10 ^ m + suf d n m = pre d n
  | 0, _ => by simp [suf]
  | m + 1, h => by
    have ih := pre_suf d n m (by omega)
    have e : n - m = (n - (m + 1)) + 1 := by omega
    rw [e] at ih
    have e2 : n - 1 - m = n - (m + 1) := by omega
    simp only [pre, suf] at ih ⊢
    rw [e2, Nat.pow_succ]
    rw [Nat.add_mul, Nat.mul_assoc, Nat.mul_comm 10 (10 ^ m)] at ih
    omega

theorem suf_all (d : Nat → Nat) (n : Nat) : suf d n n = pre d n := by
  have := pre_suf d n n (Nat.le_refl _)
  simpa [pre] using this

/-- A carry: what m digits, shifted by k, hand on. -/
def Carry (d : Nat → Nat) (n k m c : Nat) : Prop := ∃ low, low < 10 ^ m ∧ suf d n m * 2 ^ k = c * 10 ^ m + low

theorem Carry.zero (d : Nat → Nat) (n k : Nat) : Carry d n k 0 0 := ⟨0, by simp, by simp [suf]⟩

theorem Carry.step {d : Nat → Nat} {n k m c : Nat} (h : Carry d n k m c) : Carry d n k (m + 1) ((d (n - 1 - m) * 2 ^ k + c) / 10) := by
  obtain ⟨low, h1, h2⟩ := h
  refine ⟨(d (n - 1 - m) * 2 ^ k + c) % 10 * 10 ^ m + low, ?_, ?_⟩
  · rw [Nat.pow_succ]
    have h3 : (d (n - 1 - m) * 2 ^ k + c) % 10 * 10 ^ m ≤ 9 * 10 ^ m := Nat.mul_le_mul_right _ (by omega)
    omega
  · simp only [suf]
    rw [Nat.add_mul, h2, Nat.pow_succ]
    have e : d (n - 1 - m) * 10 ^ m * 2 ^ k = d (n - 1 - m) * 2 ^ k * 10 ^ m := by rw [Nat.mul_right_comm]
    rw [e]
    have e2 := Nat.div_add_mod (d (n - 1 - m) * 2 ^ k + c) 10
    have e3 : d (n - 1 - m) * 2 ^ k * 10 ^ m + c * 10 ^ m = (d (n - 1 - m) * 2 ^ k + c) * 10 ^ m := (Nat.add_mul _ _ _).symm
    have e4 : (d (n - 1 - m) * 2 ^ k + c) / 10 * (10 ^ m * 10) + (d (n - 1 - m) * 2 ^ k + c) % 10 * 10 ^ m = (d (n - 1 - m) * 2 ^ k + c) * 10 ^ m := by
      have e5 : (d (n - 1 - m) * 2 ^ k + c) / 10 * (10 ^ m * 10) = (d (n - 1 - m) * 2 ^ k + c) / 10 * 10 * 10 ^ m := by
        rw [Nat.mul_assoc, Nat.mul_comm (10 ^ m) 10]
      rw [e5, ← Nat.add_mul]
      congr 1
      omega
    omega

theorem suf_lt {d : Nat → Nat} {n : Nat} (h : ∀ j, j < n → d j ≤ 9) : ∀ m, m ≤ n → suf d n m < 10 ^ m
  | 0, _ => by simp [suf]
  | m + 1, hm => by
    have ih := suf_lt h m (by omega)
    simp only [suf]
    rw [Nat.pow_succ]
    have h1 : d (n - 1 - m) * 10 ^ m ≤ 9 * 10 ^ m := Nat.mul_le_mul_right _ (h _ (by omega))
    omega

theorem Carry.lt {d : Nat → Nat} {n k m c : Nat} (h : Carry d n k m c) (hd : ∀ j, j < n → d j ≤ 9) (hm : m ≤ n) : c < 2 ^ k := by
  obtain ⟨low, h1, h2⟩ := h
  have h3 := suf_lt hd m hm
  have h4 : suf d n m * 2 ^ k < 10 ^ m * 2 ^ k := Nat.mul_lt_mul_of_pos_right h3 (Nat.two_pow_pos k)
  have h5 : c * 10 ^ m < 2 ^ k * 10 ^ m := by rw [Nat.mul_comm (2 ^ k)]; omega
  exact Nat.lt_of_mul_lt_mul_right h5

/-- How the first nd digits stand to the text of a cheat. -/
def Less (d : Nat → Nat) (nd : Nat) (e : Nat → Nat) (L : Nat) (b : Bool) : Prop :=
  (b = true → pre d nd * 10 ^ L < pre e L * 10 ^ nd) ∧ (b = false → pre e L * 10 ^ nd ≤ pre d nd * 10 ^ L)

theorem less_end {d e : Nat → Nat} {nd L : Nat} (hd : ∀ j, j < nd → d j ≤ 9) (hL : L ≤ nd) (h : ∀ i, i < L → d i = e i) : Less d nd e L false := by
  refine ⟨fun h => (by cases h), fun _ => ?_⟩
  have e1 : nd = L + (nd - L) := by omega
  have h1 := (pre_bounds (d := d) (i := L) (m := nd - L) (fun j _ b => hd j (by omega))).1
  rw [← e1, pre_congr h] at h1
  have e2 : (10 : Nat) ^ nd = 10 ^ (nd - L) * 10 ^ L := by rw [← Nat.pow_add]; congr 1; omega
  rw [e2, ← Nat.mul_assoc]
  exact Nat.mul_le_mul_right _ h1

theorem less_short {d e : Nat → Nat} {nd L : Nat} (he : ∀ j, j < L → e j ≤ 9) (hlast : 1 ≤ e (L - 1)) (hL : nd < L) (h : ∀ i, i < nd → d i = e i) : Less d nd e L true := by
  refine ⟨fun _ => ?_, fun h => (by cases h)⟩
  have e1 : L - 1 = nd + (L - 1 - nd) := by omega
  have h1 := (pre_bounds (d := e) (i := nd) (m := L - 1 - nd) (fun j _ b => he j (by omega))).1
  rw [← e1] at h1
  have e3 : pre e L = pre e (L - 1) * 10 + e (L - 1) := by
    have : L = (L - 1) + 1 := by omega
    rw [this]; rfl
  have e2 : (10 : Nat) ^ L = 10 ^ (L - 1 - nd) * 10 * 10 ^ nd := by rw [← Nat.pow_succ, ← Nat.pow_add]; congr 1; omega
  rw [pre_congr h, e2, ← Nat.mul_assoc, ← Nat.mul_assoc]
  refine Nat.mul_lt_mul_of_pos_right ?_ (Nat.pow_pos (by omega))
  omega

theorem less_at {d e : Nat → Nat} {nd L i : Nat} (hd : ∀ j, j < nd → d j ≤ 9) (he : ∀ j, j < L → e j ≤ 9) (h1 : i < nd) (h2 : i < L) (h : ∀ j, j < i → d j = e j) (hne : d i ≠ e i) : Less d nd e L (decide (d i < e i)) := by
  have p1 : pre d (i + 1) = pre e i * 10 + d i := by simp only [pre]; rw [pre_congr h]
  have p2 : pre e (i + 1) = pre e i * 10 + e i := rfl
  have b1 := pre_bounds (d := d) (i := i + 1) (m := nd - (i + 1)) (fun j _ b => hd j (by omega))
  have b2 := pre_bounds (d := e) (i := i + 1) (m := L - (i + 1)) (fun j _ b => he j (by omega))
  rw [show i + 1 + (nd - (i + 1)) = nd by omega, p1] at b1
  rw [show i + 1 + (L - (i + 1)) = L by omega, p2] at b2
  have e1 : (10 : Nat) ^ (nd - (i + 1)) * 10 ^ L = 10 ^ (L - (i + 1)) * 10 ^ nd := by rw [← Nat.pow_add, ← Nat.pow_add]; congr 1; omega
  refine ⟨fun hb => ?_, fun hb => ?_⟩
  · have hlt : d i < e i := by simpa using hb
    have s1 : pre d nd < (pre e i * 10 + e i) * 10 ^ (nd - (i + 1)) := Nat.lt_of_lt_of_le b1.2 (Nat.mul_le_mul_right _ (by omega))
    calc pre d nd * 10 ^ L < (pre e i * 10 + e i) * 10 ^ (nd - (i + 1)) * 10 ^ L := Nat.mul_lt_mul_of_pos_right s1 (Nat.pow_pos (by omega))
      _ = (pre e i * 10 + e i) * 10 ^ (L - (i + 1)) * 10 ^ nd := by rw [Nat.mul_assoc, e1, ← Nat.mul_assoc]
      _ ≤ pre e L * 10 ^ nd := Nat.mul_le_mul_right _ b2.1
  · have hlt : e i < d i := by
      have : ¬ d i < e i := by simpa using hb
      omega
    have s1 : pre e L < (pre e i * 10 + d i) * 10 ^ (L - (i + 1)) := Nat.lt_of_lt_of_le b2.2 (Nat.mul_le_mul_right _ (by omega))
    refine Nat.le_of_lt ?_
    calc pre e L * 10 ^ nd < (pre e i * 10 + d i) * 10 ^ (L - (i + 1)) * 10 ^ nd := Nat.mul_lt_mul_of_pos_right s1 (Nat.pow_pos (by omega))
      _ = (pre e i * 10 + d i) * 10 ^ (nd - (i + 1)) * 10 ^ L := by rw [Nat.mul_assoc, ← e1, ← Nat.mul_assoc]
      _ ≤ pre d nd * 10 ^ L := Nat.mul_le_mul_right _ b1.1

/-- What a cheat's row is: for a shift by k, delta D and a text of L digits e. -/
structure Cheat (k D L : Nat) (e : Nat → Nat) : Prop where
  dig : ∀ j, j < L → e j ≤ 9
  last : 1 ≤ e (L - 1)
  pos : 1 ≤ L
  val : pre e L = 5 ^ k
  sum : L + D = k + 1
  lo : 10 ^ (D - 1) ≤ 2 ^ k
  hi : 2 ^ k ≤ 10 ^ D
  one : 1 ≤ D
  k1 : 1 ≤ k

/-- A number has just w digits (none: it is nought). -/
def Digits (n w : Nat) : Prop := n < 10 ^ w ∧ (1 ≤ w → 10 ^ (w - 1) ≤ n)

theorem Digits.zero {n : Nat} (h : Digits n 0) : n = 0 := by have := h.1; simpa using this
theorem Digits.pos {n w : Nat} (h : Digits n w) (hn : 1 ≤ n) : 1 ≤ w := by
  rcases w with _ | w
  · have := h.zero; omega
  · omega
theorem Digits.step {n w : Nat} (h : Digits n w) (hn : 1 ≤ n) : Digits (n / 10) (w - 1) := by
  obtain ⟨w, rfl⟩ : ∃ v, w = v + 1 := ⟨w - 1, by have := h.pos hn; omega⟩
  obtain ⟨h1, h2⟩ := h
  have h2 := h2 (by omega)
  simp only [Nat.add_sub_cancel] at h2 ⊢
  rw [Nat.pow_succ] at h1
  refine ⟨by omega, fun hw => ?_⟩
  obtain ⟨v, rfl⟩ : ∃ v, w = v + 1 := ⟨w - 1, by omega⟩
  rw [Nat.pow_succ] at h2
  simp only [Nat.add_sub_cancel]
  omega

/-- The carry out of all digits has just as many digits as the cheat says. -/
theorem carry_digits {d e : Nat → Nat} {nd k D L c : Nat} {b : Bool} (hC : Cheat k D L e) (hd : ∀ j, j < nd → d j ≤ 9) (h0 : 1 ≤ d 0) (hn : 1 ≤ nd) (hb : Less d nd e L b) (h : Carry d nd k nd c) : Digits c (if b then D - 1 else D) := by
  obtain ⟨low, h1, h2⟩ := h
  rw [suf_all] at h2
  have hk : (10 : Nat) ^ k = 5 ^ k * 2 ^ k := by rw [← Nat.mul_pow]
  have hDL : (10 : Nat) ^ (D - 1) * 10 ^ L = 10 ^ k := by rw [← Nat.pow_add]; congr 1; have := hC.sum; have := hC.one; omega
  have pL : 0 < (10 : Nat) ^ L := Nat.pow_pos (by omega)
  have pn : 0 < (10 : Nat) ^ nd := Nat.pow_pos (by omega)
  have p2 : 0 < (2 : Nat) ^ k := Nat.two_pow_pos k
  cases b with
  | true =>
    have hlt := hb.1 rfl
    rw [hC.val] at hlt
    simp only [if_true]
    refine ⟨?_, fun hw => ?_⟩
    · have s1 : pre d nd * 2 ^ k * 10 ^ L < 10 ^ (D - 1) * 10 ^ nd * 10 ^ L := by
        have : pre d nd * 10 ^ L * 2 ^ k < 5 ^ k * 10 ^ nd * 2 ^ k := Nat.mul_lt_mul_of_pos_right hlt p2
        rw [Nat.mul_right_comm, Nat.mul_right_comm (10 ^ (D - 1)), hDL, hk]
        rw [Nat.mul_right_comm (5 ^ k)] at this
        omega
      have s2 := Nat.lt_of_mul_lt_mul_right s1
      rw [h2] at s2
      exact Nat.lt_of_mul_lt_mul_right (Nat.lt_of_le_of_lt (Nat.le_add_right _ _) s2)
    · have s1 := (pre_pos h0 hn hd).1
      have s2 : 10 ^ (nd - 1) * 10 ^ (D - 1) ≤ pre d nd * 2 ^ k := Nat.mul_le_mul s1 hC.lo
      have e1 : (10 : Nat) ^ (nd - 1) * 10 ^ (D - 1) = 10 ^ (D - 1 - 1) * 10 ^ nd := by rw [← Nat.pow_add, ← Nat.pow_add]; congr 1; omega
      rw [e1, h2] at s2
      have s3 : 10 ^ (D - 1 - 1) * 10 ^ nd < (c + 1) * 10 ^ nd := by rw [Nat.add_mul]; omega
      have := Nat.lt_of_mul_lt_mul_right s3
      omega
  | false =>
    have hle := hb.2 rfl
    rw [hC.val] at hle
    simp only [Bool.false_eq_true, if_false]
    refine ⟨?_, fun _ => ?_⟩
    · have hc : Carry d nd k nd c := ⟨low, h1, by rw [suf_all]; exact h2⟩
      exact Nat.lt_of_lt_of_le (hc.lt hd (Nat.le_refl _)) hC.hi
    · have s1 : 10 ^ (D - 1) * 10 ^ nd * 10 ^ L ≤ pre d nd * 2 ^ k * 10 ^ L := by
        have : 5 ^ k * 10 ^ nd * 2 ^ k ≤ pre d nd * 10 ^ L * 2 ^ k := Nat.mul_le_mul_right _ hle
        rw [Nat.mul_right_comm (pre d nd), Nat.mul_right_comm (10 ^ (D - 1)), hDL, hk]
        rw [Nat.mul_right_comm (5 ^ k)] at this
        omega
      have s2 := Nat.le_of_mul_le_mul_right s1 pL
      rw [h2] at s2
      have s3 : 10 ^ (D - 1) * 10 ^ nd < (c + 1) * 10 ^ nd := by rw [Nat.add_mul]; omega
      have := Nat.lt_of_mul_lt_mul_right s3
      omega
end Go.Proofs.YtonnmongipaheaaGreatDoor

namespace Go.Proofs.YtonnmongipaheaaGreatDoor

def cheatD (k : Nat) : Nat := (Pinned.cheatRows.getD k (0, [])).1
def cheatL (k : Nat) : List UInt8 := (Pinned.cheatRows.getD k (0, [])).2

def preL (a : Nat) (l : List UInt8) : Nat := l.foldl (fun a x => a * 10 + (x.toNat - 48)) a

def digAt (l : List UInt8) (i : Nat) : Nat := (l.getD i 0).toNat - 48

theorem preL_eq (l r : List UInt8) : ∀ (p : List UInt8), l = p ++ r → preL (pre (digAt l) p.length) r = pre (digAt l) l.length := by
  induction r with
  | nil => intro p h; rw [List.append_nil] at h; subst h; rfl
  | cons x r ih =>
    intro p h
    have e : digAt l p.length = x.toNat - 48 := by rw [h]; simp [digAt]
    have := ih (p ++ [x]) (by simp [h])
    rw [← this]
    simp only [preL, List.foldl_cons, List.length_append, List.length_singleton, pre, e]

def cheatE (k : Nat) : Nat → Nat := digAt (cheatL k)

def cheatOk (k : Nat) : Bool :=
  (cheatL k).all (fun x => 48 ≤ x.toNat && x.toNat ≤ 57) && decide (49 ≤ ((cheatL k).getD ((cheatL k).length - 1) 0).toNat) && decide (1 ≤ (cheatL k).length) && (preL 0 (cheatL k) == 5 ^ k) && ((cheatL k).length + cheatD k == k + 1) &&
    decide (10 ^ (cheatD k - 1) ≤ 2 ^ k) && decide (2 ^ k ≤ 10 ^ cheatD k) && decide (1 ≤ cheatD k) && decide ((cheatL k).length ≤ 60)

theorem cheats_ok : ((List.range 60).all fun k => cheatOk (k + 1)) = true := by kernel_rfl

theorem cheat_ok {k : Nat} (h1 : 1 ≤ k) (h2 : k ≤ 60) : cheatOk k = true := by
  have := List.all_eq_true.1 cheats_ok (k - 1) (List.mem_range.2 (by omega))
  rwa [show k - 1 + 1 = k by omega] at this

theorem cheat_is {k : Nat} (h1 : 1 ≤ k) (h2 : k ≤ 60) : Cheat k (cheatD k) (cheatL k).length (cheatE k) := by
  have h := cheat_ok h1 h2
  simp only [cheatOk, Bool.and_eq_true, decide_eq_true_eq, beq_iff_eq] at h
  obtain ⟨⟨⟨⟨⟨⟨⟨⟨a1, a2⟩, a3⟩, a4⟩, a5⟩, a6⟩, a7⟩, a8⟩, a9⟩ := h
  refine ⟨fun j hj => ?_, ?_, a3, ?_, a5, a6, a7, a8, h1⟩
  · have := List.all_eq_true.1 a1 (cheatL k)[j] (List.getElem_mem hj)
    simp only [Bool.and_eq_true, decide_eq_true_eq] at this
    unfold cheatE digAt
    rw [List.getD_eq_getElem?_getD, List.getElem?_eq_getElem hj]
    simp only [Option.getD_some]
    omega
  · unfold cheatE digAt; omega
  · have := preL_eq (cheatL k) (cheatL k) [] rfl
    simp only [List.length_nil, pre] at this
    unfold cheatE
    rw [← this, a4]

theorem cheat_byte {k : Nat} (h1 : 1 ≤ k) (h2 : k ≤ 60) {j : Nat} (hj : j < (cheatL k).length) : ((cheatL k).getD j 0).toNat = 48 + cheatE k j ∧ cheatE k j ≤ 9 := by
  have h := cheat_ok h1 h2
  simp only [cheatOk, Bool.and_eq_true, decide_eq_true_eq, beq_iff_eq] at h
  obtain ⟨⟨⟨⟨⟨⟨⟨⟨a1, a2⟩, a3⟩, a4⟩, a5⟩, a6⟩, a7⟩, a8⟩, a9⟩ := h
  have := List.all_eq_true.1 a1 (cheatL k)[j] (List.getElem_mem hj)
  simp only [Bool.and_eq_true, decide_eq_true_eq] at this
  unfold cheatE digAt
  rw [List.getD_eq_getElem?_getD, List.getElem?_eq_getElem hj]
  simp only [Option.getD_some]
  omega

theorem cheat_len {k : Nat} (h1 : 1 ≤ k) (h2 : k ≤ 60) : (cheatL k).length ≤ 60 ∧ cheatD k ≤ 60 := by
  have h := cheat_ok h1 h2
  simp only [cheatOk, Bool.and_eq_true, decide_eq_true_eq, beq_iff_eq] at h
  obtain ⟨⟨⟨⟨⟨⟨⟨⟨a1, a2⟩, a3⟩, a4⟩, a5⟩, a6⟩, a7⟩, a8⟩, a9⟩ := h
  omega
end Go.Proofs.YtonnmongipaheaaGreatDoor

namespace Go.Proofs.YtonnmongipaheaaGreatDoor
open Go.RowKit
set_option linter.unusedVariables false

theorem hide {p : Prop} (h : p) : Hid p := h

/-- Block b of memory holds a decimal: the bytes c, nd of them used, the point at dp. -/
def Dec (w : World) (b : Nat) (c : Nat → Nat) (nd dp : Int) (ng tr : Bool) : Prop :=
  ∃ a : Array Value, w.heap[b]? = some (.cells a 128) ∧ a.size = 804 ∧ (∀ i, i < 800 → a[i]? = some (.int .u8 (c i))) ∧ a[800]? = some (.int .i64 nd) ∧ a[801]? = some (.int .i64 dp) ∧ a[802]? = some (.bool ng) ∧ a[803]? = some (.bool tr)

section
variable {w : World} {b : Nat} {c : Nat → Nat} {nd dp : Int} {ng tr : Bool}

theorem Dec.cell_at (h : Dec w b c nd dp ng tr) (i : Nat) : ∃ a : Array Value, w.cell? ⟨b, i, none⟩ = a[i]? ∧ (∀ i, i < 800 → a[i]? = some (.int .u8 (c i))) ∧ a[800]? = some (.int .i64 nd) ∧ a[801]? = some (.int .i64 dp) ∧ a[802]? = some (.bool ng) ∧ a[803]? = some (.bool tr) := by
  obtain ⟨a, h1, h2, h3⟩ := h
  refine ⟨a, ?_, h3⟩
  simp [World.cell?, h1]

theorem Dec.dig (h : Dec w b c nd dp ng tr) {i : Nat} (hi : i < 800) : w.cell? ⟨b, i, none⟩ = some (.int .u8 (c i)) := by
  obtain ⟨a, h1, h2, _⟩ := h.cell_at i
  rw [h1, h2 i hi]
theorem Dec.nd_ (h : Dec w b c nd dp ng tr) : w.cell? ⟨b, 800, none⟩ = some (.int .i64 nd) := by
  obtain ⟨a, h1, _, h2, _⟩ := h.cell_at 800
  rw [h1, h2]
theorem Dec.dp_ (h : Dec w b c nd dp ng tr) : w.cell? ⟨b, 801, none⟩ = some (.int .i64 dp) := by
  obtain ⟨a, h1, _, _, h2, _⟩ := h.cell_at 801
  rw [h1, h2]
theorem Dec.ng_ (h : Dec w b c nd dp ng tr) : w.cell? ⟨b, 802, none⟩ = some (.bool ng) := by
  obtain ⟨a, h1, _, _, _, h2, _⟩ := h.cell_at 802
  rw [h1, h2]
theorem Dec.tr_ (h : Dec w b c nd dp ng tr) : w.cell? ⟨b, 803, none⟩ = some (.bool tr) := by
  obtain ⟨a, h1, _, _, _, _, h2⟩ := h.cell_at 803
  rw [h1, h2]
theorem Dec.free (h : Dec w b c nd dp ng tr) (i : Nat) : w.frozen? ⟨b, i, none⟩ = false := by
  obtain ⟨a, h1, _⟩ := h
  simp [World.frozen?, h1]
theorem Dec.lt (h : Dec w b c nd dp ng tr) : b < w.heap.size := by
  obtain ⟨a, h1, _⟩ := h
  exact Array.getElem?_eq_some_iff.1 h1 |>.1

theorem Dec.set_any (h : Dec w b c nd dp ng tr) (i : Nat) (v : Value) {c' : Nat → Nat} {nd' dp' : Int} {ng' tr' : Bool}
    (hc : ∀ j, j < 800 → (if j = i then v else .int .u8 (c j)) = .int .u8 (c' j)) (h0 : (if 800 = i then v else .int .i64 nd) = .int .i64 nd') (h1 : (if 801 = i then v else .int .i64 dp) = .int .i64 dp')
    (h2 : (if 802 = i then v else .bool ng) = .bool ng') (h3 : (if 803 = i then v else .bool tr) = .bool tr') : Dec (w.setCell ⟨b, i, none⟩ v) b c' nd' dp' ng' tr' := by
  obtain ⟨a, g1, g2, g3, g4, g5, g6, g7⟩ := h
  refine ⟨a.setIfInBounds i v, ?_, by simpa using g2, fun j hj => ?_, ?_, ?_, ?_, ?_⟩
  · simp [World.setCell, Array.getElem?_modify, g1]
  · rw [Array.getElem?_setIfInBounds, ← hc j hj]
    split
    · rename_i e; subst e; rw [if_pos (by omega), if_pos rfl]
    · rename_i e; rw [g3 j hj, if_neg (fun e' => e e'.symm)]
  · rw [Array.getElem?_setIfInBounds, ← h0]
    split
    · rename_i e; subst e; rw [if_pos (by omega), if_pos rfl]
    · rename_i e; rw [g4, if_neg (fun e' => e e'.symm)]
  · rw [Array.getElem?_setIfInBounds, ← h1]
    split
    · rename_i e; subst e; rw [if_pos (by omega), if_pos rfl]
    · rename_i e; rw [g5, if_neg (fun e' => e e'.symm)]
  · rw [Array.getElem?_setIfInBounds, ← h2]
    split
    · rename_i e; subst e; rw [if_pos (by omega), if_pos rfl]
    · rename_i e; rw [g6, if_neg (fun e' => e e'.symm)]
  · rw [Array.getElem?_setIfInBounds, ← h3]
    split
    · rename_i e; subst e; rw [if_pos (by omega), if_pos rfl]
    · rename_i e; rw [g7, if_neg (fun e' => e e'.symm)]

/-- One byte more. -/
def upd (c : Nat → Nat) (i x : Nat) : Nat → Nat := fun j => if j = i then x else c j

theorem Dec.set_dig (h : Dec w b c nd dp ng tr) {i : Nat} (hi : i < 800) (x : Nat) : Dec (w.setCell ⟨b, i, none⟩ (.int .u8 x)) b (upd c i x) nd dp ng tr :=
  h.set_any i _ (fun j hj => by unfold upd; split <;> rfl) (by rw [if_neg (by omega)]) (by rw [if_neg (by omega)]) (by rw [if_neg (by omega)]) (by rw [if_neg (by omega)])
theorem Dec.set_nd (h : Dec w b c nd dp ng tr) (x : Int) : Dec (w.setCell ⟨b, 800, none⟩ (.int .i64 x)) b c x dp ng tr :=
  h.set_any 800 _ (fun j hj => by rw [if_neg (by omega)]) (by simp) (by simp) (by simp) (by simp)
theorem Dec.set_dp (h : Dec w b c nd dp ng tr) (x : Int) : Dec (w.setCell ⟨b, 801, none⟩ (.int .i64 x)) b c nd x ng tr :=
  h.set_any 801 _ (fun j hj => by rw [if_neg (by omega)]) (by simp) (by simp) (by simp) (by simp)
theorem Dec.set_ng (h : Dec w b c nd dp ng tr) (x : Bool) : Dec (w.setCell ⟨b, 802, none⟩ (.bool x)) b c nd dp x tr :=
  h.set_any 802 _ (fun j hj => by rw [if_neg (by omega)]) (by simp) (by simp) (by simp) (by simp)
theorem Dec.set_tr (h : Dec w b c nd dp ng tr) (x : Bool) : Dec (w.setCell ⟨b, 803, none⟩ (.bool x)) b c nd dp ng x :=
  h.set_any 803 _ (fun j hj => by rw [if_neg (by omega)]) (by simp) (by simp) (by simp) (by simp)
end

/-- Of what was there block b alone may have turned. -/
structure Only (b : Nat) (w w' : World) : Prop where
  os : w'.os = w.os
  tape : w'.tape = w.tape
  output : w'.output = w.output
  size : w.heap.size ≤ w'.heap.size
  block : ∀ k, k < w.heap.size → k ≠ b → w'.heap[k]? = w.heap[k]?

theorem Only.refl (b : Nat) (w : World) : Only b w w := ⟨rfl, rfl, rfl, Nat.le_refl _, fun _ _ _ => rfl⟩
theorem Only.trans {b : Nat} {a w w' : World} (h : Only b a w) (k : Only b w w') : Only b a w' :=
  ⟨k.os.trans h.os, k.tape.trans h.tape, k.output.trans h.output, Nat.le_trans h.size k.size, fun i hi hne => (k.block i (Nat.lt_of_lt_of_le hi h.size) hne).trans (h.block i hi hne)⟩
theorem Only.set {b : Nat} {a w : World} (h : Only b a w) (i : Nat) (v : Value) : Only b a (w.setCell ⟨b, i, none⟩ v) :=
  h.trans ⟨rfl, rfl, rfl, by simp [World.setCell], fun k _ hk => Below.heap_setCell _ _ _ _ hk⟩
theorem Only.drewN {b : Nat} {a w : World} (h : Only b a w) (n : Nat) : Only b a (w.drewN n) := ⟨h.os, h.tape, h.output, h.size, h.block⟩
theorem Only.below {b B : Nat} {w w' : World} (h : Only b w w') (hB : B ≤ b) (hs : B ≤ w.heap.size) : Below B w w' :=
  ⟨h.os, h.tape, h.output, h.size, fun k hk => h.block k (by omega) (by omega)⟩
theorem Only.cell {b : Nat} {w w' : World} (h : Only b w w') {p : Addr} {v : Value} (hv : w.cell? p = some v) (hp : p.block ≠ b) : w'.cell? p = some v :=
  (World.cell?_of_block (w := w) (h.block p.block (World.block_lt_of_cell? w _ hv) hp)).trans hv
theorem Dec.drewN {w : World} {b : Nat} {c : Nat → Nat} {nd dp : Int} {ng tr : Bool} (h : Dec w b c nd dp ng tr) (n : Nat) : Dec (w.drewN n) b c nd dp ng tr := h
theorem Dec.congr {w : World} {b : Nat} {c : Nat → Nat} {nd nd' dp dp' : Int} {ng tr : Bool} (h : Dec w b c nd dp ng tr) (e1 : nd = nd') (e2 : dp = dp') : Dec w b c nd' dp' ng tr := by subst e1 e2; exact h
end Go.Proofs.YtonnmongipaheaaGreatDoor

namespace Go.Proofs.YtonnmongipaheaaGreatDoor
open Go.RowKit
set_option linter.unusedVariables false
set_option linter.unusedSimpArgs false

def LessPost (d : Nat → Nat) (nd : Nat) (e : Nat → Nat) (L : Nat) (w : World) (x : Ending) (w' : World) : Prop :=
  ∃ r : Bool, x = .returned (.bool r) ∧ Less d nd e L r ∧ ∃ q, w' = w.drewN q

set_option maxRecDepth 100000 in
set_option maxHeartbeats 2000000 in
theorem less_any (w : World) (b nd L : Nat) (c d e : Nat → Nat) (s : ByteArray) (hnd : nd ≤ 800) (hs : s.size = L) (hL : L ≤ 60) (h1L : 1 ≤ L)
    (hc : ∀ i, i < nd → w.cell? ⟨b, i, none⟩ = some (.int .u8 (c i))) (hd : ∀ i, i < nd → c i = 48 + d i ∧ d i ≤ 9) (he : ∀ i (h : i < s.size), (s[i]'h).toNat = 48 + e i ∧ e i ≤ 9) (hl : 1 ≤ e (L - 1)) :
    Calls Tryz.prog 117 #[.slice (some ⟨b, 0, none⟩) nd 800, .string s] w (LessPost d nd e L w) := by
  have HC := hide hc
  have HD := hide hd
  have HE := hide he
  have HL := hide hl
  have HS := hide hs
  have hs2 : (s.size : Int) = (L : Int) := by omega
  clear hc hd he hl
  go_enter Tryz.func117, Tryz.ntmps117
  go_wp2_with (fail)
  go_loopw [5] (fun k wr => ∃ i : Nat, k = .int .i64 i ∧ i ≤ nd ∧ i ≤ L ∧ Hid (∀ j, j < i → d j = e j) ∧ ∃ q, wr = w.drewN q) (fun k _ => L - (intOf k).toNat)
  case atStart => exact ⟨0, rfl, by omega, by omega, hide (by intro j hj; omega), 0, rfl⟩
  case round =>
    obtain ⟨i, rfl, hi1, hi2, heq, q, rfl⟩ := hrel
    by_cases hiL : i < L
    · have hsz : i < s.size := by have := HS.out; omega
      by_cases hin : i < nd
      · have x1 := HC.out i hin
        have x3 := hide (HD.out i hin)
        have x4 := hide (HE.out i hsz)
        by_cases hd : d i = e i
        · have hne : (((c i : Nat) : Int) != ((s[i].toNat : Nat) : Int)) = false := by
            have h1 := x3.out; have h2 := x4.out
            simp only [bne_eq_false_iff_eq]; omega
          have h2 : Hid (∀ j, j < i + 1 → d j = e j) := hide (by
            intro j hj
            by_cases hji : j = i
            · rw [hji]; exact hd
            · exact heq.out j (by omega))
          clear hd heq
          go_wp2_with (fail)
          go_quiet (fail)
          go_wp2_with (fail)
          go_roundw
          case rel => exact ⟨i + 1, by go_num, by omega, by omega, h2, _, by first | rfl | trivial⟩
          case measure => simp [intOf]; omega
        · have hne : (((c i : Nat) : Int) != ((s[i].toNat : Nat) : Int)) = true := by
            have h1 := x3.out; have h2 := x4.out
            simp only [bne_iff_ne, ne_eq]; omega
          have hP : Hid (Less d nd e L (decide (((c i : Nat) : Int) < ((s[i].toNat : Nat) : Int)))) := hide (by
            have h1 := x3.out; have h2 := x4.out
            have h3 := less_at (d := d) (e := e) (nd := nd) (L := L) (i := i) (fun j hj => (HD.out j hj).2) (fun j hj => (HE.out j (by have := HS.out; omega)).2) hin hiL heq.out hd
            have h4 : (decide (((c i : Nat) : Int) < ((s[i].toNat : Nat) : Int))) = decide (d i < e i) := by
              apply decide_eq_decide.2; omega
            rw [h4]; exact h3)
          clear hd heq
          go_wp2_with (fail)
          go_quiet (fail)
          go_wp2_with (fail)
          go_quiet (fail)
          go_wp2_with (fail)
          go_ret
          exact ⟨_, rfl, by simpa using hP.out, _, by rw [World.drewN_drewN, World.drewN_drewN]⟩
      · have hP : Hid (Less d nd e L true) := hide (by
          obtain rfl : i = nd := by omega
          exact less_short (fun j hj => (HE.out j (by have := HS.out; omega)).2) HL.out hiL heq.out)
        clear heq
        go_wp2_with (fail)
        go_ret
        exact ⟨_, rfl, hP.out, _, rfl⟩
    · have hP : Hid (Less d nd e L false) := hide (by
        obtain rfl : i = L := by omega
        exact less_end (fun j hj => (HD.out j hj).2) hi1 heq.out)
      clear heq
      go_wp2_with (fail)
      go_ret
      exact ⟨_, rfl, hP.out, _, rfl⟩

/-- The bytes from 0 on that are digits. -/
def DigTo (c : Nat → Nat) (n : Nat) : Prop := ∀ i, i < n → 48 ≤ c i ∧ c i ≤ 57

def TrimPost (b : Nat) (c : Nat → Nat) (nd : Nat) (dp : Int) (ng tr : Bool) (w : World) (x : Ending) (w' : World) : Prop :=
  x = .returned (.tuple #[]) ∧ ∃ nd' : Nat, 1 ≤ nd' ∧ nd' ≤ nd ∧ Dec w' b c nd' dp ng tr ∧ Only b w w'

set_option maxRecDepth 100000 in
set_option maxHeartbeats 2000000 in
theorem trim_any (w : World) (b nd : Nat) (c : Nat → Nat) (dp : Int) (ng tr : Bool) (hnd : nd ≤ 800) (h1 : 1 ≤ nd) (hc : DigTo c nd) (h0 : c 0 ≠ 48) (h : Dec w b c nd dp ng tr) :
    Calls Tryz.prog 118 #[.pointer (some ⟨b, 0, none⟩)] w (TrimPost b c nd dp ng tr w) := by
  have HC := hide hc
  have H0 := hide h0
  have HD := hide h
  clear hc h0 h
  go_enter Tryz.func118, Tryz.ntmps118
  go_wp2_with (fail)
  go_loopg [] nd (fun k wr => ∃ n : Nat, n = k ∧ 1 ≤ n ∧ n ≤ nd ∧ Hid (Dec wr b c n dp ng tr) ∧ Hid (Only b w wr))
  case atStart => exact ⟨nd, rfl, h1, by omega, HD, hide (Only.refl _ _)⟩
  case round =>
    obtain ⟨n, rfl, hn1, hn2, HD, HO⟩ := hrel
    have x1 := HD.out.nd_
    have x2 := HD.out.dig (i := n - 1) (by omega)
    have x3 := HD.out.free 800
    have hcast : ((n : Int) - 1) = ((n - 1 : Nat) : Int) := by omega
    have e1 : IntKind.i64.wrap ((n : Int) - 1) = ((n - 1 : Nat) : Int) := by rw [IntKind.wrap_i64]; omega
    have e2 : (((n - 1 : Nat) : Int)).toNat = n - 1 := by omega
    have b1 : (0 : Int) ≤ ((n - 1 : Nat) : Int) := by omega
    have b2 : ((n - 1 : Nat) : Int) < 800 := by omega
    have b3 : decide (0 < n) = true := by simp; omega
    by_cases hz : c (n - 1) = 48
    · have hz' : (((c (n - 1) : Nat) : Int) == 48) = true := by rw [beq_iff_eq]; omega
      have hn0 : n - 1 ≠ 0 := fun e => by rw [e] at hz; exact H0.out hz
      clear hcast
      go_wp2_with (fail)
      go_quiet (fail)
      go_wp2_with (fail)
      go_roundg (n - 1)
      case measure => omega
      case rel => exact ⟨n - 1, rfl, by omega, by omega, hide ((HD.out.drewN _).set_nd _), hide ((HO.out.drewN _).set _ _)⟩
    · have hz' : (((c (n - 1) : Nat) : Int) == 48) = false := by rw [beq_eq_false_iff_ne]; omega
      have b4 : (((n : Nat) : Int) == 0) = false := by rw [beq_eq_false_iff_ne]; omega
      clear hcast
      go_wp2_with (fail)
      go_quiet (fail)
      go_wp2_with (fail)
      go_end0
      exact ⟨rfl, n, hn1, hn2, HD.out.drewN _, HO.out.drewN _⟩
end Go.Proofs.YtonnmongipaheaaGreatDoor
