/- internal/strconv.atof64 returns. -/
import Derived.Test.YtonnmongipaheaaGreatDoorHex
import Derived.Test.YtonnmongipaheaaGreatDoorFloat
import Derived.Test.YtonnmongipaheaaGreatDoorRfRest
import Derived.Test.YtonnmongipaheaaGreatDoorSet
namespace Go.Proofs.YtonnmongipaheaaGreatDoor
open Go.RowKit
set_option linter.unusedVariables false
set_option linter.unusedSimpArgs false

def OwnErr (e : Value) : Prop := e = .nilIface ∨ e = .iface 81 (.int .i64 1) ∨ e = .iface 81 (.int .i64 2)
/-- A float, how far it was read, an error. -/
def AtofPost (w : World) (x : Ending) (w' : World) : Prop :=
  (∃ (f : Nat) (n : Int) (e : Value), x = .returned (.tuple #[.float .f64 f, .int .i64 n, e]) ∧ OwnErr e) ∧ Below w.heap.size w w'

set_option maxRecDepth 100000 in
theorem zero_cells : Tryz.zeroCells128 = (List.replicate 800 (Value.int .u8 0) ++ [Value.int .i64 0, Value.int .i64 0, Value.bool false, Value.bool false]).toArray := by kernel_rfl

theorem zc_size {α : Type} (n : Nat) (a b c d e : α) : ((List.replicate n a ++ [b, c, d, e]).toArray).size = n + 4 := by simp
theorem zc_lo {α : Type} (n i : Nat) (a : α) (t : List α) (h : i < n) : ((List.replicate n a ++ t).toArray)[i]? = some a := by
  rw [List.getElem?_toArray, List.getElem?_append_left (by simpa using h), List.getElem?_replicate, if_pos h]
theorem zc_hi {α : Type} (n k : Nat) (a : α) (t : List α) : ((List.replicate n a ++ t).toArray)[n + k]? = t[k]? := by
  rw [List.getElem?_toArray, List.getElem?_append_right (by simp)]
  simp

theorem zero_dec (w : World) : Dec (w.alloc (.cells Tryz.zeroCells128 128)) w.heap.size (fun _ => 0) 0 0 false false := by
  rw [zero_cells]
  exact ⟨_, heap_alloc_new w _, zc_size 800 _ _ _ _ _, fun i hi => zc_lo 800 i _ _ hi, zc_hi 800 0 _ _, zc_hi 800 1 _ _, zc_hi 800 2 _ _, zc_hi 800 3 _ _⟩

set_option maxRecDepth 100000 in
set_option maxHeartbeats 4000000 in
theorem atof_any (B : Nat) (W : World) (s : ByteArray) (hT : Tab B W) (hB : B ≤ W.heap.size) (hs : s.size ≤ 100000) : Calls Tryz.prog 67 #[.string s] W (AtofPost W) := by
  have hfb := frombits64
  have o1 := hT.opt
  have HT := hide hT
  have HB := hide hB
  have HS := hide hs
  clear hT hB
  go_enter Tryz.func67, Tryz.ntmps67
  go_wp2_with (fail)
  refine (special_any _ _ (by have := HS.out; omega)).mono ?_
  rintro x w' ⟨f, n, ok, rfl, hn, rfl, hk⟩
  clear hk
  cases ok
  case true =>
    go_wp2_with (fail)
    go_ret3
    exact ⟨⟨_, _, _, rfl, .inl rfl⟩, Below.refl _ _⟩
  case false =>
    go_wp2_with (fail)
    refine (read_any _ _ HS.out).mono ?_
    rintro x w' ⟨m0, e, ng, tr, hx, n, ok, rfl, hu, he1, he2, hn2, rfl⟩
    obtain ⟨m, rfl⟩ : ∃ k : Nat, m0 = k := ⟨m0.toNat, by have := hu.1; omega⟩
    have HU := hide hu
    have hmb : m ≤ 18446744073709551615 := by have := hu.2; omega
    have HMB := hide hmb
    clear hu hmb
    cases ok
    · go_wp2_with (fail)
      go_ret3
      exact ⟨⟨_, _, _, rfl, .inr (.inr rfl)⟩, Below.refl _ _⟩
    · cases hx
      · cases ng
        all_goals
          by_cases hm0 : m = 0
          · subst hm0
            go_wp2_with (go_at_call 87; refine (bool64_any _ _).mono ?_; rintro x w' ⟨rfl, rfl⟩)
            go_ret3
            exact ⟨⟨_, _, _, rfl, .inl rfl⟩, Below.refl _ _⟩
          · have hm0' : (((m : Nat) : Int) == 0) = false := by rw [beq_eq_false_iff_ne]; omega
            by_cases hp1 : 310 < e
            · go_wp2_with (go_at_call 87; refine (bool64_any _ _).mono ?_; rintro x w' ⟨rfl, rfl⟩)
              go_ret3
              exact ⟨⟨_, _, _, rfl, .inr (.inl rfl)⟩, Below.refl _ _⟩
            · by_cases hp2 : e < -345
              · go_wp2_with (go_at_call 87; refine (bool64_any _ _).mono ?_; rintro x w' ⟨rfl, rfl⟩)
                go_ret3
                exact ⟨⟨_, _, _, rfl, .inl rfl⟩, Below.refl _ _⟩
              · cases tr
                · go_wp2_with (go_at_call 87; refine (bool64_any _ _).mono ?_; rintro x w' ⟨rfl, rfl⟩)
                  refine (exact_any B _ m e _ HT.out ⟨by omega, by omega⟩).mono ?_
                  rintro x w' ⟨⟨f3, ok3, rfl⟩, rfl⟩
                  cases ok3
                  · go_wp2_with (go_at_call 90; refine (parse64_any B _ m e _ HT.out HB.out HU.out ⟨by omega, by omega⟩).mono ?_; rintro x w' ⟨⟨f4, e4, rfl, he⟩, hb⟩; have HE := hide he; have HW := hide hb; clear he hb)
                    go_ret3
                    exact ⟨⟨_, _, _, rfl, HE.out⟩, HW.out⟩
                  · go_wp2_with (fail)
                    go_ret3
                    exact ⟨⟨_, _, _, rfl, .inl rfl⟩, Below.refl _ _⟩
                · go_wp2_with (go_at_call 87; refine (bool64_any _ _).mono ?_; rintro x w' ⟨rfl, rfl⟩)
                  refine (parse64_any B _ m e _ HT.out HB.out HU.out ⟨by omega, by omega⟩).mono ?_
                  rintro x w1 ⟨⟨f4, e4, rfl, he⟩, hb⟩
                  have HE := hide he
                  have HW := hide hb
                  have HT1 := hide (HT.out.below (hb.mono HB.out))
                  have HB1 := hide (Nat.le_trans HB.out hb.size)
                  clear he hb
                  go_wp2_with (fail)
                  refine (parse64_any B _ _ e _ HT1.out HB1.out (U64.wrap _) ⟨by omega, by omega⟩).mono ?_
                  rintro x w2 ⟨⟨f5, e5, rfl, he⟩, hb⟩
                  have HW2 := hide (HW.out.trans (hb.mono HW.out.size))
                  have HT2 := hide (HT1.out.below (hb.mono HB1.out))
                  have HB2 := hide (Nat.le_trans HB1.out hb.size)
                  clear he hb
                  by_cases hq : (FloatKind.f64.format.order f4 f5 == some Ordering.eq) = true
                  · go_wp2_with (fail)
                    go_ret3
                    exact ⟨⟨_, _, _, rfl, HE.out⟩, HW2.out⟩
                  · have hq' : (FloatKind.f64.format.order f4 f5 == some Ordering.eq) = false := by simpa using hq
                    clear hq
                    go_wp2_with (fail)
                    have hde := zero_dec w2
                    have hT3 : Hid (Tab B (w2.alloc (.cells Tryz.zeroCells128 128))) := hide (HT2.out.below ((Below.refl B w2).alloc HB2.out _))
                    refine (set_any _ _ (fun _ => 0) false false (s.extract 0 n) hde (by have := HS.out; simp; omega)).mono ?_
                    rintro x w3 ⟨ok3, rfl, ⟨c3, nd3, dp3, ng3, tr3, hd3, hz3, d1, d2⟩, hon⟩
                    have HW3 : Hid (Below W.heap.size W w3) := hide ((HW2.out.alloc HW2.out.size _).trans (hon.below HW2.out.size (by have := HW2.out.size; simp; omega)))
                    have HT3 := hide (hT3.out.only hon HB2.out)
                    have HD3 := hide hd3
                    have HZ3 := hide hz3
                    clear hon hd3 hz3 hde hT3
                    cases ok3
                    · go_wp2_with (fail)
                      go_ret3
                      exact ⟨⟨_, _, _, rfl, .inr (.inr rfl)⟩, HW3.out⟩
                    · go_wp2_with (fail)
                      refine (bits_any B _ _ nd3 c3 dp3 ng3 tr3 HT3.out HB2.out HD3.out HZ3.out ⟨d1, d2⟩).mono ?_
                      rintro x w4 ⟨mm, ov, rfl, hon⟩
                      have HW4 : Hid (Below W.heap.size W w4) := hide (HW3.out.trans (hon.below HW2.out.size HW3.out.size))
                      clear hon
                      cases ov
                      · go_wp2_with (fail)
                        go_ret3
                        exact ⟨⟨_, _, _, rfl, .inl rfl⟩, HW4.out⟩
                      · go_wp2_with (fail)
                        go_ret3
                        exact ⟨⟨_, _, _, rfl, .inr (.inl rfl)⟩, HW4.out⟩
      · go_wp2_with (go_at_call 80; refine (hex_any B _ _ m e ng tr HT.out HMB.out).mono ?_; rintro x w' ⟨⟨f2, e2, rfl, he⟩, q, rfl⟩; have HE := hide he; clear he)
        go_ret3
        exact ⟨⟨_, _, _, rfl, HE.out⟩, below_drewN (Below.refl _ _) _⟩
end Go.Proofs.YtonnmongipaheaaGreatDoor
