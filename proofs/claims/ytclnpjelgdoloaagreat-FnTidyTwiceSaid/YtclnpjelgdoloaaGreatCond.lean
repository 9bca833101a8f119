/- alt.condMapSet: a member is set, or left out (printed by wip/cond.py). -/
import Derived.Test.YtclnpjelgdoloaaGreatTa
namespace Go.Proofs.YtclnpjelgdoloaaGreat
open Go.RowKit Go.Maps
set_option linter.unusedVariables false

/-- The options, as the functions read them. -/
structure Opts (w : World) (ob : Nat) (on oe : Bool) : Prop where
  nil : w.cell? ⟨ob, 3, none⟩ = some (.bool on)
  empty : w.cell? ⟨ob, 4, none⟩ = some (.bool oe)

theorem Opts.kept {w w' : World} {ob : Nat} {on oe : Bool} (h : Opts w ob on oe) (hb : w'.heap[ob]? = w.heap[ob]?) : Opts w' ob on oe := ⟨cell_move h.nil hb, cell_move h.empty hb⟩

theorem Opts.lt {w : World} {ob : Nat} {on oe : Bool} (h : Opts w ob on oe) : ob < w.heap.size := World.block_lt_of_cell? w _ h.nil

def Sets (b : Bool) (w w2 : World) (e : Ending) (w' : World) : Prop := e = .returned (.tuple #[]) ∧ w' = if b = true then w else w2

theorem size_zero {w : World} {b n : Nat} {D : DataW Value} {keys : List ByteArray} {xs : Nat → Value} (ho : w.ownsMap Tryz.prog 9 heldElem b n D) (h : MapIs D keys xs) : Maps.size D = 0 ↔ keys = [] := by
  obtain ⟨es, rfl, _, hk⟩ := ho.entries K9
  simp only [Maps.size_eq]
  constructor
  · intro h0
    have he : es = [] := List.eq_nil_of_length_eq_zero h0
    rcases keys with _ | ⟨k, ks⟩
    · rfl
    · have := (h.has_iff k).2 (by simp)
      rw [he] at this
      simp [has] at this
  · rintro rfl
    rcases es with _ | ⟨p, es⟩
    · rfl
    · have h1 := h.has_ p.1
      have h2 := hk p (by simp)
      simp only [List.any_nil] at h1
      rw [has_eq, List.any_cons] at h1
      have h3 : p.1.sameKey p.1 = true := by
        rcases hp : p.1 with _ | _ | _ | _ | _ | _ | _
        all_goals first
          | (simp [Lit.sameKey]; done)
          | (rw [hp] at h2; simp [WideAt.IsKeyLit] at h2; done)
          | (rw [hp] at h2; simp_all [WideAt.IsKeyLit, Lit.sameKey])
      rw [h3] at h1
      simp at h1

set_option maxRecDepth 100000 in
theorem cond_null (g ob : Nat) (k : ByteArray) (on oe : Bool) (w w2 : World) (h1 : Opts w ob on oe) (hup : (Instr.mapUpdate 66 (.map (some g)) (.string k) (.nilIface)).run Tryz.prog w = .ok () w2) : Calls Tryz.prog 54 #[.map (some g), .string k, .nilIface, .pointer (some ⟨ob, 0, none⟩)] w (Sets (on || oe) w w2) := by
  have c3 := h1.nil
  have c4 := h1.empty
  clear h1
  have tx9 := tan9; unfold Ta at tx9
  have tx56 := tan56; unfold Ta at tx56
  have tx66 := tan66; unfold Ta at tx66
  have tx4 := tan4; unfold Ta at tx4
  have tx2 := tan2; unfold Ta at tx2
  cases on <;> cases oe
  all_goals
    go_enter Tryz.func54, Tryz.ntmps54
    go_wp2_with (fail)
    first | go_end0 | go_ret
    exact ⟨rfl, by simp_all⟩

set_option maxRecDepth 100000 in
theorem cond_bool (g ob : Nat) (k : ByteArray) (on oe : Bool) (p : Bool) (w w2 : World) (h1 : Opts w ob on oe) (hup : (Instr.mapUpdate 66 (.map (some g)) (.string k) (.iface 4 (.bool p))).run Tryz.prog w = .ok () w2) : Calls Tryz.prog 54 #[.map (some g), .string k, .iface 4 (.bool p), .pointer (some ⟨ob, 0, none⟩)] w (Sets (oe && !p) w w2) := by
  have c3 := h1.nil
  have c4 := h1.empty
  clear h1
  have tx9 := tab9 (.bool p); unfold Ta at tx9
  have tx56 := tab56 (.bool p); unfold Ta at tx56
  have tx66 := tab66 (.bool p); unfold Ta at tx66
  have tx4 := tab4 (.bool p); unfold Ta at tx4
  have tx2 := tab2 (.bool p); unfold Ta at tx2
  cases on <;> cases oe <;> cases p
  all_goals
    go_enter Tryz.func54, Tryz.ntmps54
    go_wp2_with (fail)
    first | go_end0 | go_ret
    exact ⟨rfl, by simp_all⟩

set_option maxRecDepth 100000 in
theorem cond_int_z (g ob : Nat) (k : ByteArray) (on oe : Bool) (p : Int) (w w2 : World) (h : (p == 0) = true) (h1 : Opts w ob on oe) (hup : (Instr.mapUpdate 66 (.map (some g)) (.string k) (.iface 2 (.int .i64 p))).run Tryz.prog w = .ok () w2) : Calls Tryz.prog 54 #[.map (some g), .string k, .iface 2 (.int .i64 p), .pointer (some ⟨ob, 0, none⟩)] w (Sets (oe && (p == 0)) w w2) := by
  have c3 := h1.nil
  have c4 := h1.empty
  clear h1
  have tx9 := tai9 (.int .i64 p); unfold Ta at tx9
  have tx56 := tai56 (.int .i64 p); unfold Ta at tx56
  have tx66 := tai66 (.int .i64 p); unfold Ta at tx66
  have tx4 := tai4 (.int .i64 p); unfold Ta at tx4
  have tx2 := tai2 (.int .i64 p); unfold Ta at tx2
  cases on <;> cases oe
  all_goals
    go_enter Tryz.func54, Tryz.ntmps54
    go_wp2_with (fail)
    first | go_end0 | go_ret
    exact ⟨rfl, by simp_all⟩

set_option maxRecDepth 100000 in
theorem cond_int_n (g ob : Nat) (k : ByteArray) (on oe : Bool) (p : Int) (w w2 : World) (h : (p == 0) = false) (h1 : Opts w ob on oe) (hup : (Instr.mapUpdate 66 (.map (some g)) (.string k) (.iface 2 (.int .i64 p))).run Tryz.prog w = .ok () w2) : Calls Tryz.prog 54 #[.map (some g), .string k, .iface 2 (.int .i64 p), .pointer (some ⟨ob, 0, none⟩)] w (Sets (oe && (p == 0)) w w2) := by
  have c3 := h1.nil
  have c4 := h1.empty
  clear h1
  have tx9 := tai9 (.int .i64 p); unfold Ta at tx9
  have tx56 := tai56 (.int .i64 p); unfold Ta at tx56
  have tx66 := tai66 (.int .i64 p); unfold Ta at tx66
  have tx4 := tai4 (.int .i64 p); unfold Ta at tx4
  have tx2 := tai2 (.int .i64 p); unfold Ta at tx2
  cases on <;> cases oe
  all_goals
    go_enter Tryz.func54, Tryz.ntmps54
    go_wp2_with (fail)
    first | go_end0 | go_ret
    exact ⟨rfl, by simp_all⟩

set_option maxRecDepth 100000 in
theorem cond_flo (g ob : Nat) (k : ByteArray) (on oe : Bool) (p : Nat) (w w2 : World) (h1 : Opts w ob on oe) (hup : (Instr.mapUpdate 66 (.map (some g)) (.string k) (.iface 22 (.float .f64 p))).run Tryz.prog w = .ok () w2) : Calls Tryz.prog 54 #[.map (some g), .string k, .iface 22 (.float .f64 p), .pointer (some ⟨ob, 0, none⟩)] w (Sets false w w2) := by
  have c3 := h1.nil
  have c4 := h1.empty
  clear h1
  have tx9 := taf9 (.float .f64 p); unfold Ta at tx9
  have tx56 := taf56 (.float .f64 p); unfold Ta at tx56
  have tx66 := taf66 (.float .f64 p); unfold Ta at tx66
  have tx4 := taf4 (.float .f64 p); unfold Ta at tx4
  have tx2 := taf2 (.float .f64 p); unfold Ta at tx2
  cases on <;> cases oe
  all_goals
    go_enter Tryz.func54, Tryz.ntmps54
    go_wp2_with (fail)
    first | go_end0 | go_ret
    exact ⟨rfl, by simp_all⟩

set_option maxRecDepth 100000 in
theorem cond_str_z (g ob : Nat) (k : ByteArray) (on oe : Bool) (p : ByteArray) (w w2 : World) (h : p.size = 0) (h1 : Opts w ob on oe) (hup : (Instr.mapUpdate 66 (.map (some g)) (.string k) (.iface 9 (.string p))).run Tryz.prog w = .ok () w2) : Calls Tryz.prog 54 #[.map (some g), .string k, .iface 9 (.string p), .pointer (some ⟨ob, 0, none⟩)] w (Sets (oe && (p.size == 0)) w w2) := by
  have c3 := h1.nil
  have c4 := h1.empty
  clear h1
  have tx9 := tas9 (.string p); unfold Ta at tx9
  have tx56 := tas56 (.string p); unfold Ta at tx56
  have tx66 := tas66 (.string p); unfold Ta at tx66
  have tx4 := tas4 (.string p); unfold Ta at tx4
  have tx2 := tas2 (.string p); unfold Ta at tx2
  have t0 : ((p.size : Int) == 0) = true := by rw [beq_iff_eq]; omega
  have t1 : (p.size == 0) = true := by rw [beq_iff_eq]; omega
  clear h
  cases on <;> cases oe
  all_goals
    go_enter Tryz.func54, Tryz.ntmps54
    go_wp2_with (fail)
    first | go_end0 | go_ret
    exact ⟨rfl, by simp_all⟩

set_option maxRecDepth 100000 in
theorem cond_str_n (g ob : Nat) (k : ByteArray) (on oe : Bool) (p : ByteArray) (w w2 : World) (h : 0 < p.size) (h1 : Opts w ob on oe) (hup : (Instr.mapUpdate 66 (.map (some g)) (.string k) (.iface 9 (.string p))).run Tryz.prog w = .ok () w2) : Calls Tryz.prog 54 #[.map (some g), .string k, .iface 9 (.string p), .pointer (some ⟨ob, 0, none⟩)] w (Sets (oe && (p.size == 0)) w w2) := by
  have c3 := h1.nil
  have c4 := h1.empty
  clear h1
  have tx9 := tas9 (.string p); unfold Ta at tx9
  have tx56 := tas56 (.string p); unfold Ta at tx56
  have tx66 := tas66 (.string p); unfold Ta at tx66
  have tx4 := tas4 (.string p); unfold Ta at tx4
  have tx2 := tas2 (.string p); unfold Ta at tx2
  have t0 : ((p.size : Int) == 0) = false := by rw [beq_eq_false_iff_ne]; omega
  have t1 : (p.size == 0) = false := by rw [beq_eq_false_iff_ne]; omega
  clear h
  cases on <;> cases oe
  all_goals
    go_enter Tryz.func54, Tryz.ntmps54
    go_wp2_with (fail)
    first | go_end0 | go_ret
    exact ⟨rfl, by simp_all⟩

set_option maxRecDepth 100000 in
theorem cond_arr_z (g ob : Nat) (k : ByteArray) (on oe : Bool) (p : Option Addr) (pn pc : Nat) (w w2 : World) (h : pn = 0) (h1 : Opts w ob on oe) (hup : (Instr.mapUpdate 66 (.map (some g)) (.string k) (.iface 56 (.slice p pn pc))).run Tryz.prog w = .ok () w2) : Calls Tryz.prog 54 #[.map (some g), .string k, .iface 56 (.slice p pn pc), .pointer (some ⟨ob, 0, none⟩)] w (Sets (oe && (pn == 0)) w w2) := by
  have c3 := h1.nil
  have c4 := h1.empty
  clear h1
  have tx9 := taa9 (.slice p pn pc); unfold Ta at tx9
  have tx56 := taa56 (.slice p pn pc); unfold Ta at tx56
  have tx66 := taa66 (.slice p pn pc); unfold Ta at tx66
  have tx4 := taa4 (.slice p pn pc); unfold Ta at tx4
  have tx2 := taa2 (.slice p pn pc); unfold Ta at tx2
  subst h
  cases on <;> cases oe
  all_goals
    go_enter Tryz.func54, Tryz.ntmps54
    go_wp2_with (fail)
    first | go_end0 | go_ret
    exact ⟨rfl, by simp_all⟩

set_option maxRecDepth 100000 in
theorem cond_arr_n (g ob : Nat) (k : ByteArray) (on oe : Bool) (p : Option Addr) (pn pc : Nat) (w w2 : World) (h : 0 < pn) (h1 : Opts w ob on oe) (hup : (Instr.mapUpdate 66 (.map (some g)) (.string k) (.iface 56 (.slice p pn pc))).run Tryz.prog w = .ok () w2) : Calls Tryz.prog 54 #[.map (some g), .string k, .iface 56 (.slice p pn pc), .pointer (some ⟨ob, 0, none⟩)] w (Sets (oe && (pn == 0)) w w2) := by
  have c3 := h1.nil
  have c4 := h1.empty
  clear h1
  have tx9 := taa9 (.slice p pn pc); unfold Ta at tx9
  have tx56 := taa56 (.slice p pn pc); unfold Ta at tx56
  have tx66 := taa66 (.slice p pn pc); unfold Ta at tx66
  have tx4 := taa4 (.slice p pn pc); unfold Ta at tx4
  have tx2 := taa2 (.slice p pn pc); unfold Ta at tx2
  have t0 : ((pn : Int) == 0) = false := by rw [beq_eq_false_iff_ne]; omega
  have t1 : (pn == 0) = false := by rw [beq_eq_false_iff_ne]; omega
  cases on <;> cases oe
  all_goals
    go_enter Tryz.func54, Tryz.ntmps54
    go_wp2_with (fail)
    first | go_end0 | go_ret
    exact ⟨rfl, by simp_all⟩

set_option maxRecDepth 100000 in
theorem cond_obj_z (g ob : Nat) (k : ByteArray) (on oe : Bool) (p n0 : Nat) (D : DataW Value) (w w2 : World) (ho : w.ownsMap Tryz.prog 9 heldElem p n0 D) (h : Maps.size D = 0) (h1 : Opts w ob on oe) (hup : (Instr.mapUpdate 66 (.map (some g)) (.string k) (.iface 66 (.map (some p)))).run Tryz.prog w = .ok () w2) : Calls Tryz.prog 54 #[.map (some g), .string k, .iface 66 (.map (some p)), .pointer (some ⟨ob, 0, none⟩)] w (Sets (oe && (Maps.size D == 0)) w w2) := by
  have c3 := h1.nil
  have c4 := h1.empty
  clear h1
  have tx9 := tao9 (.map (some p)); unfold Ta at tx9
  have tx56 := tao56 (.map (some p)); unfold Ta at tx56
  have tx66 := tao66 (.map (some p)); unfold Ta at tx66
  have tx4 := tao4 (.map (some p)); unfold Ta at tx4
  have tx2 := tao2 (.map (some p)); unfold Ta at tx2
  have hlen := fun ty => ho.len (ty := ty) Tryz.underlying66
  rw [h] at hlen ⊢
  clear h
  cases on <;> cases oe
  all_goals
    go_enter Tryz.func54, Tryz.ntmps54
    go_wp2_with (fail)
    first | go_end0 | go_ret
    exact ⟨rfl, by simp_all⟩

set_option maxRecDepth 100000 in
theorem cond_obj_n (g ob : Nat) (k : ByteArray) (on oe : Bool) (p n0 : Nat) (D : DataW Value) (w w2 : World) (ho : w.ownsMap Tryz.prog 9 heldElem p n0 D) (h : 0 < Maps.size D) (h1 : Opts w ob on oe) (hup : (Instr.mapUpdate 66 (.map (some g)) (.string k) (.iface 66 (.map (some p)))).run Tryz.prog w = .ok () w2) : Calls Tryz.prog 54 #[.map (some g), .string k, .iface 66 (.map (some p)), .pointer (some ⟨ob, 0, none⟩)] w (Sets (oe && (Maps.size D == 0)) w w2) := by
  have c3 := h1.nil
  have c4 := h1.empty
  clear h1
  have tx9 := tao9 (.map (some p)); unfold Ta at tx9
  have tx56 := tao56 (.map (some p)); unfold Ta at tx56
  have tx66 := tao66 (.map (some p)); unfold Ta at tx66
  have tx4 := tao4 (.map (some p)); unfold Ta at tx4
  have tx2 := tao2 (.map (some p)); unfold Ta at tx2
  have hlen := fun ty => ho.len (ty := ty) Tryz.underlying66
  obtain ⟨q, hq⟩ : ∃ q, q = Maps.size D := ⟨_, rfl⟩
  rw [← hq] at hlen h ⊢
  clear hq
  have t0 : ((q : Int) == 0) = false := by rw [beq_eq_false_iff_ne]; omega
  have t1 : (q == 0) = false := by rw [beq_eq_false_iff_ne]; omega
  cases on <;> cases oe
  all_goals
    go_enter Tryz.func54, Tryz.ntmps54
    go_wp2_with (fail)
    first | go_end0 | go_ret
    exact ⟨rfl, by simp_all⟩

/-- A member is set just if it is not left out. -/
theorem cond_any {w : World} {B : Nat} {x : Value} {t : V} (h : PRep w B x t) (g ob : Nat) (k : ByteArray) (on oe : Bool) (w2 : World) (h1 : Opts w ob on oe) (hup : (Instr.mapUpdate 66 (.map (some g)) (.string k) x).run Tryz.prog w = .ok () w2) : Calls Tryz.prog 54 #[.map (some g), .string k, x, .pointer (some ⟨ob, 0, none⟩)] w (Sets (gone on oe t) w w2) := by
  cases h with
  | null _ hk => rw [show gone on oe t = (on || oe) from by simp [gone, hk]]; exact cond_null g ob k on oe w w2 h1 hup
  | bool _ hk => rw [show gone on oe t = (oe && !(t.n == 1)) from by simp [gone, hk]]; exact cond_bool g ob k on oe _ w w2 h1 hup
  | int _ hk =>
    rw [show gone on oe t = (oe && (t.n == 0)) from by simp [gone, hk]]
    rcases e : (t.n == 0) with _ | _
    · have := cond_int_n g ob k on oe t.n w w2 e h1 hup; rw [e] at this; exact this
    · have := cond_int_z g ob k on oe t.n w w2 e h1 hup; rw [e] at this; exact this
  | str _ hk =>
    rw [show gone on oe t = (oe && (t.s.size == 0)) from by simp [gone, hk]]
    by_cases e : t.s.size = 0
    · exact cond_str_z g ob k on oe _ w w2 e h1 hup
    · exact cond_str_n g ob k on oe _ w w2 (by omega) h1 hup
  | flo _ hk => rw [show gone on oe t = false from by simp [gone, hk]]; exact cond_flo g ob k on oe _ w w2 h1 hup
  | arr _ hk g' cap xs hg hle hcap hc hr =>
    have e0 : t.l.isEmpty = (t.l.length == 0) := by cases t.l <;> simp
    rw [show gone on oe t = (oe && (t.l.length == 0)) from by simp only [gone, hk, e0]; simp]
    by_cases e : t.l.length = 0
    · exact cond_arr_z g ob k on oe _ _ _ w w2 e h1 hup
    · exact cond_arr_n g ob k on oe _ _ _ w w2 (by omega) h1 hup
  | obj _ hk b n D xs hb hm hn hD hkl hr =>
    have hz := size_zero hm hD
    have e1 : gone on oe t = (oe && (Maps.size D == 0)) := by
      have : t.keys.isEmpty = (Maps.size D == 0) := by
        rw [Bool.eq_iff_iff, beq_iff_eq, hz]
        simp
      simp [gone, hk, this]
    rw [e1]
    by_cases e : Maps.size D = 0
    · exact cond_obj_z g ob k on oe b n D w w2 hm e h1 hup
    · exact cond_obj_n g ob k on oe b n D w w2 hm (by omega) h1 hup

end Go.Proofs.YtclnpjelgdoloaaGreat
