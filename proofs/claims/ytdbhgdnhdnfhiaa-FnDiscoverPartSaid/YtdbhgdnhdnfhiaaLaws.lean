/- Laws of the walk that this seat needs: a constant string stored, an index into a table, two tables compared, an append that tells in which block the slice lies now, a frame of 219 slots written out. -/
import Derived.Test.YtdbhgdnhdnfhiaaMd
namespace Go.Proofs.Ytdbhgdnhdnfhiaa
open Go.RowKit
set_option linter.unusedVariables false

/-- A fact laid behind a name. -/
theorem hid {p : Prop} (h : p) : Hid p := h

theorem bytes_eq_iff (m m' : ByteArray) : (m.toList == m'.toList) = true ↔ m = m' := by
  rw [ByteArray.toList_eq, ByteArray.toList_eq, beq_iff_eq]
  constructor
  · intro h
    cases m; cases m'
    simp only [Array.toList_inj] at h
    simp only [h]
  · rintro rfl
    rfl

section
variable {ops : Array Oper} {rest : List Oper} {o : Oper} {a : Act} {w : World} {Q : Exit → Act → World → Prop}

theorem wpList_store_str (hgd : Region.wanted o (yielded ops a.tmps) = true) (hd : o.dst = none) (x y : Operand) (ho : o.op = .store 9 x y) (A : Addr) (hx : a.eval x = .pointer (some A))
    (s : ByteArray) (hy : a.eval y = .string s) (hc0 : (w.cell? A).isSome = true) (hf : w.frozen? A = false)
    (h : wpList Try.prog ops Q rest a (w.setCell A (.string s))) : wpList Try.prog ops Q (o :: rest) a w := by
  refine BigFrame.wpList_want hgd fun K hK => ?_
  have hk := hK _ _ h
  obtain ⟨v, hc⟩ := Option.isSome_iff_exists.1 hc0
  clear hc0
  unfold Oper.wp execOp
  simp only [ho, hx, hy]
  go_simp
  exact hk

theorem wpList_buildSlice_str (hgd : Region.wanted o (yielded ops a.tmps) = true) (y : Operand) (ho : o.op = .buildSlice 22 1 #[(0, y)])
    (s : ByteArray) (hy : a.eval y = .string s) 
    (h : wpList Try.prog ops Q rest (a.put o.dst (.slice (some ⟨w.heap.size, 0, none⟩) 1 1)) (w.alloc (.cells #[.string s] 9))) : wpList Try.prog ops Q (o :: rest) a w := by
  refine BigFrame.wpList_want hgd fun K hK => ?_
  have hk := hK _ _ h
  clear h hK
  unfold Oper.wp execOp
  simp only [ho]
  simp only [List.map_toArray, List.map_cons, List.map_nil, hy]
  go_simp
  exact hk

theorem wpList_eql_md (hgd : Region.wanted o (yielded ops a.tmps) = true) (x y : Operand) (ho : o.op = .binOp .eql 9 x y 9) (m m' : ByteArray) (hx : a.eval x = .string m)
    (hy : a.eval y = .string m') (b : Bool) (hb : (m = m') ↔ (b = true))
    (h : wpList Try.prog ops Q rest (a.put o.dst (.bool b)) w) : wpList Try.prog ops Q (o :: rest) a w := by
  refine BigFrame.wpList_want hgd fun K hK => ?_
  have hk := hK _ _ h
  have e : (m.toList == m'.toList) = b := by
    rw [Bool.eq_iff_iff, bytes_eq_iff, hb]
  clear h hK hb
  unfold Oper.wp execOp
  simp only [ho, hx, hy]
  go_simp
  exact hk

theorem wpList_index_md (hgd : Region.wanted o (yielded ops a.tmps) = true) (x y : Operand) (ho : o.op = .index 9 x y) (s : ByteArray) (hx : a.eval x = .string s) (b : Nat)
    (hy : a.eval y = .int .u8 b) (hb : b < s.size) (c : Nat) (hc : (s.data.toList.getD b 0).toNat = c)
    (h : wpList Try.prog ops Q rest (a.put o.dst (.int .u8 c)) w) : wpList Try.prog ops Q (o :: rest) a w := by
  refine BigFrame.wpList_want hgd fun K hK => ?_
  have hk := hK _ _ h
  have e : s[b].toNat = c := by
    rw [← hc, List.getD_eq_getElem?_getD, List.getElem?_eq_getElem (by simpa using hb)]
    simp only [Option.getD_some, Array.getElem_toList]
    rfl
  clear h hK hc
  unfold Oper.wp execOp
  simp only [ho, hx, hy]
  go_simp
  exact hk

/-- The append of the library, and in which block the slice lies behind it. -/
theorem run_append_at {P : Program} (w : World) (base : Nat) (t ty e : TypeId) (i : TypeInfo) (z : Value) (bytes : Nat) (ht : P.underlying t = some (.slice e)) (hi : P.info? e = some i) (hz : i.zero = some z)
    (hsize : i.size = 1) (hby : i.bytes = bytes) (hzs : z.cells.size = 1)
    (v : Value) (n : Nat) (xs : List Value) (hown : w.ownsRow base e 1 v n xs)
    (a : Addr) (m c : Nat) (news : List Value) (hl : news.length = m) (hm : 0 < m) (hnews : ∀ j u, news[j]? = some u → w.cell? (a.add j) = some u) (h1 : ∀ u ∈ news, u.oneCell' = true)
    (h63 : n + m ≤ maxLen) (hbytes : (n + m) * bytes ≤ 140737488355328) (hbase : base ≤ w.heap.size) :
    ∃ v' w', (Builtin.append_ #[t, t] ty #[v, .slice (some a) m c]).run P w = .ok v' w' ∧ w'.ownsRow base e 1 v' (n + m) (xs ++ news) ∧ w.grownBy w' v.ownBlock ∧
      (v'.ownBlock = v.ownBlock ∨ v'.ownBlock = some w.heap.size) := by
  obtain ⟨v', w', hr, h2, h3, _⟩ := run_append_own (P := P) w base t ty e i z 1 bytes ht hi hz hsize hby hzs (by decide) v n xs hown a m c news (by omega) hnews h1 h63 hbytes hbase
  refine ⟨v', w', hr, h2, h3, ?_⟩
  subst hby
  have hsmall : n + m ≤ 9223372036854775807 := by simp only [maxLen] at h63; omega
  rcases hown.2 with ⟨rfl, rfl⟩ | ⟨g, cap, cur, rfl, hbg, hg, hnc, hcm, hcs, htake⟩
  · right
    have hr' := run_append_nil (P := P) w t ty e i z ht hi hz a m c news (by rw [hsize]; omega) hnews (by omega) (by omega) (by have hb := hbytes; simp only [Nat.zero_add] at hb; omega)
    rw [hr'] at hr
    injection hr with hv hw
    subst hv
    rfl
  · by_cases hroom : n + m ≤ cap
    · left
      have hr' := run_append_room (P := P) w t ty e i ht hi g n cap cur hg a m c news (by rw [hsize]; omega) hnews h1 hroom (by rw [hsize, hcs]; omega)
      rw [hr'] at hr
      injection hr with hv hw
      subst hv
      rfl
    · right
      have holds : ∀ j u, xs[j]? = some u → w.cell? ((⟨g, 0, none⟩ : Addr).add j) = some u := hown.cells (g := g) rfl
      have hr' := run_append_grow (P := P) w t ty e i z ht hi hz ⟨g, 0, none⟩ n cap xs (by rw [hsize]; exact hown.1) holds a m c news (by rw [hsize]; omega) hnews (by omega) (by omega) (growslice_fits (by omega) hbytes)
      rw [hr'] at hr
      injection hr with hv hw
      subst hv
      rfl

theorem info9 : (Try.prog.info? 9).map (fun i => (i.zero, i.size, i.bytes)) = some (some (.string ⟨#[]⟩), 1, 16) := by kernel_rfl

/-- One string is appended to a slice of strings of the call's own. -/
theorem wpList_append_str (hgd : Region.wanted o (yielded ops a.tmps) = true) (s x : Operand) (ho : o.op = .call { callee := .builtin .append, args := #[s, x], argTypes := #[22, 22] })
    (base : Nat) (v : Value) (n : Nat) (xs : List Value) (hs : a.eval s = v) (hown : w.ownsRow base 9 1 v n xs)
    (ad : Addr) (c : Nat) (y : ByteArray) (hx : a.eval x = .slice (some ad) 1 c) (hc : w.cell? ad = some (.string y))
    (h63 : n ≤ 1000000) (hbase : base ≤ w.heap.size)
    (h : ∀ g cap' w', w'.ownsRow base 9 1 (.slice (some ⟨g, 0, none⟩) ((n + 1 : Nat)) cap') (n + 1) (xs ++ [.string y]) → w.grownBy w' v.ownBlock →
      ((Value.slice (some ⟨g, 0, none⟩) ((n + 1 : Nat)) cap').ownBlock = v.ownBlock ∨ (Value.slice (some ⟨g, 0, none⟩) ((n + 1 : Nat)) cap').ownBlock = some w.heap.size) →
      wpList Try.prog ops Q rest (a.put o.dst (.slice (some ⟨g, 0, none⟩) ((n + 1 : Nat)) cap')) w') : wpList Try.prog ops Q (o :: rest) a w := by
  obtain ⟨i0, hi, hz0, hz1, hz2⟩ := info_parts info9
  obtain ⟨v', w', hr, h2, h3, h4⟩ := run_append_at (P := Try.prog) w base 22 o.type 9 i0 (.string ⟨#[]⟩) 16 Try.underlying22 hi hz0 hz1 hz2 rfl v n xs hown ad 1 c [.string y] rfl (by decide)
    (by
      intro j u hj
      match j, hj with
      | 0, hj =>
        simp at hj
        subst hj
        have e : ad.add 0 = ad := by cases ad with | mk b k p => unfold Addr.add; cases p <;> simp
        rw [e]
        exact hc)
    (by intro u hu; simp at hu; subst hu; rfl) (by unfold maxLen; omega) (by omega) hbase
  refine BigFrame.wpList_want hgd fun K hK => ?_
  unfold Oper.wp execOp
  simp only [ho, resolve, invoke, builtin, Sem.run_bind, Sem.run_pure, Result.andThen_ok, List.map_toArray, List.map_cons, List.map_nil, hs, hx, hr]
  rcases h2.2 with ⟨rfl, hn⟩ | ⟨g, cap', cur, rfl, _⟩
  · omega
  · exact hK _ _ (h g cap' w' h2 h3 h4)

end

theorem list_range_getD {α : Type} (d : α) (l : List α) : l = (List.range l.length).map (fun i => l.getD i d) := by
  apply List.ext_getElem
  · simp
  · intro i h1 h2
    simp [List.getD_eq_getElem?_getD, List.getElem?_eq_getElem h1]

end Go.Proofs.Ytdbhgdnhdnfhiaa
