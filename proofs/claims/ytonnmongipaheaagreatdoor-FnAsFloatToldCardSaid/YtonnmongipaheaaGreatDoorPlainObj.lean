/- impl.plain at an object. impl.plain. -/
import Derived.Test.YtonnmongipaheaaGreatDoorPlain
import Derived.Deep.RegionHeld3
namespace Go.Proofs.YtonnmongipaheaaGreatDoor
open Go.RowKit Go.Maps
set_option linter.unusedVariables false

theorem K9 : Keyed Tryz.prog 9 := string_keyed Tryz.underlying9

theorem keyOf9 (k : ByteArray) (hs : k.size ≤ 140737488351232) : keyOf Tryz.prog 9 (.string k) = some (keyLit k) := WideMaps.keyOf_string_mk Tryz.underlying9 (by unfold maxLen; omega)

theorem ownsMap_below {w w1 : World} {b n : Nat} {D : DataW Value} (h : w.ownsMap Tryz.prog 9 heldElem b n D) (hb : Below w.heap.size w w1) : w1.ownsMap Tryz.prog 9 heldElem b n D :=
  h.kept (row := none) ⟨hb.os, hb.tape, hb.output, hb.size, fun k hk _ => hb.block k hk⟩ (by simp)

theorem cell_move {w w' : World} {a : Addr} {v : Value} (h : w.cell? a = some v) (hb : w'.heap[a.block]? = w.heap[a.block]?) : w'.cell? a = some v := (World.cell?_of_block (w := w) hb).trans h

/-- What the round of plain's loop reads. -/
def ReadsAt (n0 m kb ko j kc kl : Nat) (key : ByteArray) (c : Nat → Value) (w : World) : Prop :=
  w.cell? ⟨n0, 5, none⟩ = some (.slice (some ⟨kb, ko, none⟩) kl kc) ∧ w.cell? ⟨kb, ko + j, none⟩ = some (.string key) ∧ w.cell? ⟨m, 0, none⟩ = some (c 0) ∧ w.cell? ⟨m, 1, none⟩ = some (c 1) ∧ w.cell? ⟨m, 2, none⟩ = some (c 2) ∧ w.cell? ⟨m, 3, none⟩ = some (c 3) ∧ w.cell? ⟨m, 4, none⟩ = some (c 4) ∧ w.cell? ⟨m, 5, none⟩ = some (c 5)

theorem ReadsAt.kept {n0 m kb ko j kc kl : Nat} {key : ByteArray} {c : Nat → Value} {w w' : World} (h : ReadsAt n0 m kb ko j kc kl key c w) (h1 : w'.heap[n0]? = w.heap[n0]?) (h2 : w'.heap[kb]? = w.heap[kb]?) (h3 : w'.heap[m]? = w.heap[m]?) : ReadsAt n0 m kb ko j kc kl key c w' := by
  obtain ⟨a, b, c0, c1, c2, c3, c4, c5⟩ := h
  exact ⟨cell_move a h1, cell_move b h2, cell_move c0 h3, cell_move c1 h3, cell_move c2 h3, cell_move c3 h3, cell_move c4 h3, cell_move c5 h3⟩

theorem ReadsAt.below {n0 m kb ko j kc kl : Nat} {key : ByteArray} {c : Nat → Value} {w w' : World} (h : ReadsAt n0 m kb ko j kc kl key c w) (hb : Below w.heap.size w w') : ReadsAt n0 m kb ko j kc kl key c w' :=
  h.kept (hb.block _ (World.block_lt_of_cell? w _ h.1)) (hb.block _ (World.block_lt_of_cell? w _ h.2.1)) (hb.block _ (World.block_lt_of_cell? w _ h.2.2.1))

theorem ReadsAt.grown {n0 m kb ko j kc kl g : Nat} {key : ByteArray} {c : Nat → Value} {w w' : World} (h : ReadsAt n0 m kb ko j kc kl key c w) (hb : w.grownBy w' (some g)) (h1 : n0 ≠ g) (h2 : kb ≠ g) (h3 : m ≠ g) : ReadsAt n0 m kb ko j kc kl key c w' :=
  h.kept (hb.block _ (World.block_lt_of_cell? w _ h.1) (by simpa using h1)) (hb.block _ (World.block_lt_of_cell? w _ h.2.1) (by simpa using h2)) (hb.block _ (World.block_lt_of_cell? w _ h.2.2.1) (by simpa using h3))

/-- The map so far. -/
def Mapped (w : World) (g : Nat) (keys : List ByteArray) (L : List Value) : Prop := ∃ n D, w.ownsMap Tryz.prog 9 heldElem g n D ∧ n ≤ L.length ∧ MapIs D (keys.take L.length) (fun j => L.getD j undef)

theorem take_succ' (keys : List ByteArray) (n : Nat) (h : n < keys.length) : keys.take (n + 1) = keys.take n ++ [keys[n]] := by
  rw [List.take_add_one, List.getElem?_eq_getElem h]; rfl

theorem not_mem_take (keys : List ByteArray) (hd : keys.Nodup) (n : Nat) (h : n < keys.length) : keys[n] ∉ keys.take n := by
  intro hm
  obtain ⟨i, hi, e⟩ := List.getElem_of_mem hm
  rw [List.getElem_take] at e
  have hi' : i < n := by simp at hi; omega
  have := (List.nodup_iff_pairwise_ne.1 hd)
  have := List.pairwise_iff_getElem.1 this i n (by omega) h hi'
  exact this e

theorem lt_maxLen {n : Nat} (h : n ≤ 1000000) : n < maxLen := by unfold maxLen; omega

/-- One entry more. -/
theorem Mapped.step {w : World} {g : Nat} {keys : List ByteArray} {L : List Value} (h : Mapped w g keys L) (hlt : L.length < keys.length) (hlen : keys.length ≤ 1000000) (hd : keys.Nodup) (hs : (keys[L.length]).size ≤ 140737488351232) (x : Value) :
    ∃ w', (Instr.mapUpdate 64 (.map (some g)) (.string keys[L.length]) x).run Tryz.prog w = .ok () w' ∧ Mapped w' g keys (L ++ [x]) ∧ w.grownBy w' (some g) := by
  obtain ⟨n, D, ho, hn, hm⟩ := h
  obtain ⟨w', hrun, ho', hg⟩ := ho.update K9 Tryz.underlying64 (lt_maxLen (by omega)) (keyOf9 keys[L.length] hs) (d := .held x) (ps := []) rfl
  refine ⟨w', hrun, ⟨n + 1, _, ho', by simp; omega, ?_⟩, hg⟩
  have e : (L ++ [x]).length = L.length + 1 := by simp
  rw [e, take_succ' keys L.length hlt]
  have el : (keys.take L.length).length = L.length := by simp; omega
  refine hm.put keys[L.length] (not_mem_take keys hd _ hlt) x _ ?_ ?_
  · intro j hj
    rw [el] at hj
    simp [List.getD_eq_getElem?_getD, List.getElem?_append_left hj]
  · rw [el]
    simp [List.getD_eq_getElem?_getD]

theorem Mapped.below {w w1 : World} {g : Nat} {keys : List ByteArray} {L : List Value} (h : Mapped w g keys L) (hb : Below w.heap.size w w1) : Mapped w1 g keys L := by
  obtain ⟨n, D, ho, r⟩ := h
  exact ⟨n, D, ownsMap_below ho hb, r⟩

theorem makeMap_hint (W : World) (n : Nat) : (Instr.makeMap 64 (some (.int .i64 (n : Int)))).run Tryz.prog W = .ok (.map (some W.heap.size)) (W.alloc (.map #[] 0)) := by
  have hu : (underlying 64).run Tryz.prog W = .ok (.map 9 20) W := run_underlying Tryz.underlying64 W
  simp only [Instr.makeMap, Sem.run_bind, hu, Result.andThen_ok]
  rfl

theorem idx_of : ∀ (ks : List ByteArray), ks.Nodup → ∃ J : ByteArray → Nat, ∀ j (hj : j < ks.length), J ks[j] = j
  | [], _ => ⟨fun _ => 0, fun j hj => absurd hj (by simp)⟩
  | k0 :: ks, hd => by
    rw [List.nodup_cons] at hd
    obtain ⟨J, hJ⟩ := idx_of ks hd.2
    refine ⟨fun k => if k = k0 then 0 else J k + 1, fun j hj => ?_⟩
    cases j with
    | zero => simp
    | succ j =>
      have hj' : j < ks.length := by simpa using hj
      simp only [List.getElem_cons_succ]
      rw [if_neg (fun e => hd.1 (by rw [← e]; exact List.getElem_mem hj')), hJ j hj']

set_option maxRecDepth 100000 in
set_option maxHeartbeats 4000000 in
theorem plain_obj (t : V) (v : Value) (w : World) (hrep : Rep w v t) (hk : t.k = 8) (hl : t.l.length ≤ 1000000) (hkl : t.keys.length = t.l.length) (hd : t.keys.Nodup)
    (ih : ∀ j (hj : j < t.l.length) (u : Value) (w' : World), Rep w' u t.l[j] → Calls Tryz.prog 18 #[u] w' (PlainPost t.l[j] w')) : Calls Tryz.prog 18 #[v] w (PlainPost t w) := by
  obtain ⟨la, ka, lc, kc, cs, ho⟩ := hrep.open_
  obtain rfl := ho.eq
  have s4 := ho.hl
  have s5 := ho.hlc
  have HK := hid hk
  have HO := hid ho
  have HD := hid hd
  have HL := hid hkl
  rw [hk] at HO ⊢
  clear ho hrep hk hd hkl
  have hmake := fun W => makeMap_hint W t.l.length
  go_enter Tryz.func18, Tryz.ntmps18
  go_wp2_with (fail)
  have HM0 : Hid (Mapped ((w.alloc (.cells #[.int .i64 8, .int .i64 t.n, .float .f64 t.f, .string t.s, .slice la t.l.length lc, .slice ka t.keys.length kc] 26)).alloc (.map #[] 0)) (w.heap.size + 1) t.keys []) := hid ⟨0, _, by have := World.ownsMap_made (w.alloc (.cells #[.int .i64 8, .int .i64 t.n, .float .f64 t.f, .string t.s, .slice la t.l.length lc, .slice ka t.keys.length kc] 26)) Tryz.prog 9 heldElem; simpa using this, by simp, by simpa using MapIs.nil _⟩
  go_loopw [67] (fun k wr => ∃ (L : List Value), k = .int .i64 (L.length : Int) ∧ L.length ≤ t.l.length ∧ wr.cell? ⟨w.heap.size, 5, none⟩ = some (.slice ka t.keys.length kc) ∧ Hid (Mapped wr (w.heap.size + 1) t.keys L) ∧ Hid (w.heap.size + 2 ≤ wr.heap.size) ∧
      Hid (Laid wr (w.heap.size + 1) t.l L) ∧ Hid (Below w.heap.size w wr)) (fun k _ => t.l.length - (intOf k).toNat)
  case atStart => exact ⟨[], rfl, by simp, by simp, HM0, hid (by simp), hid (Laid.nil _ _ _), hid (((Below.refl _ w).alloc (Nat.le_refl _) _).alloc (by simp) _)⟩
  case round =>
    obtain ⟨L, rfl, hL, c5, MM, WS, LD, BW⟩ := hrel
    by_cases hlt : L.length < t.l.length
    · obtain ⟨b, o, rfl, hc⟩ := (HO.out.kept BW.out).hla L.length hlt
      have HC := hid hc
      have RP := hid ((HO.out.kept BW.out).hr L.length hlt)
      have hkl' : L.length < t.keys.length := by rw [HL.out]; exact hlt
      obtain ⟨hks, kb, ko, rfl, hkc⟩ := HO.out.hka L.length hkl'
      have KB : Hid (kb < w.heap.size) := hid (World.block_lt_of_cell? w _ hkc)
      have KC := hid ((BW.out.cell (p := ⟨kb, ko + L.length, none⟩) KB.out).trans hkc)
      have KS := hid hks
      clear hc hkc hks
      go_wp2_with (first
        | (refine wpList_load26 rfl (.tmp 70) rfl b (o + L.length * 6) rfl (cs L.length) HC.out ?_)
        | (refine wpList_store26 rfl rfl (.tmp 8) (.tmp 71) rfl wr.heap.size _ rfl rfl RP.out.cells.1 RP.out.cells.2 _ rfl (heap_alloc_new wr _) ?_; intro w2 hg2 hb2 hz2'; have G2 := hid hg2; have B2 : Hid (Below wr.heap.size wr w2) := hid (((Below.refl _ wr).alloc (Nat.le_refl _) _).trans hb2); have Z2 := hid hz2'; clear hg2 hb2 hz2'))
      have S0 : Hid (ReadsAt w.heap.size wr.heap.size kb ko L.length kc t.keys.length t.keys[L.length] (cs L.length) w2) := hid ⟨(B2.out.cell (p := ⟨w.heap.size, 5, none⟩) (by have := WS.out; simp only; omega)).trans c5, (B2.out.cell (p := ⟨kb, ko + L.length, none⟩) (by have := WS.out; have := KB.out; simp only; omega)).trans KC.out,
        (cell_of_row _ _ 0 _ 26 (0, 0) G2.out).trans rfl, (cell_of_row _ _ 1 _ 26 (0, 0) G2.out).trans rfl, (cell_of_row _ _ 2 _ 26 (0, 0) G2.out).trans rfl, (cell_of_row _ _ 3 _ 26 (0, 0) G2.out).trans rfl, (cell_of_row _ _ 4 _ 26 (0, 0) G2.out).trans rfl, (cell_of_row _ _ 5 _ 26 (0, 0) G2.out).trans rfl⟩
      have RP2 := hid (RP.out.kept (B2.out.drew))
      have M2 : Hid (Mapped w2.drew (w.heap.size + 1) t.keys L) := hid ((MM.out.below B2.out).below (Below.refl _ w2).drew)
      have i0 : (0 : Int) ≤ (L.length : Int) := by omega
      have i1 : (L.length : Int) < (t.keys.length : Int) := by omega
      clear c5
      go_region_held3 (fun w' => w'.cell? ⟨w.heap.size, 5, none⟩ = some (.slice (some ⟨kb, ko, none⟩) t.keys.length kc) ∧ w'.cell? ⟨kb, ko + L.length, none⟩ = some (.string t.keys[L.length]) ∧ w'.cell? ⟨wr.heap.size, 0, none⟩ = some (cs L.length 0) ∧ w'.cell? ⟨wr.heap.size, 1, none⟩ = some (cs L.length 1) ∧ w'.cell? ⟨wr.heap.size, 2, none⟩ = some (cs L.length 2) ∧ w'.cell? ⟨wr.heap.size, 3, none⟩ = some (cs L.length 3) ∧ w'.cell? ⟨wr.heap.size, 4, none⟩ = some (cs L.length 4) ∧ w'.cell? ⟨wr.heap.size, 5, none⟩ = some (cs L.length 5))
        (first | exact S0.out | exact S3.out | exact S4.out)
        (first
          | (go_at_call 18; refine (ih L.length hlt _ w2.drew RP2.out).mono ?_; rintro e w3 ⟨x, rfl, hx3, hb3⟩; have X3 := hid hx3; have B3 := hid hb3; clear hx3 hb3; have S3 := hid (S0.out.below (w' := w3) ((Below.refl _ w2).drew.trans B3.out)); obtain ⟨w4, hup, hm4, hg4⟩ := (M2.out.below B3.out).step hkl' (by have := HL.out; omega) HD.out KS.out x; have M4 := hid hm4; have G4 := hid hg4; clear hm4 hg4; have S4 := hid (S3.out.grown G4.out (by omega) (by have := KB.out; omega) (by have := WS.out; omega))))
      go_wp2_with (fail)
      go_roundw
      have B12 : Below wr.heap.size wr w3 := B2.out.trans (((Below.refl _ w2).drew.trans B3.out).mono B2.out.size)
      have sz34 : w3.heap.size ≤ w4.heap.size := G4.out.size
      have A34 : ∀ k, w.heap.size + 1 < k → k < w3.heap.size → w4.heap[k]? = w3.heap[k]? := fun k h1 h2 => G4.out.block k h2 (fun e => by cases e; omega)
      have A4 : ∀ k, w.heap.size + 1 < k → k < wr.heap.size → w4.heap[k]? = wr.heap[k]? := fun k h1 h2 => (A34 k h1 (by have := B12.size; omega)).trans (B12.block k h2)
      refine ⟨L ++ [x], by simp, by simp; omega, ?_, M4, ?_, ?_, ?_⟩
      · have := S4.out.1
        exact this
      · exact hid (by have := G4.out.size; have := B12.size; have := WS.out; omega)
      · exact hid (LD.out.add (by have := B12.size; omega) A4 hlt (X3.out.kept fun k k1 k2 k3 => A34 k (by have := B2.out.size; have := WS.out; simp at k1; omega) k3) (by have := B2.out.size; simp; omega) (by have := WS.out; omega) sz34)
      · exact hid ((BW.out.trans (B12.mono (by have := WS.out; omega))).grown G4.out (by have := B12.size; have := WS.out; omega) (fun k e => by cases e; omega))
      · simp only [intOf]; omega
    · go_wp2_with (fail)
      go_ret
      refine ⟨_, rfl, ?_, BW.out⟩
      have e : L.length = t.l.length := by omega
      have hL' := LD.out
      obtain ⟨n, D, hown, hn, hm⟩ := MM.out
      have e2 : t.keys.take L.length = t.keys := by rw [e, ← HL.out]; simp
      rw [e2] at hm
      obtain ⟨_, los, his, h1, h2, h3⟩ := hL'
      obtain ⟨J, hJ⟩ := idx_of t.keys HD.out
      have HL' := HL.out
      have at_ : ∀ k, k ∈ t.keys → ∃ j, ∃ h : j < t.keys.length, k = t.keys[j] ∧ J k = j := fun k hk => by
        obtain ⟨j, hj, rfl⟩ := List.getElem_of_mem hk
        exact ⟨j, hj, rfl, hJ j hj⟩
      refine .obj _ _ t HK.out (w.heap.size + 1) n D (fun k => L.getD (J k) undef) (fun k => los (J k)) (fun k => his (J k)) (by omega) (by have := WS.out; omega) hown (by omega) hm.tidy hm.has_ ?_ HL' HD.out ?_ ?_ ?_
      · intro k hk z
        obtain ⟨j, hj, rfl, e1⟩ := at_ k hk
        rw [e1]
        exact hm.at_ j hj z
      · intro k hk
        obtain ⟨j, hj, rfl, e1⟩ := at_ k hk
        rw [e1]
        have := h1 j (by omega)
        exact ⟨by omega, this.2, .inl this.1⟩
      · intro k k' hk hk' hne
        obtain ⟨j, hj, rfl, e1⟩ := at_ k hk
        obtain ⟨j', hj', rfl, e2⟩ := at_ k' hk'
        rw [e1, e2]
        rcases Nat.lt_trichotomy j j' with h | h | h
        · exact .inl (h2 j j' h (by omega))
        · subst h
          exact absurd rfl hne
        · exact .inr (h2 j' j h (by omega))
      · intro k hk
        obtain ⟨j, hj, rfl, e1⟩ := at_ k hk
        rw [e1, look_at HL' HD.out j hj]
        rw [getD_len _ _ _ (by omega)]
        exact h3 j (by omega) (by omega)
end Go.Proofs.YtonnmongipaheaaGreatDoor

namespace Go.Proofs.YtonnmongipaheaaGreatDoor
open Go.RowKit Go.Maps
set_option linter.unusedVariables false

theorem plain_any (n : Nat) : ∀ (t : V) (v : Value) (w : World), SizeOf.sizeOf t ≤ n → Rep w v t → Fine t → Calls Tryz.prog 18 #[v] w (PlainPost t w) := by
  induction n with
  | zero => intro t v w hn; cases t; simp at hn
  | succ n ih =>
    intro t v w hn hrep hf
    have hlt : ∀ j (hj : j < t.l.length), SizeOf.sizeOf t.l[j] ≤ n := fun j hj => by
      have := V.l_lt (List.getElem_mem hj)
      omega
    have hll := hf.len.1
    by_cases h7 : t.k = 7
    · exact plain_arr t v w hrep h7 (by omega) fun j hj u w' hr => ih _ u w' (hlt j hj) hr (fine_elem hf j hj)
    · by_cases h8 : t.k = 8
      · have h8' := hf.obj h8
        exact plain_obj t v w hrep h8 (by omega) h8'.1 h8'.2 fun j hj u w' hr => ih _ u w' (hlt j hj) hr (fine_elem hf j hj)
      · exact plain_scalar t v w hrep (by have := fine_kind hf; omega)
end Go.Proofs.YtonnmongipaheaaGreatDoor
