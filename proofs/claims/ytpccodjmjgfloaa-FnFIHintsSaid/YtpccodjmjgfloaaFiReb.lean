/-
  The hash map's rebuild: every packet of a table goes into a table of twice the size.
-/
import Derived.Test.YtpccodjmjgfloaaFiSet
import Derived.Test.YtpccodjmjgfloaaFiRup
import Derived.RegionTactic
namespace Go.Proofs.Ytpccodjmjgfloaa.fi
open Go.RowKit Go.Proofs.Ytpccodjmjgfloaa.base Go.Proofs.Ytpccodjmjgfloaa.heap Go.Proofs.Ytpccodjmjgfloaa.rows
set_option linter.unusedVariables false

def empty (L : Nat) : Tb := List.replicate L none
theorem slot_empty (L j : Nat) : slot (empty L) j = none := by
  unfold slot empty
  rw [List.getD_eq_getElem?_getD, List.getElem?_replicate]
  split <;> rfl
theorem occ_empty (L : Nat) : occ (empty L) = 0 := by
  unfold occ empty
  rw [List.countP_eq_zero]
  intro a ha
  rw [(List.mem_replicate.1 ha).2]
  simp
theorem ok_empty (H : Nat → Nat) {L : Nat} (h : 0 < L) : Ok H L (empty L) :=
  ⟨by simp [empty], fun j p hp => by (rw [slot_empty] at hp; cases hp), fun i j p q hp => by (rw [slot_empty] at hp; cases hp), by rw [occ_empty]; exact h⟩
theorem has_empty (L k v : Nat) : ¬ Has (empty L) k v := by rintro ⟨j, p, hp, _⟩; rw [slot_empty] at hp; cases hp
theorem tab_empty {w : World} {tb L : Nat} {arr : Array Value} (h : w.heap[tb]? = some (.cells arr 80 (0, 0))) (ha : ∀ j, j < L → arr[j]? = some (.pointer none)) : Tab w tb L (empty L) :=
  ⟨by simp [empty], ⟨arr, h, fun j hj => by rw [slot_empty]; exact ha j hj⟩, fun j p hp => by (rw [slot_empty] at hp; cases hp), fun i j p q hp => by rw [slot_empty] at hp; cases hp⟩

/-- the first n places have been put into U -/
structure Moved (H : Nat → Nat) (M : Nat) (T : Tb) (n : Nat) (U : Tb) : Prop where
  ok : Ok H M U
  has : ∀ k v, Has U k v ↔ ∃ j p, j < n ∧ slot T j = some p ∧ p.k = k ∧ p.v = v
  occ : occ U ≤ n
  occ' : fi.occ U = fi.occ (T.take n)
  sub : ∀ j p, slot U j = some p → ∃ i, i < n ∧ slot T i = some p
theorem occ_take {T : Tb} {n : Nat} (hn : n < T.length) : occ (T.take (n + 1)) = occ (T.take n) + (slot T n).isSome.toNat := by
  unfold occ slot
  rw [List.take_add_one, List.getElem?_eq_getElem hn, List.countP_append, List.getD_eq_getElem?_getD, List.getElem?_eq_getElem hn]
  cases T[n] <;> simp
theorem moved_zero (H : Nat → Nat) {M : Nat} (h : 0 < M) (T : Tb) : Moved H M T 0 (empty M) :=
  ⟨ok_empty H h, fun k v => ⟨fun h => absurd h (has_empty M k v), fun ⟨j, p, h, _⟩ => by omega⟩, by rw [occ_empty]; exact Nat.le_refl _, by rw [occ_empty]; rfl, fun j p hp => by rw [slot_empty] at hp; cases hp⟩
theorem Moved.skip {H : Nat → Nat} {M : Nat} {T : Tb} {n : Nat} {U : Tb} (h : Moved H M T n U) (hn : n < T.length) (hs : slot T n = none) : Moved H M T (n + 1) U := by
  refine ⟨h.ok, fun k v => (h.has k v).trans ⟨fun ⟨j, p, a, b⟩ => ⟨j, p, by omega, b⟩, fun ⟨j, p, a, b, c⟩ => ⟨j, p, ?_, b, c⟩⟩, by have := h.occ; omega, by rw [occ_take hn, hs]; exact h.occ', fun j p hp => by obtain ⟨i, hi, e⟩ := h.sub j p hp; exact ⟨i, by omega, e⟩⟩
  rcases Nat.lt_or_ge j n with h1 | h1
  · exact h1
  · have : j = n := by omega
    subst this; rw [hs] at b; cases b
/-- a packet is not yet there -/
theorem Moved.fresh {H : Nat → Nat} {L M : Nat} {T : Tb} {n : Nat} {U : Tb} {p : Pk} (h : Moved H M T n U) (hok : Ok H L T) (hs : slot T n = some p) : ∀ j q, slot U j = some q → q.k ≠ p.k := fun j q hq hk => by
  obtain ⟨i, hi, e⟩ := h.sub j q hq
  have := hok.inj i n q p e hs hk
  omega
theorem Moved.step {H : Nat → Nat} {L M : Nat} {T : Tb} {n : Nat} {U U' : Tb} {p : Pk} (h : Moved H M T n U) (hok : Ok H L T) (hn : n < T.length) (hM : n + 1 < M) (hs : slot T n = some p) (hp : Put H M U p.k p.v p.b U') : Moved H M T (n + 1) U' := by
  have hf := h.fresh hok hs
  obtain ⟨i, hi, ⟨h1, h2⟩ | ⟨q, h1, h2, _⟩⟩ := hp
  · have hocc := h.occ
    obtain ⟨g1, g2, g3⟩ := set_new (p := ⟨p.k, p.v, p.b⟩) h.ok hi h1 (by omega)
    rw [← h2] at g1 g2 g3
    refine ⟨g1, fun k v => (g2 k v).trans ⟨?_, ?_⟩, by omega, by rw [g3, occ_take hn, hs, h.occ']; rfl, fun j q hq => ?_⟩
    · rintro (h3 | ⟨h3, h4⟩)
      · obtain ⟨j, q, a, b⟩ := (h.has k v).1 h3
        exact ⟨j, q, by omega, b⟩
      · exact ⟨n, p, by omega, hs, h3.symm, h4.symm⟩
    · rintro ⟨j, q, a, b, c, d⟩
      rcases Nat.lt_or_ge j n with h3 | h3
      · exact .inl ((h.has k v).2 ⟨j, q, h3, b, c, d⟩)
      · have : j = n := by omega
        subst this
        rw [hs] at b; cases b
        exact .inr ⟨c.symm, d.symm⟩
    · rw [h2] at hq
      rw [slot_set U i j _ (by rw [h.ok.len]; exact hi.lt)] at hq
      split at hq
      · cases hq; exact ⟨n, by omega, hs⟩
      · obtain ⟨i', hi', e⟩ := h.sub j q hq
        exact ⟨i', by omega, e⟩
  · exact absurd h2 (hf i q h1)

def nilRow (k : Nat) : Array Value := madeCells (Value.pointer none).cells (k * 1)
theorem nilRow_at {k j : Nat} (h : j < k) : (nilRow k)[j]? = some (.pointer none) := by
  rw [← Array.getElem?_toList]
  unfold nilRow
  rw [made_one _ rfl, List.getElem?_replicate, if_pos h]
theorem make_pkts (k : Nat) (hk : k ≤ 1048576) (w : World) : (Instr.makeSlice 75 (.int .u64 (k : Int)) (.int .u64 (k : Int))).run Try.prog w =
    .ok (.slice (some ⟨w.heap.size, 0, none⟩) k k) (w.alloc (.cells (nilRow k) 80 (0, 0))) :=
  make_eq (P := Try.prog) (e := 80) (size := 1) (t := 75) (z := .pointer none) (bytes := 8) .u64 .u64 Try.underlying75 (by kernel_rfl) k (by omega) (by omega) w
theorem made_tab (k : Nat) (w : World) : Tab (w.alloc (.cells (nilRow k) 80 (0, 0))) w.heap.size k (empty k) := tab_empty (heap_alloc_new w _) (fun j hj => nilRow_at hj)

set_option maxRecDepth 100000 in
set_option maxHeartbeats 3200000 in
theorem rebuild {H : Nat → Nat} (hH : Hsh H) {L E : Nat} (hs : Siz L E) (hL : L < 2000) (ob tb c : Nat) (T : Tb) (w : World) (ht : Tab w tb L T) (hok : Ok H L T)
    (hob : w.heap[ob]? = some (.cells #[.int .u64 (c : Int), .slice (some ⟨tb, 0, none⟩) L L] 77 (0, 0))) (hno : ¬ tfoot tb T ob) :
    Calls Try.prog 35 #[.pointer (some ⟨ob, 0, none⟩)] w fun e w' => ∃ tb' U, e = .returned (.tuple #[]) ∧
      w'.heap[ob]? = some (.cells #[.int .u64 (c : Int), .slice (some ⟨tb', 0, none⟩) (2 * L) (2 * L)] 77 (0, 0)) ∧ Tab w' tb' (2 * L) U ∧ Moved H (2 * L) T L U ∧ ¬ tfoot tb' U ob ∧ w.heap.size ≤ tb' ∧ Only (fun x => x = ob) w w' := by
  have HT := Lib.hid ht
  have HOK := Lib.hid hok
  have HB := Lib.hid hob
  have HNO := Lib.hid hno
  have HS := Lib.hid (And.intro hH hs)
  have hLm := hs.pos
  obtain ⟨hL0, _⟩ := hLm
  have hE : E + 1 ≤ 20 := by
    have : E < 11 := (Nat.pow_lt_pow_iff_right (a := 2) (by omega)).1 (by rw [← hs.eq]; omega)
    omega
  have HRU := Lib.hid (fun w => roundUp (L + 1) (by omega) (by omega) w)
  have hrl : rup (L + 1) = 2 * L := by
    obtain ⟨e, he, h1, h2, h3⟩ := rup_ok (L + 1) (by omega) (by omega)
    rw [h1] at h2 h3
    rw [hs.eq] at h2 h3
    have a1 : E < e := (Nat.pow_lt_pow_iff_right (by omega)).1 (show 2 ^ E < 2 ^ e by omega)
    have a2 : e < E + 2 := by
      have : 2 ^ e < 2 ^ (E + 2) := by
        have hp : 2 ^ (E + 2) = 4 * 2 ^ E := by rw [Nat.pow_add]; omega
        have := Nat.pow_pos (a := 2) (n := E) (by omega)
        omega
      exact (Nat.pow_lt_pow_iff_right (by omega)).1 this
    have : e = E + 1 := by omega
    rw [h1, this, hs.eq, Nat.pow_succ]; omega
  have q0 : w.cell? ⟨ob, 0, none⟩ = some (.int .u64 (c : Int)) := block_cell hob rfl
  have q1 : w.cell? ⟨ob, 1, none⟩ = some (.slice (some ⟨tb, 0, none⟩) L L) := block_cell hob rfl
  have HQ1 := Lib.hid q1
  clear ht hok hob hno hH hs
  go_enter Try.func35, Try.ntmps35
  go_wp2_with fail
  refine (HRU.out w).mono ?_
  rintro e w1 ⟨rfl, rfl⟩
  rw [hrl]
  have hmul : (2 : Int) * (L : Int) = ((2 * L : Nat) : Int) := by omega
  have hmk : (Instr.makeSlice 75 (.int .u64 (2 * (L : Int))) (.int .u64 (2 * (L : Int)))).run Try.prog w = .ok (.slice (some ⟨w.heap.size, 0, none⟩) (2 * L) (2 * L)) (w.alloc (.cells (nilRow (2 * L)) 80 (0, 0))) := by
    rw [hmul]; exact make_pkts (2 * L) (by omega) w
  clear hmul
  have HO1 : Hid (Only (fun x => False) w (w.alloc (.cells (nilRow (2 * L)) 80 (0, 0)))) := Lib.hid ((Only.refl _ w).alloc _)
  have qa : (w.alloc (.cells (nilRow (2 * L)) 80 (0, 0))).cell? ⟨ob, 1, none⟩ = some (.slice (some ⟨tb, 0, none⟩) L L) := block_cell (HO1.out.obj HB.out id) rfl
  obtain ⟨nb, hnb⟩ : ∃ nb, nb = w.heap.size := ⟨_, rfl⟩
  have HNB := Lib.hid hnb
  have HT0 : Hid (Tab (w.alloc (.cells (nilRow (2 * L)) 80 (0, 0))) nb (2 * L) (empty (2 * L))) := Lib.hid (by rw [hnb]; exact made_tab (2 * L) w)
  rw [← hnb] at hmk
  clear hnb
  go_wp2_with fail
  go_loopw [4, 19] (fun _ x wr => ∃ (n : Nat) (U : Tb), n ≤ L ∧ x = .int .i64 (n : Int) ∧ Hid (Moved H (2 * L) T n U) ∧ Hid (Tab wr nb (2 * L) U) ∧ Hid (Only (fun _ => False) w wr)) (fun _ x _ => L - (intOf x).toNat)
  case atStart => exact ⟨0, empty (2 * L), Nat.zero_le _, rfl, Lib.hid (moved_zero H (by omega) T), HT0, HO1⟩
  case round =>
    obtain ⟨n, U, hn, rfl, HM, HTU, HO⟩ := hrel
    clear hmk qa q0 q1
    have HT2 : Hid (Tab wr tb L T) := Lib.hid (HT.out.keep HO.out (fun _ _ => id))
    rcases Nat.lt_or_ge n L with hlt | hge
    · have hlt' : (n : Int) < (L : Int) := by omega
      have hn0 : (0 : Int) ≤ (n : Int) := by omega
      have c0 := HT2.out.at.cell n hlt
      cases hsl : slot T n with
      | none =>
        rw [hsl] at c0
        simp only [pv] at c0
        have HM2 : Hid (Moved H (2 * L) T (n + 1) U) := Lib.hid (HM.out.skip (by rw [HT.out.len]; exact hlt) hsl)
        clear hsl
        go_wp2_with fail
        go_round
        case rel => exact ⟨n + 1, U, by omega, rfl, HM2, HTU, HO⟩
        case measure => simp [intOf]; omega
      | some p =>
        rw [hsl] at c0
        simp only [pv] at c0
        obtain ⟨g1, g2, g3, g4⟩ := HT2.out.pk n p hsl
        have HS2 : Siz (2 * L) (E + 1) := ⟨by rw [HS.out.2.eq, Nat.pow_succ]; omega, hE⟩
        have HC := Lib.hid (setP HS.out.1 HS2 nb (2 * L) (by omega) U p.k p.v p.b g3 g4 wr HTU.out (by have := HM.out.occ; omega) g1 (by
          rintro (h | ⟨j, q, hq, h⟩)
          · have := lt_of_heap (HT.out.pk n p hsl).1
            rw [HNB.out] at h; omega
          · obtain ⟨i, hi, hq2⟩ := HM.out.sub j q hq
            have := HT.out.binj i n q p hq2 hsl h.symm
            omega))
        have HFR : Hid (∀ j q, slot U j = some q → q.k ≠ p.k) := Lib.hid (HM.out.fresh HOK.out hsl)
        have HSL := Lib.hid hsl
        clear hsl g1 g2 g3 g4
        go_wp2_with fail
        refine HC.out.mono ?_
        rintro e1 w3 ⟨U3, rfl, hput, ht3, _, ho3⟩
        have HM2 : Hid (Moved H (2 * L) T (n + 1) U3) := Lib.hid (HM.out.step HOK.out (by rw [HT.out.len]; exact hlt) (by omega) HSL.out hput)
        have HT3 := Lib.hid ht3
        have HO3 : Hid (Only (fun _ => False) w w3) := Lib.hid (HO.out.trans (ho3 HFR.out) (fun k hk h => by rw [h, HNB.out] at hk; omega))
        clear hput ht3 ho3
        go_wp2_with fail
        go_round
        case rel => exact ⟨n + 1, U3, by omega, rfl, HM2, HT3, HO3⟩
        case measure => simp [intOf]; omega
    · have hnL : n = L := by omega
      subst hnL
      have hge' : ¬ (n : Int) < (n : Int) := by omega
      have hb2 := HO.out.obj HB.out id
      have q2 : wr.cell? ⟨ob, 1, none⟩ = some (.slice (some ⟨tb, 0, none⟩) n n) := block_cell hb2 rfl
      have f2 : wr.frozen? ⟨ob, 1, none⟩ = false := block_free hb2
      have HB2 := Lib.hid hb2
      clear hb2
      go_wp2_with fail
      go_end0
      have hO2 : Only (fun x => x = ob) wr (wr.setCell ⟨ob, 1, none⟩ (.slice (some ⟨nb, 0, none⟩) (2 * n) (2 * n))) := (Only.refl _ wr).setCell _ _ (fun _ => rfl)
      have hob := lt_of_heap HB.out
      have hnf : ¬ tfoot nb U ob := by
        rintro (h | ⟨j, q, hq, h⟩)
        · rw [h, HNB.out] at hob; omega
        · obtain ⟨i, hi, hq2⟩ := HM.out.sub j q hq
          exact HNO.out (.inr ⟨i, q, hq2, h⟩)
      exact ⟨rfl, nb, setCell_heap HB2.out 1 _, U, HTU.out.keep hO2 (fun k hk he => hnf (by rw [← he]; exact hk)), HM.out, hnf, by rw [HNB.out]; exact Nat.le_refl _, (HO.out.mono (fun _ _ h => h.elim)).setCell _ _ (fun _ => rfl)⟩
end Go.Proofs.Ytpccodjmjgfloaa.fi
