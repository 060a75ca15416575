/-
  The hash map's table in memory; set, get, exists.
-/
import Derived.Test.YtpccodjmjgfloaaFiFind
import Derived.RegionTactic
namespace Go.Proofs.Ytpccodjmjgfloaa.fi
open Go.RowKit Go.Proofs.Ytpccodjmjgfloaa.base Go.Proofs.Ytpccodjmjgfloaa.heap Go.Proofs.Ytpccodjmjgfloaa.rows
set_option linter.unusedVariables false

abbrev B64 : Nat := 18446744073709551616
/-- the table and its packets, in memory -/
structure Tab (w : World) (tb L : Nat) (T : Tb) : Prop where
  len : T.length = L
  row : ∃ arr : Array Value, w.heap[tb]? = some (.cells arr 80 (0, 0)) ∧ ∀ j, j < L → arr[j]? = some (pv (slot T j))
  pk : ∀ j p, slot T j = some p → w.heap[p.b]? = some (.cells #[.int .u64 (p.k : Int), .int .u64 (p.v : Int)] 82 (0, 0)) ∧ p.b ≠ tb ∧ p.k < B64 ∧ p.v < B64
  binj : ∀ i j p q, slot T i = some p → slot T j = some q → p.b = q.b → i = j
def tfoot (tb : Nat) (T : Tb) (k : Nat) : Prop := k = tb ∨ ∃ j p, slot T j = some p ∧ k = p.b
theorem Tab.at {w : World} {tb L : Nat} {T : Tb} (h : Tab w tb L T) : TabAt w tb L T := by
  obtain ⟨arr, hb, ha⟩ := h.row
  exact ⟨fun j hj => block_cell hb (ha j hj), fun j p hp => ⟨block_cell (h.pk j p hp).1 rfl, block_cell (h.pk j p hp).1 rfl⟩⟩
theorem Tab.keep {w w' : World} {tb L : Nat} {T : Tb} {S : Nat → Prop} (h : Tab w tb L T) (ho : Only S w w') (hn : ∀ k, tfoot tb T k → ¬ S k) : Tab w' tb L T := by
  obtain ⟨arr, hb, ha⟩ := h.row
  exact ⟨h.len, ⟨arr, ho.obj hb (hn _ (.inl rfl)), ha⟩, fun j p hp => by
    obtain ⟨h1, h2⟩ := h.pk j p hp
    exact ⟨ho.obj h1 (hn _ (.inr ⟨j, p, hp, rfl⟩)), h2⟩, h.binj⟩
theorem Tab.lt {w : World} {tb L : Nat} {T : Tb} (h : Tab w tb L T) : ∀ k, tfoot tb T k → k < w.heap.size := by
  rintro k (rfl | ⟨j, p, hp, rfl⟩)
  · obtain ⟨arr, hb, _⟩ := h.row; exact lt_of_heap hb
  · exact lt_of_heap (h.pk j p hp).1
/-- a place of the row is written -/
theorem Tab.store {w : World} {tb L : Nat} {T : Tb} (h : Tab w tb L T) {i : Nat} (hi : i < L) (x : Option Pk)
    (hx : ∀ p, x = some p → w.heap[p.b]? = some (.cells #[.int .u64 (p.k : Int), .int .u64 (p.v : Int)] 82 (0, 0)) ∧ p.b ≠ tb ∧ p.k < B64 ∧ p.v < B64)
    (hbi : ∀ p j q, x = some p → slot T j = some q → p.b = q.b → i = j) : Tab (w.setCell ⟨tb, i, none⟩ (pv x)) tb L (T.set i x) := by
  have hiT : i < T.length := by rw [h.len]; exact hi
  have hs : ∀ j, slot (T.set i x) j = if i = j then x else slot T j := fun j => slot_set T i j _ hiT
  have hO : Only (fun k => k = tb) w (w.setCell ⟨tb, i, none⟩ (pv x)) := (Only.refl (fun k => k = tb) w).setCell _ _ (fun _ => rfl)
  obtain ⟨arr, hb, ha⟩ := h.row
  refine ⟨by rw [List.length_set, h.len], ⟨arr.setIfInBounds i (pv x), setCell_heap hb i _, fun j hj => ?_⟩, fun j p hp => ?_, fun a b p q hp hq hpq => ?_⟩
  · rw [Array.getElem?_setIfInBounds, hs]
    have hai := ha i hi
    have hsz : i < arr.size := (Array.getElem?_eq_some_iff.1 hai).1
    by_cases hij : i = j
    · rw [if_pos hij, if_pos hij, if_pos hsz]
    · rw [if_neg hij, if_neg hij]
      exact ha j hj
  · rw [hs] at hp
    split at hp
    · obtain ⟨h1, h2⟩ := hx p hp
      exact ⟨hO.obj h1 h2.1, h2⟩
    · obtain ⟨h1, h2⟩ := h.pk j p hp
      exact ⟨hO.obj h1 h2.1, h2⟩
  · rw [hs] at hp hq
    split at hp <;> split at hq
    · omega
    · rename_i h1 h2; rw [← h1]; exact hbi p b q hp hq hpq
    · rename_i h1 h2; rw [← h2]; exact (hbi q a p hq hp hpq.symm).symm
    · exact h.binj a b p q hp hq hpq
/-- a packet's value is written -/
theorem Tab.val {w : World} {tb L : Nat} {T : Tb} (h : Tab w tb L T) {i : Nat} {p : Pk} (hp : slot T i = some p) (v : Nat) (hv : v < B64) : Tab (w.setCell ⟨p.b, 1, none⟩ (.int .u64 (v : Int))) tb L (T.set i (some ⟨p.k, v, p.b⟩)) := by
  have hiT := slot_lt hp
  have hs : ∀ j, slot (T.set i (some ⟨p.k, v, p.b⟩)) j = if i = j then some ⟨p.k, v, p.b⟩ else slot T j := fun j => slot_set T i j _ hiT
  have hO : Only (fun k => k = p.b) w (w.setCell ⟨p.b, 1, none⟩ (.int .u64 (v : Int))) := (Only.refl (fun k => k = p.b) w).setCell _ _ (fun _ => rfl)
  obtain ⟨arr, hb, ha⟩ := h.row
  obtain ⟨g1, g2, g3, g4⟩ := h.pk i p hp
  refine ⟨by rw [List.length_set, h.len], ⟨arr, hO.obj hb (fun e => g2 e.symm), fun j hj => ?_⟩, fun j q hq => ?_, fun a b q r hq hr hqr => ?_⟩
  · rw [hs]
    split
    · rename_i hij; subst hij; rw [ha i hj, hp]; rfl
    · exact ha j hj
  · rw [hs] at hq
    split at hq
    · cases hq
      exact ⟨setCell_heap g1 1 _, g2, g3, hv⟩
    · rename_i hij
      obtain ⟨h1, h2⟩ := h.pk j q hq
      exact ⟨hO.obj h1 (fun e => hij (h.binj i j p q hp hq e.symm)), h2⟩
  · have key : ∀ c s, slot (T.set i (some ⟨p.k, v, p.b⟩)) c = some s → ∃ u, slot T c = some u ∧ u.b = s.b := fun c s hcs => by
      rw [hs] at hcs
      split at hcs
      · cases hcs; rename_i hc; subst hc; exact ⟨p, hp, rfl⟩
      · exact ⟨s, hcs, rfl⟩
    obtain ⟨q', h1, h2⟩ := key a q hq
    obtain ⟨r', h3, h4⟩ := key b r hr
    exact h.binj a b q' r' h1 h3 (by rw [h2, h4, hqr])

/-- the hash, as it is -/
structure Hsh (H : Nat → Nat) : Prop where
  lt : ∀ k, H k < B64
  run : ∀ (k : Nat) w, Calls Try.prog 41 #[.int .u64 (k : Int)] w fun e w' => e = .returned (.int .u64 (H k : Int)) ∧ w = w'
/-- a table's size -/
structure Siz (L E : Nat) : Prop where
  eq : L = 2 ^ E
  le : E ≤ 20
theorem Siz.pos {L E : Nat} (h : Siz L E) : 0 < L ∧ L ≤ 1048576 := ⟨by rw [h.eq]; exact Nat.pow_pos (by omega), by rw [h.eq]; exact Nat.pow_le_pow_right (by omega) h.le⟩

theorem find' {H : Nat → Nat} (hH : Hsh H) {L E : Nat} (hs : Siz L E) {tb cap : Nat} (hc : L ≤ cap ∧ cap ≤ 9223372036854775807) {T : Tb} {key : Nat} (hk : key < B64) {w : World} (ht : Tab w tb L T) (hr : occ T < L) :
    Calls Try.prog 40 #[.slice (some ⟨tb, 0, none⟩) L cap, .int .u64 (key : Int)] w fun e w' => ∃ i, Found H L T key i ∧ e = .returned (.int .u64 (i : Int)) ∧ w = w' := by
  obtain ⟨e, he, hn⟩ := room_of_occ T (by rw [ht.len]; exact hr)
  exact find H hH.lt hH.run tb L cap E T key w hs.eq hs.le hc hk ht.at ⟨e, by rw [← ht.len]; exact he, hn⟩ (fun j p hp => (ht.pk j p hp).2.2.1)
theorem Found.lt {H : Nat → Nat} {L : Nat} {T : Tb} {key i : Nat} (h : Found H L T key i) : i < L := by
  obtain ⟨d, hd, hi, _⟩ := h
  rw [hi]; exact Nat.mod_lt _ (by omega)

/-- the table behind set -/
def Put (H : Nat → Nat) (L : Nat) (T : Tb) (k v b : Nat) (T' : Tb) : Prop :=
  ∃ i, Found H L T k i ∧ ((slot T i = none ∧ T' = T.set i (some ⟨k, v, b⟩)) ∨ ∃ p, slot T i = some p ∧ p.k = k ∧ T' = T.set i (some ⟨p.k, v, p.b⟩))

set_option maxRecDepth 100000 in
set_option maxHeartbeats 1600000 in
theorem setP {H : Nat → Nat} (hH : Hsh H) {L E : Nat} (hs : Siz L E) (tb cap : Nat) (hc : L ≤ cap ∧ cap ≤ 9223372036854775807) (T : Tb) (k v pb : Nat) (hk : k < B64) (hv : v < B64) (w : World) (ht : Tab w tb L T) (hr : occ T < L)
    (hp : w.heap[pb]? = some (.cells #[.int .u64 (k : Int), .int .u64 (v : Int)] 82 (0, 0))) (hpf : ¬ tfoot tb T pb) :
    Calls Try.prog 36 #[.slice (some ⟨tb, 0, none⟩) L cap, .pointer (some ⟨pb, 0, none⟩)] w fun e w' => ∃ T', e = .returned (.tuple #[]) ∧ Put H L T k v pb T' ∧ Tab w' tb L T' ∧ Only (tfoot tb T) w w' ∧ ((∀ j p, slot T j = some p → p.k ≠ k) → Only (fun x => x = tb) w w') := by
  have HF := Lib.hid (find' hH hs hc hk ht hr)
  have HT := Lib.hid ht
  have HP := Lib.hid hp
  have HPF := Lib.hid hpf
  have HKV := Lib.hid (And.intro hk hv)
  have hLm := hs.pos
  have p0 : w.cell? ⟨pb, 0, none⟩ = some (.int .u64 (k : Int)) := block_cell hp rfl
  have p1 : w.cell? ⟨pb, 1, none⟩ = some (.int .u64 (v : Int)) := block_cell hp rfl
  clear hH hs ht hr hp hpf hk hv
  go_enter Try.func36, Try.ntmps36
  go_wp2_with fail
  refine HF.out.mono ?_
  rintro e w1 ⟨i, hfd, rfl, rfl⟩
  have hiL := hfd.lt
  have hiL' : (i : Int) < (L : Int) := by omega
  have hi0 : (0 : Int) ≤ (i : Int) := by omega
  have HFD := Lib.hid hfd
  have c0 := HT.out.at.cell i hiL
  clear hfd HF
  cases hsl : slot T i with
  | none =>
    rw [hsl] at c0
    simp only [pv] at c0
    have f0 : w.frozen? ⟨tb, i, none⟩ = false := by obtain ⟨arr, hb, _⟩ := HT.out.row; exact block_free hb
    have HSL := Lib.hid hsl
    clear hsl
    go_wp2_with fail
    refine bodyPost_ret (results_none rfl _ _ _) rfl ?_
    refine ⟨T.set i (some ⟨k, v, pb⟩), rfl, ⟨i, HFD.out, .inl ⟨HSL.out, rfl⟩⟩, HT.out.store hiL (some ⟨k, v, pb⟩) (fun p hp => by cases hp; exact ⟨HP.out, fun e => HPF.out (.inl e), HKV.out.1, HKV.out.2⟩) (fun p j q hp hq e => by cases hp; exact absurd (.inr ⟨j, q, hq, e⟩) HPF.out), ?_⟩
    exact ⟨(Only.refl _ w).setCell _ _ (fun _ => .inl rfl), fun _ => (Only.refl _ w).setCell _ _ (fun _ => rfl)⟩
  | some p =>
    rw [hsl] at c0
    simp only [pv] at c0
    have hpk : p.k = k := by
      obtain ⟨d, _, _, _, h | ⟨q, hq, hk⟩⟩ := HFD.out
      · rw [h] at hsl; cases hsl
      · rw [hsl] at hq; cases hq; exact hk
    have HSL := Lib.hid (And.intro hsl hpk)
    have c1 : w.cell? ⟨p.b, 1, none⟩ = some (.int .u64 (p.v : Int)) := block_cell (HT.out.pk i p hsl).1 rfl
    have f1 : w.frozen? ⟨p.b, 1, none⟩ = false := block_free (HT.out.pk i p hsl).1
    clear hsl hpk
    go_wp2_with fail
    go_region
    all_goals go_wp2
    all_goals go_end0
    all_goals
      have ht' := HT.out.val HSL.out.1 v HKV.out.2
      have hS : Same (w.setCell ⟨p.b, 1, none⟩ (.int .u64 (v : Int))) (w.setCell ⟨p.b, 1, none⟩ (.int .u64 (v : Int))).drew := (Only.refl _ _).drew
      exact ⟨T.set i (some ⟨p.k, v, p.b⟩), rfl, ⟨i, HFD.out, .inr ⟨p, HSL.out.1, HSL.out.2, rfl⟩⟩, ht'.keep hS (fun _ _ => id), ((Only.refl _ w).setCell _ _ (fun _ => .inr ⟨i, p, HSL.out.1, rfl⟩)).drew, fun hno => absurd HSL.out.2 (hno i p HSL.out.1)⟩

set_option maxRecDepth 100000 in
set_option maxHeartbeats 800000 in
theorem getP {H : Nat → Nat} (hH : Hsh H) {L E : Nat} (hs : Siz L E) (tb cap : Nat) (hc : L ≤ cap ∧ cap ≤ 9223372036854775807) (T : Tb) (k : Nat) (hk : k < B64) (w : World) (ht : Tab w tb L T) (hr : occ T < L) :
    Calls Try.prog 37 #[.slice (some ⟨tb, 0, none⟩) L cap, .int .u64 (k : Int)] w fun e w' => ∃ i, Found H L T k i ∧ e = .returned (.tuple #[.int .u64 (((slot T i).map (·.v)).getD 0 : Nat), .bool (slot T i).isSome]) ∧ Same w w' := by
  have HF := Lib.hid (find' hH hs hc hk ht hr)
  have HT := Lib.hid ht
  have hLm := hs.pos
  clear hH hs ht hr hk
  go_enter Try.func37, Try.ntmps37
  go_wp2_with fail
  refine HF.out.mono ?_
  rintro e w1 ⟨i, hfd, rfl, rfl⟩
  have hiL := hfd.lt
  have hiL' : (i : Int) < (L : Int) := by omega
  have hi0 : (0 : Int) ≤ (i : Int) := by omega
  have HFD := Lib.hid hfd
  have c0 := HT.out.at.cell i hiL
  clear hfd HF
  cases hsl : slot T i with
  | none =>
    rw [hsl] at c0
    simp only [pv] at c0
    have HSL := Lib.hid hsl
    clear hsl
    go_wp2_with fail
    go_ret2
    exact ⟨i, HFD.out, by rw [HSL.out]; rfl, Only.refl _ _⟩
  | some p =>
    rw [hsl] at c0
    simp only [pv] at c0
    have c1 : w.cell? ⟨p.b, 1, none⟩ = some (.int .u64 (p.v : Int)) := block_cell (HT.out.pk i p hsl).1 rfl
    have HSL := Lib.hid hsl
    clear hsl
    go_wp2_with fail
    go_ret2
    exact ⟨i, HFD.out, by rw [HSL.out]; rfl, Only.refl _ _⟩

set_option maxRecDepth 100000 in
set_option maxHeartbeats 800000 in
theorem existsP {H : Nat → Nat} (hH : Hsh H) {L E : Nat} (hs : Siz L E) (tb cap : Nat) (hc : L ≤ cap ∧ cap ≤ 9223372036854775807) (T : Tb) (k : Nat) (hk : k < B64) (w : World) (ht : Tab w tb L T) (hr : occ T < L) :
    Calls Try.prog 38 #[.slice (some ⟨tb, 0, none⟩) L cap, .int .u64 (k : Int)] w fun e w' => ∃ i, Found H L T k i ∧ e = .returned (.bool (slot T i).isSome) ∧ Same w w' := by
  have HF := Lib.hid (find' hH hs hc hk ht hr)
  have HT := Lib.hid ht
  have hLm := hs.pos
  clear hH hs ht hr hk
  go_enter Try.func38, Try.ntmps38
  go_wp2_with fail
  refine HF.out.mono ?_
  rintro e w1 ⟨i, hfd, rfl, rfl⟩
  have hiL := hfd.lt
  have hiL' : (i : Int) < (L : Int) := by omega
  have hi0 : (0 : Int) ≤ (i : Int) := by omega
  have HFD := Lib.hid hfd
  have c0 := HT.out.at.cell i hiL
  clear hfd HF
  cases hsl : slot T i with
  | none =>
    rw [hsl] at c0
    simp only [pv] at c0
    have HSL := Lib.hid hsl
    clear hsl
    go_wp2_with fail
    go_ret
    exact ⟨i, HFD.out, by rw [HSL.out]; rfl, Only.refl _ _⟩
  | some p =>
    rw [hsl] at c0
    simp only [pv] at c0
    have HSL := Lib.hid hsl
    clear hsl
    go_wp2_with fail
    go_ret
    exact ⟨i, HFD.out, by rw [HSL.out]; rfl, Only.refl _ _⟩
end Go.Proofs.Ytpccodjmjgfloaa.fi
