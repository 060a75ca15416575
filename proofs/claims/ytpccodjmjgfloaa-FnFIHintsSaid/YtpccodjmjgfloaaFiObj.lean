/-
  The hash map as an object: New, Set, Get, Exists, Delete, Len, Cap.
-/
import Derived.Test.YtpccodjmjgfloaaFiSet
import Derived.Test.YtpccodjmjgfloaaFiRup
import Derived.Test.YtpccodjmjgfloaaFiDel
import Derived.Test.YtpccodjmjgfloaaFiReb
import Derived.Test.YtpccodjmjgfloaaFiFlo
import Derived.RegionTactic
import Derived.WalkLawsBesides
namespace Go.Proofs.Ytpccodjmjgfloaa.fi
open Go.RowKit Go.Proofs.Ytpccodjmjgfloaa.base Go.Proofs.Ytpccodjmjgfloaa.heap Go.Proofs.Ytpccodjmjgfloaa.rows
set_option linter.unusedVariables false

/-- the map, in memory -/
structure Fi (H : Nat → Nat) (w : World) (ob tb L E c : Nat) (T : Tb) : Prop where
  obj : w.heap[ob]? = some (.cells #[.int .u64 (c : Int), .slice (some ⟨tb, 0, none⟩) L L] 77 (0, 0))
  siz : Siz L E
  tab : Tab w tb L T
  ok : Ok H L T
  cnt : occ T ≤ c
  room : 4 * c ≤ 3 * L
  low : L ≤ 1024
  apart : ¬ tfoot tb T ob
def Fi.foot (ob tb : Nat) (T : Tb) (k : Nat) : Prop := k = ob ∨ tfoot tb T k
theorem Fi.keep {H : Nat → Nat} {w w' : World} {ob tb L E c : Nat} {T : Tb} {S : Nat → Prop} (h : Fi H w ob tb L E c T) (ho : Only S w w') (hn : ∀ k, Fi.foot ob tb T k → ¬ S k) : Fi H w' ob tb L E c T :=
  ⟨ho.obj h.obj (hn _ (.inl rfl)), h.siz, h.tab.keep ho (fun k hk => hn k (.inr hk)), h.ok, h.cnt, h.room, h.low, h.apart⟩
theorem Fi.lt {H : Nat → Nat} {w : World} {ob tb L E c : Nat} {T : Tb} (h : Fi H w ob tb L E c T) : ∀ k, Fi.foot ob tb T k → k < w.heap.size := by
  rintro k (rfl | hk)
  · exact lt_of_heap h.obj
  · exact h.tab.lt k hk

set_option maxRecDepth 100000 in
set_option maxHeartbeats 800000 in
theorem lenM {H : Nat → Nat} {w : World} {ob tb L E c : Nat} {T : Tb} (h : Fi H w ob tb L E c T) : Calls Try.prog 32 #[.pointer (some ⟨ob, 0, none⟩)] w fun e w' => e = .returned (.int .u64 (c : Int)) ∧ w = w' := by
  have q0 : w.cell? ⟨ob, 0, none⟩ = some (.int .u64 (c : Int)) := block_cell h.obj rfl
  clear h
  go_enter Try.func32, Try.ntmps32
  go_wp2
  go_ret
  exact ⟨rfl, rfl⟩

set_option maxRecDepth 100000 in
set_option maxHeartbeats 800000 in
theorem capM {H : Nat → Nat} {w : World} {ob tb L E c : Nat} {T : Tb} (h : Fi H w ob tb L E c T) : Calls Try.prog 33 #[.pointer (some ⟨ob, 0, none⟩)] w fun e w' => e = .returned (.int .u64 (L : Int)) ∧ w = w' := by
  have q0 : w.cell? ⟨ob, 1, none⟩ = some (.slice (some ⟨tb, 0, none⟩) L L) := block_cell h.obj rfl
  have hL := h.low
  clear h
  go_enter Try.func33, Try.ntmps33
  go_wp2
  go_ret
  exact ⟨rfl, rfl⟩

set_option maxRecDepth 100000 in
set_option maxHeartbeats 800000 in
theorem getM {H : Nat → Nat} (hH : Hsh H) {w : World} {ob tb L E c : Nat} {T : Tb} (h : Fi H w ob tb L E c T) (k : Nat) (hk : k < B64) : Calls Try.prog 29 #[.pointer (some ⟨ob, 0, none⟩), .int .u64 (k : Int)] w fun e w' =>
    ∃ i, Found H L T k i ∧ e = .returned (.tuple #[.int .u64 (((slot T i).map (·.v)).getD 0 : Nat), .bool (slot T i).isSome]) ∧ Same w w' := by
  have q0 : w.cell? ⟨ob, 1, none⟩ = some (.slice (some ⟨tb, 0, none⟩) L L) := block_cell h.obj rfl
  have hL := h.low
  have HC := Lib.hid (getP hH h.siz tb L (by omega) T k hk w h.tab h.ok.room)
  clear h hH hk
  go_enter Try.func29, Try.ntmps29
  go_wp2_with fail
  refine HC.out.mono ?_
  rintro e w1 ⟨i, hf, rfl, hs⟩
  have HX : Hid (Found H L T k i ∧ Same w w1) := Lib.hid ⟨hf, hs⟩
  clear hf hs HC
  go_wp2
  go_ret2
  exact ⟨i, HX.out.1, rfl, HX.out.2⟩

set_option maxRecDepth 100000 in
set_option maxHeartbeats 800000 in
theorem existsM {H : Nat → Nat} (hH : Hsh H) {w : World} {ob tb L E c : Nat} {T : Tb} (h : Fi H w ob tb L E c T) (k : Nat) (hk : k < B64) : Calls Try.prog 30 #[.pointer (some ⟨ob, 0, none⟩), .int .u64 (k : Int)] w fun e w' =>
    ∃ i, Found H L T k i ∧ e = .returned (.bool (slot T i).isSome) ∧ Same w w' := by
  have q0 : w.cell? ⟨ob, 1, none⟩ = some (.slice (some ⟨tb, 0, none⟩) L L) := block_cell h.obj rfl
  have hL := h.low
  have HC := Lib.hid (existsP hH h.siz tb L (by omega) T k hk w h.tab h.ok.room)
  clear h hH hk
  go_enter Try.func30, Try.ntmps30
  go_wp2_with fail
  refine HC.out.mono ?_
  rintro e w1 ⟨i, hf, rfl, hs⟩
  have HX : Hid (Found H L T k i ∧ Same w w1) := Lib.hid ⟨hf, hs⟩
  clear hf hs HC
  go_wp2
  go_ret
  exact ⟨i, HX.out.1, rfl, HX.out.2⟩

theorem putNew {H : Nat → Nat} (hH : Hsh H) {w1 w2 : World} {ob tb L E c : Nat} {T : Tb} (hs : Siz L E) (ht : Tab w1 tb L T) (hok : Ok H L T) (hocc : occ T ≤ c) (hroom : 4 * (c + 1) ≤ 3 * L) (hlow : L ≤ 1024) (hap : ¬ tfoot tb T ob) (hob : ob < w1.heap.size)
    (k v : Nat) (hk : k < B64) (hv : v < B64) (hO : Only (fun _ => False) w1 w2) (pb : Nat) (hpb : w1.heap.size ≤ pb) (hpk : w2.heap[pb]? = some (.cells #[.int .u64 (k : Int), .int .u64 (v : Int)] 82 (0, 0))) :
    Calls Try.prog 36 #[.slice (some ⟨tb, 0, none⟩) L L, .pointer (some ⟨pb, 0, none⟩)] w2 fun e w' => e = .returned (.tuple #[]) ∧ Hid (∃ T', Ok H L T' ∧ occ T' ≤ c + 1 ∧ Tab w' tb L T' ∧ (∀ a u, Has T' a u ↔ (a ≠ k ∧ Has T a u) ∨ (a = k ∧ u = v)) ∧ ¬ tfoot tb T' ob ∧ Only (tfoot tb T) w1 w' ∧ ∀ j, tfoot tb T' j → tfoot tb T j ∨ j = pb) := by
  have hpf : ¬ tfoot tb T pb := fun h => by have := ht.lt pb h; omega
  refine (setP hH hs tb L (by omega) T k v pb hk hv w2 (ht.keep hO (fun _ _ => id)) hok.room hpk hpf).mono ?_
  rintro e w' ⟨T', rfl, ⟨i, hi, ⟨h1, h2⟩ | ⟨p, h1, h2, h3⟩⟩, ht', ho, _⟩
  · refine ⟨rfl, Lib.hid ⟨T', ?_⟩⟩
    obtain ⟨g1, g2, g3⟩ := set_new (p := ⟨k, v, pb⟩) hok hi h1 (by omega)
    rw [← h2] at g1 g2 g3
    have hno := found_none hok hi h1
    refine ⟨g1, by omega, ht', fun a u => (g2 a u).trans ⟨?_, ?_⟩, ?_, (hO.mono (fun _ _ h => h.elim)).trans ho (fun _ _ h => h), ?_⟩
    · rintro (h | h)
      · refine .inl ⟨?_, h⟩
        obtain ⟨j, q, a1, a2, _⟩ := h
        intro e
        exact hno j q a1 (a2.trans e)
      · exact .inr h
    · rintro (h | h)
      · exact .inl h.2
      · exact .inr h
    · rintro (h | ⟨j, q, hq, h⟩)
      · exact hap (.inl h)
      · rw [h2, slot_set T i j _ (by rw [hok.len]; exact hi.lt)] at hq
        split at hq
        · cases hq; simp at h; omega
        · exact hap (.inr ⟨j, q, hq, h⟩)
    · rintro x (h | ⟨j, q, hq, h⟩)
      · exact .inl (.inl h)
      · rw [h2, slot_set T i j _ (by rw [hok.len]; exact hi.lt)] at hq
        split at hq
        · cases hq; exact .inr h
        · exact .inl (.inr ⟨j, q, hq, h⟩)
  · refine ⟨rfl, Lib.hid ⟨T', ?_⟩⟩
    obtain ⟨g1, g2, g3⟩ := set_val (v := v) hok h1
    rw [← h3] at g1 g2 g3
    refine ⟨g1, by omega, ht', fun a u => by rw [g2 a u, h2], ?_, (hO.mono (fun _ _ h => h.elim)).trans ho (fun _ _ h => h), ?_⟩
    · rintro (h | ⟨j, q, hq, h⟩)
      · exact hap (.inl h)
      · rw [h3, slot_set T i j _ (slot_lt h1)] at hq
        split at hq
        · cases hq; exact hap (.inr ⟨i, p, h1, h⟩)
        · exact hap (.inr ⟨j, q, hq, h⟩)
    · rintro x (h | ⟨j, q, hq, h⟩)
      · exact .inl (.inl h)
      · rw [h3, slot_set T i j _ (slot_lt h1)] at hq
        split at hq
        · cases hq; exact .inl (.inr ⟨i, p, h1, h⟩)
        · exact .inl (.inr ⟨j, q, hq, h⟩)

theorem Fi.bump {H : Nat → Nat} {w : World} {ob tb L E c : Nat} {T : Tb} (hob : w.heap[ob]? = some (.cells #[.int .u64 (c : Int), .slice (some ⟨tb, 0, none⟩) L L] 77 (0, 0))) (hs : Siz L E) (ht : Tab w tb L T) (hok : Ok H L T) (d : Nat) (x : Int) (hx : x = (d : Int)) (hc : occ T ≤ d) (hr : 4 * d ≤ 3 * L) (hl : L ≤ 1024) (hap : ¬ tfoot tb T ob) : Fi H (w.setCell ⟨ob, 0, none⟩ (.int .u64 x)) ob tb L E d T := by
  subst hx
  exact ⟨setCell_heap hob 0 _, hs, ht.keep ((Only.refl (fun k => k = ob) w).setCell _ _ (fun _ => rfl)) (fun k hk e => hap (by rw [← e]; exact hk)), hok, hc, hr, hl, hap⟩

set_option maxRecDepth 100000 in
set_option maxHeartbeats 800000 in
theorem setM {H : Nat → Nat} (hH : Hsh H) {w : World} {ob tb L E c : Nat} {T : Tb} (h : Fi H w ob tb L E c T) (k v : Nat) (hk : k < B64) (hv : v < B64) (hc : c < 200) : Calls Try.prog 28 #[.pointer (some ⟨ob, 0, none⟩), .int .u64 (k : Int), .int .u64 (v : Int)] w fun e w' =>
    ∃ tb' L' E' T', e = .returned (.tuple #[]) ∧ Fi H w' ob tb' L' E' (c + 1) T' ∧ (∀ a u, Has T' a u ↔ (a ≠ k ∧ Has T a u) ∨ (a = k ∧ u = v)) ∧ Only (Fi.foot ob tb T) w w' ∧ ∀ j, Fi.foot ob tb' T' j → Fi.foot ob tb T j ∨ w.heap.size ≤ j := by
  have q0 : w.cell? ⟨ob, 0, none⟩ = some (.int .u64 (c : Int)) := block_cell h.obj rfl
  have q1 : w.cell? ⟨ob, 1, none⟩ = some (.slice (some ⟨tb, 0, none⟩) L L) := block_cell h.obj rfl
  have hL := h.low
  have HF := Lib.hid h
  have HH := Lib.hid (And.intro hH (And.intro hk hv))
  have HE : Hid (E < 11) := Lib.hid (by
    have h1 := h.siz.eq
    have : (2 : Nat) ^ E < 2 ^ 11 := by rw [← h1]; omega
    exact (Nat.pow_lt_pow_iff_right (by omega)).1 this)
  obtain ⟨r, hr, ho⟩ := full_ok c E hc HE.out
  rw [← h.siz.eq] at hr ho
  have hdv : (binOp .quo 78 (.float .f64 (floatOfInt .f64 ((c : Int) + 1))) (.float .f64 (floatOfInt .f64 (L : Int)))).run Try.prog w.drew = .ok (.float .f64 r) w.drew := run_float_arith _ _ _ _ _ _ _ hr
  unfold cross at ho
  clear hr hH hk hv
  by_cases hfull : 3 * L < 4 * (c + 1)
  · have ho1 : (FloatKind.f64.format.order r 4604930618986332160 == some .gt) = true := by rw [ho]; exact decide_eq_true hfull
    have HR := Lib.hid (rebuild HH.out.1 h.siz (by omega) ob tb c T w.drew (h.tab.keep ((Only.refl (fun _ => False) w).drew) (fun _ _ => id)) h.ok h.obj h.apart)
    clear h ho
    go_enter Try.func28, Try.ntmps28
    go_wp2_with fail
    go_region
    all_goals go_wp2_with fail
    refine HR.out.mono ?_
    rintro e w1 ⟨tb', U, rfl, hob1, ht1, hm1, hap1, hsz1, ho1⟩
    have HU : Hid (Siz (2 * L) (E + 1) ∧ Tab w1 tb' (2 * L) U ∧ Moved H (2 * L) T L U ∧ ¬ tfoot tb' U ob ∧ w.heap.size ≤ tb' ∧ Only (fun x => x = ob) w w1) := Lib.hid ⟨⟨by rw [HF.out.siz.eq, Nat.pow_succ]; omega, by have := HE.out; omega⟩, ht1, hm1, hap1, hsz1, ho1.undrew⟩
    have HB1 := Lib.hid hob1
    have q2 : w1.cell? ⟨ob, 1, none⟩ = some (.slice (some ⟨tb', 0, none⟩) (2 * L) (2 * L)) := block_cell hob1 rfl
    clear hob1 ht1 hm1 hap1 hsz1 ho1 HR q0 q1
    go_wp2_with fail
    refine (putNew HH.out.1 HU.out.1 HU.out.2.1 HU.out.2.2.1.ok (c := c) (by
      have h1 := HU.out.2.2.1.occ'
      rw [List.take_of_length_le (by rw [HF.out.tab.len]; exact Nat.le_refl _)] at h1
      have := HF.out.cnt; omega) (by have := HF.out.room; have := HF.out.siz.pos; omega) (by omega) HU.out.2.2.2.1 (lt_of_heap HB1.out) k v HH.out.2.1 HH.out.2.2 ((Only.refl _ w1).alloc _) w1.heap.size (Nat.le_refl _) (heap_alloc_new w1 _)).mono ?_
    rintro e w3 ⟨rfl, HX⟩
    have hob3 : w3.heap[ob]? = some (.cells #[.int .u64 (c : Int), .slice (some ⟨tb', 0, none⟩) (2 * L) (2 * L)] 77 (0, 0)) := by
      obtain ⟨T', _, _, _, _, _, hx, _⟩ := HX.out
      exact hx.obj HB1.out HU.out.2.2.2.1
    have HB3 := Lib.hid hob3
    have q3 : w3.cell? ⟨ob, 0, none⟩ = some (.int .u64 (c : Int)) := block_cell hob3 rfl
    have f3 : w3.frozen? ⟨ob, 0, none⟩ = false := block_free hob3
    clear hob3 q2
    go_wp2_with fail
    go_end0
    obtain ⟨T', x1, x2, x3, x4, x5, x6, x7⟩ := HX.out
    have hfoot : Only (Fi.foot ob tb T) w w3 := (HU.out.2.2.2.2.2.mono (fun _ _ h => .inl h)).trans x6 (by
      rintro k1 hk1 (h | ⟨j, q, hq, h⟩)
      · have := HU.out.2.2.2.2.1; omega
      · obtain ⟨i, _, hi⟩ := HU.out.2.2.1.sub j q hq
        exact .inr (.inr ⟨i, q, hi, h⟩))
    have hhas : ∀ a u, Has U a u ↔ Has T a u := fun a u => (HU.out.2.2.1.has a u).trans ⟨fun ⟨j, q, _, h⟩ => ⟨j, q, h⟩, fun ⟨j, q, h⟩ => ⟨j, q, by have := slot_lt h.1; rw [HF.out.tab.len] at this; exact this, h⟩⟩
    exact ⟨tb', 2 * L, E + 1, T', rfl, Fi.bump HB3.out HU.out.1 x3 x1 (c + 1) _ rfl x2 (by have := HF.out.room; have := HF.out.siz.pos; omega) (by omega) x5, fun a u => by rw [x4, hhas], hfoot.setCell _ _ (fun _ => .inl rfl), fun j hj => by
      rcases hj with h | h
      · exact .inl (.inl h)
      · rcases x7 j h with (h | ⟨j2, q, hq, h⟩) | h
        · have := HU.out.2.2.2.2.1; exact .inr (by omega)
        · obtain ⟨i, _, hi⟩ := HU.out.2.2.1.sub j2 q hq
          exact .inl (.inr (.inr ⟨i, q, hi, h⟩))
        · have := HU.out.2.2.2.2.2.size; exact .inr (by omega)⟩
  · have ho1 : (FloatKind.f64.format.order r 4604930618986332160 == some .gt) = false := by rw [ho]; exact decide_eq_false hfull
    clear h ho
    go_enter Try.func28, Try.ntmps28
    go_wp2_with fail
    go_region
    all_goals go_wp2_with fail
    refine (putNew HH.out.1 HF.out.siz HF.out.tab HF.out.ok HF.out.cnt (by omega) hL HF.out.apart (lt_of_heap HF.out.obj) k v HH.out.2.1 HH.out.2.2 ((Only.refl _ w).alloc _).drew w.heap.size (Nat.le_refl _) (heap_alloc_new w _)).mono ?_
    rintro e w3 ⟨rfl, HX⟩
    have hob3 : w3.heap[ob]? = some (.cells #[.int .u64 (c : Int), .slice (some ⟨tb, 0, none⟩) L L] 77 (0, 0)) := by
      obtain ⟨T', _, _, _, _, _, hx, _⟩ := HX.out
      exact hx.obj HF.out.obj HF.out.apart
    have HB3 := Lib.hid hob3
    have q3 : w3.cell? ⟨ob, 0, none⟩ = some (.int .u64 (c : Int)) := block_cell hob3 rfl
    have f3 : w3.frozen? ⟨ob, 0, none⟩ = false := block_free hob3
    clear hob3 q0 q1
    go_wp2_with fail
    go_end0
    obtain ⟨T', x1, x2, x3, x4, x5, x6, x7⟩ := HX.out
    exact ⟨tb, L, E, T', rfl, Fi.bump HB3.out HF.out.siz x3 x1 (c + 1) _ rfl x2 (by omega) hL x5, x4, (x6.mono (fun _ _ h => .inr h)).setCell _ _ (fun _ => .inl rfl), fun j hj => by
      rcases hj with h | h
      · exact .inl (.inl h)
      · rcases x7 j h with h | h
        · exact .inl (.inr h)
        · exact .inr (by omega)⟩
set_option maxRecDepth 100000 in
set_option maxHeartbeats 800000 in
theorem delM {H : Nat → Nat} (hH : Hsh H) {w : World} {ob tb L E c : Nat} {T : Tb} (h : Fi H w ob tb L E c T) (k : Nat) (hk : k < B64) (hc : c ≤ 200) : Calls Try.prog 31 #[.pointer (some ⟨ob, 0, none⟩), .int .u64 (k : Int)] w fun e w' =>
    ∃ c' T', e = .returned (.tuple #[]) ∧ Fi H w' ob tb L E c' T' ∧ ((c' = c ∧ ¬ ∃ v, Has T k v) ∨ (c' + 1 = c ∧ ∃ v, Has T k v)) ∧ (∀ a v, Has T' a v ↔ a ≠ k ∧ Has T a v) ∧ Only (Fi.foot ob tb T) w w' ∧ ∀ j, Fi.foot ob tb T' j → Fi.foot ob tb T j := by
  have q0 : w.cell? ⟨ob, 1, none⟩ = some (.slice (some ⟨tb, 0, none⟩) L L) := block_cell h.obj rfl
  have hL := h.low
  have HC := Lib.hid (deleteP hH h.siz tb L (by omega) T k hk w h.tab h.ok)
  have HF := Lib.hid h
  clear h hH hk
  go_enter Try.func31, Try.ntmps31
  go_wp2_with fail
  refine HC.out.mono ?_
  rintro e w1 (⟨rfl, hno, hs⟩ | ⟨T', v, rfl, hv, hg, ht, hsub, ho⟩)
  · have HX : Hid ((∀ j p, slot T j = some p → p.k ≠ k) ∧ Same w w1) := Lib.hid ⟨hno, hs⟩
    clear hno hs HC
    go_wp2_with fail
    go_end0
    have hn : ¬ ∃ v, Has T k v := fun ⟨v, j, p, hp, h1, _⟩ => HX.out.1 j p hp h1
    exact ⟨c, T, rfl, HF.out.keep HX.out.2 (fun _ _ => id), .inl ⟨rfl, hn⟩, fun a v => ⟨fun h => ⟨fun e => hn ⟨v, by rw [← e]; exact h⟩, h⟩, fun h => h.2⟩, HX.out.2.mono (fun _ _ h => h.elim), fun _ h => h⟩
  · have hc1 : 1 ≤ c := by have := HF.out.cnt; have := hg.2.2; omega
    have hob : w1.heap[ob]? = some (.cells #[.int .u64 (c : Int), .slice (some ⟨tb, 0, none⟩) L L] 77 (0, 0)) := ho.obj HF.out.obj HF.out.apart
    have q1 : w1.cell? ⟨ob, 0, none⟩ = some (.int .u64 (c : Int)) := block_cell hob rfl
    have f1 : w1.frozen? ⟨ob, 0, none⟩ = false := block_free hob
    have HX : Hid (Has T k v ∧ Gone H L T k T' ∧ Tab w1 tb L T' ∧ Sub T' T ∧ Only (tfoot tb T) w w1) := Lib.hid ⟨hv, hg, ht, hsub, ho⟩
    have HB := Lib.hid hob
    clear hv hg ht hsub ho hob HC q0
    go_wp2_with fail
    go_end0
    obtain ⟨x1, x2, x3, x4, x5⟩ := HX.out
    exact ⟨c - 1, T', rfl, Fi.bump HB.out HF.out.siz x3 x2.1 (c - 1) _ (by omega) (by have := HF.out.cnt; have := x2.2.2; omega) (by have := HF.out.room; omega) hL (fun h => HF.out.apart (x4.foot h)), .inr ⟨by omega, v, x1⟩, x2.2.1, (x5.mono (fun _ _ h => .inr h)).setCell _ _ (fun _ => .inl rfl), fun j hj => hj.imp id x4.foot⟩

theorem new_fi (H : Nat → Nat) (w : World) {nb L e : Nat} (hnb : nb = w.heap.size) (hs : Siz L e) (hle : L ≤ 1024) (ht : Tab (w.alloc (.cells (nilRow L) 80 (0, 0))) nb L (empty L)) :
    Fi H ((w.alloc (.cells (nilRow L) 80 (0, 0))).alloc (.cells #[.int .u64 0, .slice (some ⟨nb, 0, none⟩) L L] 77 (0, 0))) (w.heap.size + 1) nb L e 0 (empty L) ∧ w.heap.size ≤ w.heap.size + 1 ∧ w.heap.size ≤ nb ∧
    Only (fun _ => False) w ((w.alloc (.cells (nilRow L) 80 (0, 0))).alloc (.cells #[.int .u64 0, .slice (some ⟨nb, 0, none⟩) L L] 77 (0, 0))) := by
  refine ⟨⟨heap_alloc_new' _ _ _ (by show w.heap.size + 1 = (w.heap.push _).size; rw [Array.size_push]), hs, ht.keep ((Only.refl (fun _ => False) _).alloc _) (fun _ _ => id), ok_empty H hs.pos.1, by rw [occ_empty]; exact Nat.zero_le _, by omega, hle, ?_⟩, by omega, by omega, ((Only.refl _ w).alloc _).alloc _⟩
  rintro (h | ⟨j, p, hp, _⟩)
  · omega
  · rw [slot_empty] at hp; cases hp

set_option maxRecDepth 100000 in
set_option maxHeartbeats 800000 in
theorem newM (H : Nat → Nat) (h : Nat) (hh : h < 601) (w : World) : Calls Try.prog 27 #[.int .u64 (h : Int)] w fun e w' =>
    ∃ ob tb L E, e = .returned (.pointer (some ⟨ob, 0, none⟩)) ∧ Fi H w' ob tb L E 0 (empty L) ∧ w.heap.size ≤ ob ∧ w.heap.size ≤ tb ∧ Only (fun _ => False) w w' := by
  obtain ⟨g, hg⟩ : ∃ g, g = if h = 0 then 16 else h := ⟨_, rfl⟩
  have hg1 : 1 ≤ g ∧ g < 601 := by rw [hg]; split <;> omega
  obtain ⟨e, he, h1, h2, h3⟩ := rup_ok g (by omega) hg1.1
  have HR := Lib.hid (roundUp g (by omega) hg1.1 w)
  obtain ⟨L, hL⟩ : ∃ L, L = rup g := ⟨_, rfl⟩
  rw [← hL] at HR h1 h2 h3
  have hsz : Siz L e := ⟨h1, by omega⟩
  have hle : L ≤ 1024 := by
    rcases Nat.lt_or_ge e 11 with h4 | h4
    · rw [h1]; exact Nat.pow_le_pow_right (n := 2) (by omega) (show e ≤ 10 by omega)
    · have : 2 ^ 11 ≤ 2 ^ e := Nat.pow_le_pow_right (by omega) h4
      omega
  have hmk := make_pkts L (by omega) w
  obtain ⟨nb, hnb⟩ : ∃ nb, nb = w.heap.size := ⟨_, rfl⟩
  have HT0 : Hid (Tab (w.alloc (.cells (nilRow L) 80 (0, 0))) nb L (empty L)) := Lib.hid (by rw [hnb]; exact made_tab L w)
  rw [← hnb] at hmk
  have HS := Lib.hid hsz
  have HNB := Lib.hid hnb
  clear hL h1 h2 h3 hsz hnb
  by_cases h0 : h = 0
  · rw [if_pos h0] at hg
    subst hg h0
    go_enter Try.func27, Try.ntmps27
    go_wp2_with fail
    refine HR.out.mono ?_
    rintro e1 w1 ⟨rfl, rfl⟩
    go_wp2_with fail
    go_ret
    obtain ⟨g1, g2, g3, g4⟩ := new_fi H w HNB.out HS.out hle HT0.out
    exact ⟨_, nb, L, e, rfl, g1, g2, g3, g4⟩
  · rw [if_neg h0] at hg
    subst hg
    have h0' : ¬ (g : Int) = 0 := by omega
    go_enter Try.func27, Try.ntmps27
    go_wp2_with fail
    refine HR.out.mono ?_
    rintro e1 w1 ⟨rfl, rfl⟩
    go_wp2_with fail
    go_ret
    obtain ⟨g1, g2, g3, g4⟩ := new_fi H w HNB.out HS.out hle HT0.out
    exact ⟨_, nb, L, e, rfl, g1, g2, g3, g4⟩
end Go.Proofs.Ytpccodjmjgfloaa.fi
