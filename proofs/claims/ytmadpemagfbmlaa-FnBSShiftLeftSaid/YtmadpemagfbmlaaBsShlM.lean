/-
  Bitsets: ShiftLeft: the world in the course of it, with the words going to a row db (the bitset's own one, or a new one).
-/
import Derived.Test.YtmadpemagfbmlaaBsShlW
import Derived.Test.YtmadpemagfbmlaaBsDelete
namespace Go.Proofs.Ytmadpemagfbmlaa.bs
open Go.RowKit Go.Proofs.Ytmadpemagfbmlaa.base Go.Proofs.Ytmadpemagfbmlaa.heap Go.Proofs.Ytmadpemagfbmlaa.bit
set_option linter.unusedVariables false

/-- the length N is set; the words ws stand in the row db; the words of old that are still asked for stand -/
structure Mid (o : O) (N bb db dm dc : Nat) (ws : List Nat) (w wr : World) : Prop where
  obj : wr.heap[o.p]? = some (Obj.cells #[Value.int .u64 (N : Int), Value.slice (some ⟨bb, 0, none⟩) o.m o.cap] 67 (0, 0))
  dst : Own 69 1 wr (some ⟨db, 0, none⟩) dm dc (U ws)
  len : ws.length = dm
  fits : Ok ws
  ne : db ≠ o.p
  same : bb = db → dm = o.m
  foot : o.foot db ∨ w.heap.size ≤ db
  only : Only o.foot w wr
  src : ∀ j, j < o.m → (bb = db → ws.getD j 0 = o.ws.getD j 0) → wr.cell? ⟨bb, j, none⟩ = some (Value.int .u64 (o.ws.getD j 0 : Nat))
theorem Mid.facts {o : O} {N bb db dm dc : Nat} {ws : List Nat} {w wr : World} (h : Mid o N bb db dm dc ws w wr) :
    wr.cell? ⟨o.p, 0, none⟩ = some (.int .u64 (N : Int)) ∧ wr.cell? ⟨o.p, 1, none⟩ = some (.slice (some ⟨bb, 0, none⟩) o.m o.cap) ∧ wr.frozen? ⟨o.p, 0, none⟩ = false ∧ wr.frozen? ⟨o.p, 1, none⟩ = false ∧
    (∀ i, i < dm → wr.cell? ⟨db, i, none⟩ = some (.int .u64 (ws.getD i 0 : Nat))) ∧ (∀ i, wr.frozen? ⟨db, i, none⟩ = false) := by
  refine ⟨block_cell h.obj rfl, block_cell h.obj rfl, block_free h.obj, block_free h.obj, fun i hi => ?_, fun i => h.dst.frozen rfl i⟩
  obtain ⟨b', hb', _, hc⟩ := h.dst.at (by omega)
  cases hb'
  have := hc i _ (U_get ws i (by rw [h.len]; exact hi))
  simpa using this
theorem Mid.store {o : O} {N bb db dm dc j x : Nat} {ws : List Nat} {w wr : World} (h : Mid o N bb db dm dc ws w wr) (hj : j < dm) (hx : Lt64 x) : Mid o N bb db dm dc (ws.set j x) w (wr.setCell ⟨db, j, none⟩ (.int .u64 (x : Int))) := by
  have h1 := h.dst.set rfl j (.int .u64 (x : Int)) rfl (by omega)
  rw [U_set] at h1
  refine ⟨by rw [Below.heap_setCell _ _ _ _ (Ne.symm h.ne)]; exact h.obj, h1, by rw [List.length_set]; exact h.len, h.fits.set _ hx, h.ne, h.same, h.foot, h.only.setCell _ _ (fun hlt => ?_), fun i hi he => ?_⟩
  · rcases h.foot with hf | hf
    · exact hf
    · exact absurd hlt (Nat.not_lt.2 hf)
  · by_cases hb : bb = db
    · subst hb
      have he := he rfl
      have h2 : (wr.setCell ⟨bb, j, none⟩ (.int .u64 (x : Int))).cell? ⟨bb, i, none⟩ = some (.int .u64 ((ws.set j x).getD i 0 : Nat)) := by
        have hsm := h.same rfl
        have hil : i < (ws.set j x).length := by rw [List.length_set, h.len, hsm]; exact hi
        obtain ⟨b', hb', _, hc⟩ := h1.at (by omega)
        cases hb'
        have := hc i _ (U_get (ws.set j x) i hil)
        simpa using this
      rw [h2, he]
    · have h2 : (wr.setCell ⟨db, j, none⟩ (.int .u64 (x : Int))).cell? ⟨bb, i, none⟩ = wr.cell? ⟨bb, i, none⟩ := World.cell?_of_block (w := wr) (Below.heap_setCell _ _ _ _ hb)
      rw [h2]
      exact h.src i hi (fun e => absurd e hb)
theorem Mid.of_heap {o : O} {N bb db dm dc : Nat} {ws : List Nat} {w wr : World} (h : Mid o N bb db dm dc ws w wr) : Mid o N bb db dm dc ws w wr.drew :=
  ⟨h.obj, h.dst.drew, h.len, h.fits, h.ne, h.same, h.foot, h.only.drew, h.src⟩
theorem cell_lt {w : World} {b j : Nat} {v : Value} (h : w.cell? ⟨b, j, none⟩ = some v) : b < w.heap.size := by
  refine Classical.byContradiction fun hlt => ?_
  have : w.heap[b]? = none := by simp; omega
  unfold World.cell? at h
  simp [this] at h
/-- the old words can be read -/
theorem Mid.srcRd {o : O} {N bb db dm dc : Nat} {ws : List Nat} {w wr : World} (h : Mid o N bb db dm dc ws w wr) (hok : o.ok w) (he : bb = db → ∀ j, ws.getD j 0 = o.ws.getD j 0) : Rd 1 wr (some ⟨bb, 0, none⟩) o.m o.cap (U o.ws) := by
  have hr := hok.own.rd
  refine ⟨hr.len, hr.le, hr.max, hr.one, fun h0 => ⟨bb, 0, rfl, cell_lt (h.src 0 h0 (fun e => he e 0)), fun j v hj => ?_⟩, fun e => by cases e⟩
  have hj2 : j < o.ws.length := by
    have := (List.getElem?_eq_some_iff.1 hj).1
    rwa [U_len] at this
  rw [U_get _ _ hj2] at hj
  cases hj
  rw [Nat.zero_add]
  exact h.src j (by rw [← hok.len]; exact hj2) (fun e => he e j)
theorem Mid.copied {o : O} {N bb db dm dc p k : Nat} {ws : List Nat} {w wr w2 : World} {cur : Array Value} (h : Mid o N bb db dm dc ws w wr) (hok : o.ok w) (hcur : wr.heap[db]? = some (.cells cur 69 (0, 0)))
    (hs : cur.size = dc) (ht : cur.toList.take dm = U ws) (hpk : p + k ≤ dm) (hk : k ≤ o.m)
    (h2 : w2.heap[db]? = some (.cells (cur.toList.take p ++ (U o.ws).take k ++ cur.toList.drop (p + k)).toArray 69 (0, 0))) (hO : Only (fun j => j = db) wr w2) :
    Mid o N bb db dm dc (ws.take p ++ o.ws.take k ++ ws.drop (p + k)) w w2 := by
  have hl := h.len
  have hol := hok.len
  have hb := h.dst.bound
  have e0 : cur.toList = U ws ++ cur.toList.drop dm := by rw [← ht, List.take_append_drop]
  have e1 : cur.toList.take p ++ (U o.ws).take k ++ cur.toList.drop (p + k) = U (ws.take p ++ o.ws.take k ++ ws.drop (p + k)) ++ cur.toList.drop dm := by
    generalize cur.toList.drop dm = R at *
    rw [e0, List.take_append_of_le_length (by rw [U_len]; omega), List.drop_append_of_le_length (by rw [U_len]; omega), U_take, U_take, U_drop, ← U_app, ← U_app]
    simp
  have hlen : (ws.take p ++ o.ws.take k ++ ws.drop (p + k)).length = dm := by simp; omega
  have e2 : (cur.toList.take p ++ (U o.ws).take k ++ cur.toList.drop (p + k)).toArray.toList.take (dm * 1) = U (ws.take p ++ o.ws.take k ++ ws.drop (p + k)) := by
    rw [e1, List.toList_toArray, Nat.mul_one]
    exact List.take_left' (by rw [U_len, hlen])
  have h3 := Own.of_block (size := 1) h2 dm dc hb.1 h.dst.max (by
    rw [e1, List.size_toArray, List.length_append, U_len, hlen, List.length_drop, Array.length_toList, hs]; omega) (by rw [e2]; exact U_one _)
  rw [e2] at h3
  refine ⟨hO.obj h.obj (fun e => h.ne e.symm), h3, hlen, ?_, h.ne, h.same, h.foot, h.only.trans hO (fun j hj e => ?_), fun j hj he => ?_⟩
  · intro x hx
    rcases List.mem_append.1 hx with hx | hx
    · rcases List.mem_append.1 hx with hx | hx
      · exact h.fits x (List.mem_of_mem_take hx)
      · exact hok.fits x (List.mem_of_mem_take hx)
    · exact h.fits x (List.mem_of_mem_drop hx)
  · subst e
    rcases h.foot with hf | hf
    · exact hf
    · exact absurd hj (Nat.not_lt.2 hf)
  · by_cases hbd : bb = db
    · subst hbd
      have hsm := h.same rfl
      obtain ⟨b', hb', _, hc⟩ := h3.at (by omega)
      cases hb'
      have := hc j _ (U_get _ j (by rw [hlen, hsm]; exact hj))
      rw [Nat.zero_add] at this
      rw [this, he rfl]
    · have h4 := h.src j hj (fun e => absurd e hbd)
      rw [hO.cell (p := ⟨bb, j, none⟩) (cell_lt h4) hbd]
      exact h4
/-- in its own row -/
theorem Mid.own {o : O} {N bb : Nat} {w wr : World} (h : o.ok w) (hb : o.a = some ⟨bb, 0, none⟩) (hwr : wr = w.setCell ⟨o.p, 0, none⟩ (.int .u64 (N : Int)) ∨ (wr = w ∧ N = o.n)) : Mid o N bb bb o.m o.cap o.ws w wr := by
  have h1 : ({ o with n := N } : O).ok wr ∧ Only o.foot w wr := by
    rcases hwr with rfl | ⟨rfl, rfl⟩
    · exact ⟨setlen h N, (Only.refl o.foot w).setCell _ _ (fun _ => .inl rfl)⟩
    · exact ⟨h, Only.refl _ _⟩
  have hne : bb ≠ o.p := fun e => h.apart (by rw [hb, e]; exact rfl)
  have ho := h1.1.own
  have hj := h1.1.obj
  simp only [hb] at ho hj
  refine ⟨hj, ho, h.len, h.fits, hne, fun _ => rfl, .inl (.inr (by rw [hb]; rfl)), h1.2, fun i hi _ => ?_⟩
  obtain ⟨b', hb', _, _, _, _, _, _, _, hcs, _⟩ := h1.1.facts
  simp only [hb] at hb'
  cases hb'
  exact hcs i hi
/-- in a new row -/
theorem Mid.fresh {o : O} {N bb k : Nat} {w : World} (h : o.ok w) (hb : o.a = some ⟨bb, 0, none⟩) (hk : k ≤ 1099511627776) : Mid o N bb w.heap.size k k (List.replicate k 0) w ((w.alloc (.cells (zs k) 69)).setCell ⟨o.p, 0, none⟩ (.int .u64 (N : Int))) := by
  have hp := lt_of_heap h.obj
  have hne : w.heap.size ≠ o.p := by omega
  obtain ⟨b', hb', _, hbl, hbp, _, _, _, _, hcs, _⟩ := h.facts
  rw [hb] at hb'
  cases hb'
  have ho := h.obj
  rw [hb] at ho
  have h1 : (w.alloc (.cells (zs k) 69)).heap[o.p]? = some (.cells #[.int .u64 (o.n : Int), .slice (some ⟨bb, 0, none⟩) o.m o.cap] 67 (0, 0)) := by rw [Below.heap_alloc _ _ _ hp]; exact ho
  have h2 : (zs k).toList.take (k * 1) = U (List.replicate k 0) := by rw [zs_list]; exact List.take_of_length_le (by rw [U_len, List.length_replicate]; omega)
  have h3 := Own.made 69 1 w (zs k) k k (Nat.le_refl _) (by unfold maxLen; omega) (by rw [zs_size]; omega) (by rw [h2]; exact U_one _)
  rw [h2] at h3
  refine ⟨setCell_heap h1 0 _, h3.keep (S := fun j => j = o.p) ((Only.refl _ _).setCell _ _ (fun _ => rfl)) (fun j hj e => hne (by rw [← e]; exact hj)), by simp, ?_, hne, fun e => by omega, .inr (Nat.le_refl _), ((Only.refl o.foot w).alloc _).setCell _ _ (fun _ => .inl rfl), fun i hi _ => ?_⟩
  · intro x hx
    rw [List.eq_of_mem_replicate hx]; exact lt64_zero
  · have h4 : Only (fun j => j = o.p) w ((w.alloc (.cells (zs k) 69)).setCell ⟨o.p, 0, none⟩ (.int .u64 (N : Int))) := ((Only.refl _ w).alloc _).setCell _ _ (fun _ => rfl)
    rw [h4.cell hbl hbp]
    exact hcs i hi
/-- the row is the bitset's -/
theorem Mid.fin {o : O} {N bb db dm dc : Nat} {ws : List Nat} {w wr : World} (h : Mid o N bb db dm dc ws w wr) :
    (⟨o.p, N, some ⟨db, 0, none⟩, dm, dc, ws⟩ : O).ok (wr.setCell ⟨o.p, 1, none⟩ (.slice (some ⟨db, 0, none⟩) dm dc)) ∧ Only o.foot w (wr.setCell ⟨o.p, 1, none⟩ (.slice (some ⟨db, 0, none⟩) dm dc)) :=
  ⟨⟨setCell_heap h.obj 1 _, h.dst.keep (S := fun j => j = o.p) ((Only.refl _ _).setCell _ _ (fun _ => rfl)) (fun j hj e => h.ne (by rw [← e]; exact hj)), h.len, h.fits, fun e => h.ne e, by simp⟩, h.only.setCell _ _ (fun _ => .inl rfl)⟩
/-- the end: all words are those of the shifted list -/
theorem Mid.upd {o : O} {b : List Bool} {n t N bb db dm dc : Nat} {ws : List Nat} {w wr : World} (h : Mid o N bb db dm dc ws w wr) (hok : o.ok w) (hr : o.rep b) (ht : lastTo (bit o.ws) (64 * o.m) = some t)
    (hD : ∀ j, ws.getD j 0 = shW o.ws (n % 64) (n / 64) j) (hN2 : N ≤ 64 * dm) (hNb : b.length ≤ N) (hNt : t + n + 1 ≤ N) (hN3 : N ≤ 3000) :
    ∃ d, ones d = (ones b).map (· + n) ∧ d.length ≤ 3000 ∧ Upd o d w (wr.setCell ⟨o.p, 1, none⟩ (.slice (some ⟨db, 0, none⟩) dm dc)) := by
  obtain ⟨h1, h2⟩ := h.fin
  obtain ⟨h3, h4⟩ := shl_rep (o' := ⟨o.p, N, some ⟨db, 0, none⟩, dm, dc, ws⟩) (w' := wr) hok hr ht hD rfl hN2 hNb hNt
  refine ⟨_, h4, by rw [shiftL_len]; exact hN3, ⟨o.p, N, some ⟨db, 0, none⟩, dm, dc, ws⟩, rfl, h1, h3, h2, ?_⟩
  rintro k (rfl | hk)
  · exact .inl (.inl rfl)
  · obtain rfl : db = k := hk
    exact h.foot
/-- the words in the course of the downward loop: those from k + p on are done -/
def Down (S : List Nat) (Z : Nat → Nat) (r p k : Nat) (ws : List Nat) : Prop := ∀ j, ws.getD j 0 = if k + p ≤ j then shW S r p j else Z j
theorem Down.step {S : List Nat} {Z : Nat → Nat} {r p k X : Nat} {ws : List Nat} (h : Down S Z r p (k + 1) ws) (hk : k + p < ws.length) (hX : X = shW S r p (k + p)) : Down S Z r p k (ws.set (k + p) X) := fun j => by
  by_cases hj : j = k + p
  · subst hj
    rw [if_pos (Nat.le_refl _), ← hX]
    simp [List.getD_eq_getElem?_getD, List.getElem?_set, hk]
  · have e : (ws.set (k + p) X).getD j 0 = ws.getD j 0 := by
      simp only [List.getD_eq_getElem?_getD]; rw [List.getElem?_set_ne (by omega)]
    rw [e, h j]
    by_cases hj2 : k + p ≤ j
    · rw [if_pos hj2, if_pos (by omega)]
    · rw [if_neg hj2, if_neg (by omega)]
/-- then the words ahead of p are made 0, one by one -/
def Clean (S : List Nat) (Z : Nat → Nat) (r p q : Nat) (ws : List Nat) : Prop := ∀ j, ws.getD j 0 = if p ≤ j ∨ j < q then shW S r p j else Z j
theorem Clean.start {S : List Nat} {Z : Nat → Nat} {r p : Nat} {ws : List Nat} (h : Down S Z r p 0 ws) : Clean S Z r p 0 ws := fun j => by
  rw [h j]
  by_cases hj : p ≤ j
  · rw [if_pos (by omega), if_pos (.inl hj)]
  · rw [if_neg (by omega), if_neg (by omega)]
theorem Clean.step {S : List Nat} {Z : Nat → Nat} {r p q : Nat} {ws : List Nat} (h : Clean S Z r p q ws) (hq : q < ws.length) (hqp : q < p) : Clean S Z r p (q + 1) (ws.set q 0) := fun j => by
  by_cases hj : j = q
  · subst hj
    rw [if_pos (.inr (by omega)), shW_low hqp]
    simp [List.getD_eq_getElem?_getD, List.getElem?_set, hq]
  · have e : (ws.set q 0).getD j 0 = ws.getD j 0 := by
      simp only [List.getD_eq_getElem?_getD]; rw [List.getElem?_set_ne (by omega)]
    rw [e, h j]
    by_cases hj2 : p ≤ j ∨ j < q
    · rw [if_pos hj2, if_pos (by omega)]
    · rw [if_neg hj2, if_neg (by omega)]
theorem Clean.fin {S : List Nat} {Z : Nat → Nat} {r p : Nat} {ws : List Nat} (h : Clean S Z r p p ws) : ∀ j, ws.getD j 0 = shW S r p j := fun j => by
  rw [h j, if_pos (by omega)]
/-- the words ahead of the loop -/
theorem Down.start {o : O} {w : World} {t r p idx : Nat} {Z : Nat → Nat} {ws : List Nat} (h : o.ok w) (ht : lastTo (bit o.ws) (64 * o.m) = some t) (hidx : t / 64 = idx) (hr : 0 < r)
    (hZ : ∀ j, idx < j → Z j = 0) (h0 : ∀ j, j ≠ idx + p + 1 → ws.getD j 0 = Z j) (h1 : ws.getD (idx + p + 1) 0 = o.ws.getD idx 0 / 2 ^ (64 - r)) : Down o.ws Z r p (idx + 1) ws := by
  have hz := top_words (fun i => h.fits.at i) (fun i hi => by
    by_cases hi2 : i < 64 * o.m
    · exact ((lastTo_spec (f := bit o.ws) (64 * o.m)).1 t ht).2 i hi hi2
    · have hlen := h.len
      exact bit_far _ _ (by omega))
  rw [hidx] at hz
  intro j
  by_cases hj : j = idx + p + 1
  · subst hj
    rw [if_pos (by omega), shW_out hz.1 hr, h1]
  · rw [h0 j hj]
    by_cases hj2 : idx + 1 + p ≤ j
    · rw [if_pos hj2, shW_zero hz.1 (by omega), hZ j (by omega)]
    · rw [if_neg hj2]
/-- whole words: they were copied at once -/
theorem Down.copied {S ws0 : List Nat} {Z : Nat → Nat} {p idx : Nat} (hS : ∀ j, Lt64 (S.getD j 0)) (hz : ∀ j, idx < j → S.getD j 0 = 0) (hZ : ∀ j, idx < j → Z j = 0) (h0 : ∀ j, ws0.getD j 0 = Z j) (hl : p + (idx + 1) ≤ ws0.length) (hl2 : idx + 1 ≤ S.length) :
    Down S Z 0 p 0 (ws0.take p ++ S.take (idx + 1) ++ ws0.drop (p + (idx + 1))) := by
  intro j
  have e : (ws0.take p ++ S.take (idx + 1) ++ ws0.drop (p + (idx + 1))).getD j 0 = if j < p then ws0.getD j 0 else if j < p + (idx + 1) then S.getD (j - p) 0 else ws0.getD j 0 := by
    simp only [List.getD_eq_getElem?_getD, List.getElem?_append, List.length_append, List.length_take, List.getElem?_take, List.getElem?_drop]
    rw [Nat.min_eq_left (by omega), Nat.min_eq_left (by omega)]
    by_cases h1 : j < p
    · have c1 : j < p + (idx + 1) := by omega
      simp only [if_pos h1, if_pos c1]
    · by_cases h2 : j < p + (idx + 1)
      · have c2 : j - p < idx + 1 := by omega
        simp only [if_neg h1, if_pos h2, if_pos c2]
      · have c3 : p + (idx + 1) + (j - (p + (idx + 1))) = j := by omega
        simp only [if_neg h1, if_neg h2, c3]
  rw [e, Nat.zero_add]
  by_cases h1 : j < p
  · have c1 : ¬ p ≤ j := by omega
    simp only [if_pos h1, if_neg c1]
    exact h0 j
  · have c1 : p ≤ j := by omega
    simp only [if_neg h1, if_pos c1]
    obtain ⟨i, rfl⟩ : ∃ i, j = i + p := ⟨j - p, by omega⟩
    clear e h1 c1
    rw [shW_even (hS i), Nat.add_sub_cancel]
    by_cases h2 : i + p < p + (idx + 1)
    · rw [if_pos h2]
    · rw [if_neg h2, h0, hZ _ (by omega), hz i (by omega)]
/-- nothing is let out of the last word -/
theorem none_out {o : O} {w : World} {t r idx : Nat} (h : o.ok w) (ht : lastTo (bit o.ws) (64 * o.m) = some t) (hidx : t / 64 = idx) (hr : 0 < r) (hq : t % 64 + r < 64) : o.ws.getD idx 0 / 2 ^ (64 - r) = 0 := by
  have hz := top_words (fun i => h.fits.at i) (fun i hi => by
    by_cases hi2 : i < 64 * o.m
    · exact ((lastTo_spec (f := bit o.ws) (64 * o.m)).1 t ht).2 i hi hi2
    · have hlen := h.len
      exact bit_far _ _ (by omega))
  rw [hidx] at hz
  exact Nat.div_eq_of_lt (Nat.lt_of_lt_of_le hz.2 (Nat.pow_le_pow_right (by omega) (by omega)))
theorem over_top {o : O} {w : World} {t idx : Nat} (h : o.ok w) (ht : lastTo (bit o.ws) (64 * o.m) = some t) (hidx : t / 64 = idx) : ∀ j, idx < j → o.ws.getD j 0 = 0 := by
  have hz := top_words (fun i => h.fits.at i) (fun i hi => by
    by_cases hi2 : i < 64 * o.m
    · exact ((lastTo_spec (f := bit o.ws) (64 * o.m)).1 t ht).2 i hi hi2
    · have hlen := h.len
      exact bit_far _ _ (by omega))
  rw [hidx] at hz
  exact hz.1
end Go.Proofs.Ytmadpemagfbmlaa.bs
