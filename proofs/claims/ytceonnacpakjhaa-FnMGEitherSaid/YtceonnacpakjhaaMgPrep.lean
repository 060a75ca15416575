/-
  Taking two lists of different lengths apart: decomposeForSymMerge, prepareForSymMerge.
-/
import Derived.Test.YtceonnacpakjhaaMgItems
namespace Go.Proofs.Ytceonnacpakjhaa.mg
open Go.RowKit Go.Proofs.Ytceonnacpakjhaa.base Go.Proofs.Ytceonnacpakjhaa.heap Go.Proofs.Ytceonnacpakjhaa.rows Go.Proofs.Ytceonnacpakjhaa.pq
set_option linter.unusedVariables false

/-- append of what stands behind anyway changes nothing -/
theorem wpList_append_noop {P : Program} {e : Nat} {w : World} {ops : Array Oper} {rest : List Oper} {o : Oper} {fr : Act} {Q : Exit → Act → World → Prop} (N : Nat) (hg : o.guard = none) (s x : Operand) (t tx : TypeId)
    (hop : o.op = .call { callee := .builtin .append, args := #[s, x], argTypes := #[t, tx] }) {bytes : Nat} (hT : SliceOf P t e 1 bytes) {e' : TypeId} (hk : P.underlying tx = some (.slice e'))
    {b off n cap m off' c2 : Nat} (hs : fr.eval s = .slice (some ⟨b, off, none⟩) n cap) (hx : fr.eval x = .slice (some ⟨b, off', none⟩) m c2) (ho : off' = off + n)
    {cur : Array Value} (hb : w.heap[b]? = some (.cells cur e (0, 0))) (hsz : off + n + m ≤ cur.size) (h1 : ∀ u ∈ (cur.toList.drop (off + n)).take m, u.oneCell' = true) (hN : n + m = N) (hroom : N ≤ cap)
    (hK : wpList P ops Q rest (fr.put o.dst (.slice (some ⟨b, off, none⟩) N cap)) w) : wpList P ops Q (o :: rest) fr w := by
  subst hN
  subst ho
  obtain ⟨ht, i, z, hi, hz, hsize, hby, hzs⟩ := hT
  have hnl : ((cur.toList.drop (off + n)).take m).length = m := by rw [List.length_take, List.length_drop, Array.length_toList]; omega
  have hsrc : Src P 1 tx (.slice (some ⟨b, off + n, none⟩) m c2) m ((cur.toList.drop (off + n)).take m) w :=
    Src.ofSlice w hk _ m c2 _ (by rw [hnl, Nat.mul_one]) (fun j u hu => by
      rw [Addr.add_lit, cell_of_row w b _ cur e (0, 0) hb]
      rw [List.getElem?_take] at hu
      split at hu
      · rw [List.getElem?_drop] at hu; simpa using hu
      · cases hu) h1
  have hst := run_storeCells_at P b (off + n) e ((cur.toList.drop (off + n)).take m) 0 cur w hb (by rw [hnl]; omega) h1
  simp only [Nat.add_zero, hnl] at hst
  have hself : (cur.toList.take (off + n) ++ (cur.toList.drop (off + n)).take m ++ cur.toList.drop (off + n + m)).toArray = cur := by
    rw [List.append_assoc, show cur.toList.drop (off + n + m) = (cur.toList.drop (off + n)).drop m by rw [List.drop_drop], List.take_append_drop, List.take_append_drop, Array.toArray_toList]
  rw [hself, setRow_self w b cur e (0, 0) hb] at hst
  have hrun : (Builtin.append_ #[t, tx] o.type #[.slice (some ⟨b, off, none⟩) n cap, .slice (some ⟨b, off + n, none⟩) m c2]).run P w = .ok (.slice (some ⟨b, off, none⟩) (n + m) cap) w := by
    rcases hsrc.kind with ⟨e', hk⟩ | hk <;> simp [Builtin.append_, run_underlying ht, run_underlying hk, sizeOf, typeInfo, hi, hsize, hsrc.len, hroom, hsrc.cells, Addr.add_lit, hst]
  refine wpList_plain hg fun K hK' => ?_
  unfold Oper.wp execOp
  simp only [hop, resolve, invoke, builtin, Sem.run_bind, Sem.run_pure, Result.andThen_ok, List.map_toArray, List.map_cons, List.map_nil, hs, hx, hrun]
  exact hK' _ _ hK

theorem makeK (k : Nat) (hk : k < 1000000) (w : World) : (Instr.makeSlice 34 (.int .i64 (k : Int)) (.int .i64 (k : Int))).run Try.prog w = .ok (.slice (some ⟨w.heap.size, 0, none⟩) k k) (w.alloc (.cells (madeCells (Value.nilIface).cells (k * 1)) 38)) :=
  make_eq (z := .nilIface) (bytes := 16) .i64 .i64 Try.underlying34 (by kernel_rfl) k (by omega) (by omega) w

set_option maxRecDepth 100000 in
set_option maxHeartbeats 1600000 in
theorem decomp (g nu nw cw o : Nat) (w : World) (h0 : nu + 2 ≤ nw) (hw : nw ≤ cw) (hsz : nw < 100000) (ho : (nw - nu) / 2 = o) (hc : cw ≤ 9223372036854775807) :
    Calls Try.prog 24 #[.int .i64 (nu : Int), .slice (some ⟨g, 0, none⟩) nw cw] w fun e w' => e = .returned (.tuple #[.slice (some ⟨g, 0, none⟩) o cw, .slice (some ⟨g, o, none⟩) nu (cw - o), .slice (some ⟨g, o + nu, none⟩) (nw - (o + nu)) (cw - (o + nu))]) ∧ w = w' := by
  obtain ⟨d, hd⟩ : ∃ d, nw - nu = d := ⟨_, rfl⟩
  have e1 : (nw : Int) - (nu : Int) = (d : Int) := by omega
  have e2 : (d : Int).tdiv 2 = (o : Int) := by rw [half]; omega
  obtain ⟨p, hp⟩ : ∃ p, o + nu = p := ⟨_, rfl⟩
  have e3 : (o : Int) + (nu : Int) = (p : Int) := by omega
  have f1 := i64_nat (k := d) (by omega)
  have f2 := i64_nat (k := o) (by omega)
  have f3 := i64_nat (k := p) (by omega)
  have c1 : ¬ (nw : Int) ≤ (nu : Int) := by omega
  have c2 : (0 : Int) ≤ (o : Int) := by omega
  have c3 : (o : Int) ≤ (cw : Int) := by omega
  have c4 : (0 : Int) ≤ (p : Int) := by omega
  have c5 : (p : Int) ≤ (cw : Int) := by omega
  have c6 : (o : Int) ≤ (p : Int) := by omega
  have c7 : (p : Int) ≤ (nw : Int) := by omega
  have c8 : ¬ cw = o := by omega
  have c9 : ¬ cw = p := by omega
  have c10 : p - o = nu := by omega
  rw [hp]
  clear hd hp ho h0 hw
  go_enter Try.func24, Try.ntmps24
  go_wp2_with fail
  go_ret3
  refine ⟨?_, rfl⟩
  simp
/-- copy into a row that is known whole, of elements of one cell -/
theorem run_copy {P : Program} {e : Nat} {w : World} (k : Nat) {t dT sT : TypeId} {bytes : Nat} (hT : SliceOf P dT e 1 bytes)
    {g off dl dc : Nat} {cur : Array Value} (hb : w.heap[g]? = some (.cells cur e (0, 0)))
    {sa : Option Addr} {sl sc : Nat} {ys : List Value} (hr : Rd 1 w sa sl sc ys) (hk : k = min sl dl) (hfit : off + dl ≤ cur.size) :
    ∃ w', (Builtin.copy_ #[dT, sT] t #[.slice (some ⟨g, off, none⟩) dl dc, .slice sa sl sc]).run P w = .ok (.int .i64 (k : Int)) w' ∧
      w'.heap[g]? = some (.cells (cur.toList.take off ++ ys.take k ++ cur.toList.drop (off + k)).toArray e (0, 0)) ∧ Only (fun j => j = g) w w' := by
  obtain ⟨ht, i, z, hi, hz, hsize, hby, hzs⟩ := hT
  have hlen : (ys.take k).length = k := by rw [List.length_take, hr.len, hk, Nat.mul_one]; omega
  have hf : (Builtin.firstCells 1 k (.slice sa sl sc)).run P w = .ok (ys.take k).toArray w := by
    rcases Nat.eq_zero_or_pos k with h0 | hp
    · rw [h0]
      cases sa with
      | none => exact run_firstCells_none _ _ _ _ _
      | some ad => exact run_firstCells_some (P := P) w 1 0 ad sl sc [] rfl (fun j v hj => by simp at hj)
    · obtain ⟨b, of, rfl, hbl, hc⟩ := hr.cells (by omega)
      refine run_firstCells_some (P := P) w 1 k _ sl sc (ys.take k) (by rw [hlen]; omega) (fun j v hj => ?_)
      rw [Addr.add_lit]
      exact (hc.take k) j v hj
  have hst := run_storeCells_at P g off e (ys.take k) 0 cur w hb (by rw [hlen]; omega) (fun u hu => hr.one u (List.mem_of_mem_take hu))
  simp only [Nat.add_zero, hlen] at hst
  have hmin : Nat.min sl dl = k := hk.symm
  refine ⟨_, ?_, setRow_heap w g cur _ e _ hb, ⟨rfl, rfl, rfl, by simp, fun j _ hj => setRow_other w g j _ hj⟩⟩
  simp [Builtin.copy_, run_underlying ht, sizeOf, typeInfo, hi, hsize, Builtin.lenOf, hmin, hf, hst, goInt]
theorem lenC (a : Option Addr) (n cap : Nat) (w : World) : Calls Try.prog 23 #[.slice a n cap] w fun e w' => e = .returned (.int .i64 (n : Int)) ∧ w = w' := by
  go_enter Try.func23, Try.ntmps23
  go_wp2_with fail
  go_ret
  exact ⟨rfl, rfl⟩
theorem Me.row {w : World} {g n cap : Nat} {L : List It} (h : Me w (some ⟨g, 0, none⟩) n cap L) : ∃ cur, w.heap[g]? = some (.cells cur 38 (0, 0)) ∧ cur.size = cap ∧ ∀ a m, a + m ≤ n → ∀ u ∈ (cur.toList.drop a).take m, u.oneCell' = true := by
  rcases h.1.alt with ⟨h1, _⟩ | ⟨b, cur, h1, h2, h3, h4⟩
  · cases h1
  · cases h1
    rw [Nat.mul_one] at h4
    refine ⟨cur, h2, by omega, fun a m ham u hu => h.1.one u ?_⟩
    rw [← h4]
    have e : (cur.toList.drop a).take m = ((cur.toList.take n).drop a).take m := by
      rw [List.drop_take, List.take_take]
      congr 1; omega
    rw [e] at hu
    exact List.mem_of_mem_drop (List.mem_of_mem_take hu)
theorem me_copied {w : World} {g i : Nat} {xs ys : List Value} {L : List It} (hx : xs = L.map itv) (hy : ys = []) (hl : L.length = i) (hi : i ≤ maxLen) (hb : w.heap[g]? = some (.cells (xs ++ ys).toArray 38 (0, 0))) :
    Me w (some ⟨g, 0, none⟩) i i L := by
  subst hx
  subst hy
  rw [List.append_nil] at hb
  refine ⟨⟨by rw [List.length_map]; omega, Nat.le_refl _, hi, fun u hu => ?_, .inr ⟨g, _, rfl, hb, by simp; omega, ?_⟩⟩, hl⟩
  · obtain ⟨x, _, rfl⟩ := List.mem_map.1 hu; rfl
  · rw [List.take_of_length_le (by simp; omega)]
theorem rest_rd {w : World} {g n cap : Nat} {L : List It} (h : Me w (some ⟨g, 0, none⟩) n cap L) {i off c m : Nat} (hm : n - i = m) (hi : i ≤ n) (hc : (off = i ∧ c = cap - i) ∨ (cap = i ∧ c = 0)) : Rd 1 w (some ⟨g, off, none⟩) m c ((L.drop i).map itv) := by
  subst hm
  have hl := h.2
  have hb := h.bound
  have hlen : (L.drop i).length = n - i := by rw [List.length_drop]; omega
  refine ⟨by rw [List.length_map, hlen, Nat.mul_one], by omega, by unfold maxLen; omega, fun u hu => ?_, fun h0 => ?_, fun h => nomatch h⟩
  · obtain ⟨x, hx, rfl⟩ := List.mem_map.1 hu; rfl
  · obtain ⟨b, off', ha, hb, hcs⟩ := h.rl.at (by omega)
    simp only [Option.some.injEq, Addr.mk.injEq] at ha
    obtain ⟨rfl, rfl, _⟩ := ha
    refine ⟨g, off, rfl, hb, fun j v hj => ?_⟩
    rw [List.getElem?_map, List.getElem?_drop] at hj
    cases hx : L[i + j]? with
    | none => rw [hx] at hj; cases hj
    | some x =>
      rw [hx] at hj
      cases hj
      have := hcs (i + j) x hx
      rw [Nat.zero_add] at this
      rcases hc with ⟨rfl, _⟩ | ⟨h1, _⟩
      · exact this
      · have := (List.getElem?_eq_some_iff.1 hx).1; omega
/-- a part of such a row, read -/
theorem Me.part {w : World} {g n cap : Nat} {L : List It} (h : Me w (some ⟨g, 0, none⟩) n cap L) {o k c : Nat} (hk : o + k ≤ n) (hkc : k ≤ c) (hc : c ≤ maxLen) : RL itv w (some ⟨g, o, none⟩) k c ((L.drop o).take k) := by
  have hl := h.2
  have hlen : ((L.drop o).take k).length = k := by rw [List.length_take, List.length_drop]; omega
  refine ⟨⟨by rw [List.length_map, hlen, Nat.mul_one], hkc, hc, fun u hu => ?_, fun h0 => ?_, fun h => nomatch h⟩, hlen⟩
  · obtain ⟨x, hx, rfl⟩ := List.mem_map.1 hu
    exact h.1.one _ (List.mem_map.2 ⟨x, List.mem_of_mem_drop (List.mem_of_mem_take hx), rfl⟩)
  · obtain ⟨b, off, ha, hb, hcs⟩ := h.rl.at (by omega)
    simp only [Option.some.injEq, Addr.mk.injEq] at ha
    obtain ⟨rfl, rfl, _⟩ := ha
    refine ⟨g, o, rfl, hb, fun j v hj => ?_⟩
    rw [List.getElem?_map, List.getElem?_take] at hj
    split at hj
    · rw [List.getElem?_drop] at hj
      cases hx : L[o + j]? with
      | none => rw [hx] at hj; cases hj
      | some x =>
        rw [hx] at hj
        cases hj
        have := hcs (o + j) x hx
        rwa [Nat.zero_add] at this
    · cases hj
/-- two lists are taken apart: u1, w1; u2, w2 -/
structure Prep (U W : List It) (gw nu nw cw i k g1 g2 : Nat) (w w' : World) : Prop where
  le : i ≤ nu ∧ k = (nw - nu) / 2 + (nu - i)
  u1 : Me w' (some ⟨g1, 0, none⟩) i i (U.take i)
  u2 : Me w' (some ⟨g2, 0, none⟩) (nu - i) (nu - i) (U.drop i)
  same : Same w w'
  new : w.heap.size ≤ g1 ∧ g1 < g2
  left : i = 0 ∨ kAt U (i - 1) ≤ kAt W k
  right : i = nu ∨ kAt W (k - 1) < kAt U i
def PrepP (U W : List It) (gw nu nw cw : Nat) (w : World) (e : Ending) (w' : World) : Prop :=
  ∃ i k g1 g2, e = .returned (.tuple #[.slice (some ⟨g1, 0, none⟩) i i, .slice (some ⟨gw, 0, none⟩) k cw, .slice (some ⟨g2, 0, none⟩) (nu - i) (nu - i), .slice (some ⟨gw, k, none⟩) (nw - k) (cw - k)]) ∧ Prep U W gw nu nw cw i k g1 g2 w w'
theorem kAt_drop (L : List It) (o i : Nat) : kAt (L.drop o) i = kAt L (o + i) := by simp [kAt, List.getD_eq_getElem?_getD, List.getElem?_drop]
theorem kAt_tk (L : List It) {k i : Nat} (h : i < k) : kAt (L.take k) i = kAt L i := by simp [kAt, List.getD_eq_getElem?_getD, List.getElem?_take_of_lt h]

set_option maxRecDepth 100000 in
set_option maxHeartbeats 3200000 in
theorem prep0 (gu nu cu gw nw cw : Nat) (U W : List It) (w : World) (hU : Me w (some ⟨gu, 0, none⟩) nu cu U) (hW : Me w (some ⟨gw, 0, none⟩) nw cw W) (h1 : 1 ≤ nu) (h2 : nu + 2 ≤ nw) (hsz : nw < 100000) (A B : Value)
    (hsw : (A = .slice (some ⟨gu, 0, none⟩) nu cu ∧ B = .slice (some ⟨gw, 0, none⟩) nw cw) ∨ (B = .slice (some ⟨gu, 0, none⟩) nu cu ∧ A = .slice (some ⟨gw, 0, none⟩) nw cw)) :
    Calls Try.prog 17 #[A, B] w (PrepP U W gw nu nw cw w) := by
  have hbu := hU.bound
  have hbw := hW.bound
  have HU := Lib.hid hU
  have HW := Lib.hid hW
  obtain ⟨o, ho⟩ : ∃ o, (nw - nu) / 2 = o := ⟨_, rfl⟩
  have HO := Lib.hid ho
  have HD := Lib.hid (decomp gw nu nw cw o w h2 hbw.1 (by omega) ho hbw.2)
  obtain ⟨na, nb, hab⟩ : ∃ na nb : Nat, (A = .slice (some ⟨gu, 0, none⟩) nu cu ∧ B = .slice (some ⟨gw, 0, none⟩) nw cw ∧ na = nu ∧ nb = nw) ∨ (B = .slice (some ⟨gu, 0, none⟩) nu cu ∧ A = .slice (some ⟨gw, 0, none⟩) nw cw ∧ na = nw ∧ nb = nu) := by
    rcases hsw with h | h
    · exact ⟨nu, nw, .inl ⟨h.1, h.2, rfl, rfl⟩⟩
    · exact ⟨nw, nu, .inr ⟨h.1, h.2, rfl, rfl⟩⟩
  have HA : Hid (∀ wx, Calls Try.prog 23 #[A] wx fun e w' => e = .returned (.int .i64 (na : Int)) ∧ wx = w') := Lib.hid (fun wx => by
    rcases hab with ⟨rfl, rfl, rfl, rfl⟩ | ⟨rfl, rfl, rfl, rfl⟩ <;> exact lenC _ _ _ _)
  have HB : Hid (∀ wx, Calls Try.prog 23 #[B] wx fun e w' => e = .returned (.int .i64 (nb : Int)) ∧ wx = w') := Lib.hid (fun wx => by
    rcases hab with ⟨rfl, rfl, rfl, rfl⟩ | ⟨rfl, rfl, rfl, rfl⟩ <;> exact lenC _ _ _ _)
  have HAB := Lib.hid hab
  have c1 : ¬ (nw : Int) < (nu : Int) := by omega
  have c2 : (nu : Int) < (nw : Int) := by omega
  have HN := Lib.hid (And.intro (And.intro h1 h2) hsz)
  have HBD := Lib.hid (And.intro hbu hbw)
  clear hU hW h1 h2 hsz ho hab hsw hbu hbw
  go_enter Try.func17, Try.ntmps17
  go_upto_if 15 with (go_at_call 23; (first | (with_reducible refine (HA.out _).mono ?_) | (with_reducible refine (HB.out _).mono ?_)); rintro e w1 ⟨rfl, rfl⟩)
  go_cut [0, 1] (fun a b wx => a = .slice (some ⟨gu, 0, none⟩) nu cu ∧ b = .slice (some ⟨gw, 0, none⟩) nw cw ∧ wx = w)
  case first =>
    rcases HAB.out with ⟨rfl, rfl, rfl, rfl⟩ | ⟨rfl, rfl, rfl, rfl⟩
    · go_wp2_with fail
      go_meet
      exact ⟨rfl, rfl, rfl⟩
    · go_wp2_with fail
      go_meet
      exact ⟨rfl, rfl, rfl⟩
  case rest =>
    obtain ⟨rfl, rfl, hw⟩ := hcut
    subst hw
    have HS := Lib.hid (symSearch gu 0 nu cu gw o (cw - o) U ((W.drop o).take nu) wc HU.out.rl (HW.out.part (by have := HN.out; have := HO.out; omega) (by have := HN.out; have := HO.out; have := HBD.out; omega) (by have := HBD.out; unfold maxLen; omega)) (by have := HN.out; omega) (by have := HN.out; omega))
    go_wp2_with (go_at_call 24; with_reducible refine HD.out.mono ?_)
    rintro e w1 ⟨rfl, rfl⟩
    go_wp2_with (go_at_call 25; with_reducible refine HS.out.mono ?_)
    rintro e w1 h3
    obtain ⟨i, rfl, hi, hleft, hright, hs1⟩ : ∃ st : Nat, e = .returned (.int .i64 (st : Int)) ∧ (0 ≤ st ∧ st ≤ nu) ∧ (st = 0 ∨ kAt U (st - 1) ≤ kAt ((W.drop o).take nu) (nu - 1 - (st - 1))) ∧ (st = nu ∨ kAt ((W.drop o).take nu) (nu - 1 - st) < kAt U st) ∧ Same wc w1 := h3
    obtain ⟨j, hj⟩ : ∃ j, nu - i = j := ⟨_, rfl⟩
    obtain ⟨k, hk⟩ : ∃ k, o + j = k := ⟨_, rfl⟩
    have HI : Hid (Same wc w1 ∧ (i = 0 ∨ kAt U (i - 1) ≤ kAt W k) ∧ (i = nu ∨ kAt W (k - 1) < kAt U i)) := Lib.hid ⟨hs1, by
      rcases hleft with h | h
      · exact .inl h
      · by_cases c : i = 0
        · exact .inl c
        · right
          rw [kAt_tk _ (by omega), kAt_drop] at h
          rwa [show o + (nu - 1 - (i - 1)) = k by omega] at h, by
      rcases hright with h | h
      · exact .inl h
      · by_cases c : i = nu
        · exact .inl c
        · right
          rw [kAt_tk _ (by omega), kAt_drop] at h
          rwa [show o + (nu - 1 - i) = k - 1 by omega] at h⟩
    have HJ := Lib.hid (And.intro hj hk)
    have hn := HN.out
    have ho := HO.out
    have hbd := HBD.out
    have hin : i ≤ nu := hi.2
    have m1 := makeK i (by omega)
    have m2 := makeK j (by omega)
    have e1 : (nu : Int) - (i : Int) = (j : Int) := by omega
    have f1 := i64_nat (k := j) (by omega)
    have d1 : (0 : Int) ≤ (i : Int) := by omega
    have d2 : (i : Int) ≤ (cu : Int) := by omega
    have d3 : (i : Int) ≤ (nu : Int) := by omega
    have d4 : (0 : Int) ≤ (j : Int) := by omega
    have d5 : (j : Int) ≤ (nu : Int) := by omega
    have d6 : (j : Int) ≤ ((cw - o : Nat) : Int) := by omega
    have M1 := Lib.hid m1
    have HU1 := Lib.hid (HU.out.still hs1)
    clear hleft hright hs1 hn ho hbd hi hj hk HS HD HA HB HAB
    go_wp2_with (refine wpList_copy i rfl _ _ _ _ rfl slI rfl (heap_alloc_new _ _) rfl (ys := (U.take i).map itv) ?_ ?_ ?_ ?_)
    · have := (Me.part HU1.out (o := 0) (k := i) (c := cu) (by omega) (by have := HBD.out; omega) (by have := HBD.out; unfold maxLen; omega)).1
      rw [List.drop_zero] at this
      exact this.keep (S := fun _ => False) ((Only.refl _ _).alloc _) (fun _ _ => id)
    · omega
    · simp [madeCells]
    intro w2 hb2 hO2
    have hul := HU.out.2
    obtain ⟨g1, hg1⟩ : ∃ g1, w1.heap.size = g1 := ⟨_, rfl⟩
    have hb3 := hb2
    rw [hg1] at hb3
    have HS2 : Hid (Same wc w2) := Lib.hid (new_only HI.out.1 (Only.trans (S := fun x => x = g1) ((Only.refl _ _).alloc _) hO2 (fun k hk h => by omega)) (fun k hk => by have := HI.out.1.size; omega))
    have HM1 : Hid (Me w2 (some ⟨g1, 0, none⟩) i i (U.take i)) := Lib.hid (me_copied (by rw [List.take_take, Nat.min_self, List.map_take]) (List.drop_eq_nil_of_le (by simp [madeCells])) (by rw [List.length_take]; omega) (by unfold maxLen; have := HN.out; omega) hb3)
    have HG1 : Hid (wc.heap.size ≤ g1 ∧ g1 < w2.heap.size) := Lib.hid ⟨by have := HI.out.1.size; omega, by have := hO2.size; have h4 : (w1.alloc (Obj.cells (madeCells #[Value.nilIface] i) 38)).heap.size = w1.heap.size + 1 := (by simp); omega⟩
    obtain ⟨cur, hcur, hcs, hone⟩ := Me.row (OL.still HW.out HS2.out)
    have HC := Lib.hid hone
    have ejk : o + j = k := HJ.out.2
    have hkn : k ≤ nw := by have := HN.out; have := HO.out; have := HJ.out; omega
    have HKN := Lib.hid hkn
    have hkc : k ≤ cw := by have := HBD.out; omega
    have hrw : w1.heap.size = g1 := hg1
    rw [hrw]
    clear hb2 hb3 hO2 hone hrw
    have HUW : Hid (∀ w3, Same wc w3 → wc.heap.size ≤ g1 → g1 < w2.heap.size → w2.heap.size < w3.heap.size → Only (fun x => x = w2.heap.size) w2 w3 → Me w3 (some ⟨w2.heap.size, 0, none⟩) j j (U.drop i) → Prep U W gw nu nw cw i k g1 w2.heap.size wc w3) := Lib.hid (fun w3 a1 a2 a3 a4 a5 a6 => by
      have := HJ.out
      have hO := HO.out
      refine ⟨⟨by omega, by omega⟩, OL.keep HM1.out a5 (fun x hx h => by have h2 : x = w2.heap.size := h; have h3 : g1 = x := hx; omega), ?_, a1, ⟨a2, a3⟩, HI.out.2.1, HI.out.2.2⟩
      rw [this.1]; exact a6)
    have HCP : Hid (∀ off c, (off = i ∧ c = cu - i) ∨ (cu = i ∧ c = 0) → ∃ w3, (Builtin.copy_ #[34, 34] 3 #[.slice (some ⟨w2.heap.size, 0, none⟩) j j, .slice (some ⟨gu, off, none⟩) (nu - i) c]).run Try.prog (w2.alloc (Obj.cells (madeCells #[Value.nilIface] j) 38)) = .ok (.int .i64 (j : Int)) w3 ∧ Prep U W gw nu nw cw i k g1 w2.heap.size wc w3) := Lib.hid (fun off c hc => by
      have hj := HJ.out
      have hn := HN.out
      obtain ⟨w3, hr, hb3, hO3⟩ := run_copy (P := Try.prog) (t := 3) j slI (heap_alloc_new w2 (Obj.cells (madeCells #[Value.nilIface] j) 38)) (off := 0) (dl := j) (dc := j)
        ((rest_rd (m := nu - i) (OL.still HU.out HS2.out) rfl hin hc).keep (S := fun _ => False) ((Only.refl _ _).alloc _) (fun _ _ => id)) (by omega) (by simp [madeCells])
      refine ⟨w3, hr, ?_⟩
      have hO : Only (fun x => x = w2.heap.size) w2 w3 := Only.trans ((Only.refl _ _).alloc _) hO3 (fun k hk h => h)
      have hul2 := HU.out.2
      have hsz : (w2.alloc (Obj.cells (madeCells #[Value.nilIface] j) 38)).heap.size = w2.heap.size + 1 := by simp
      have hO3s := hO3.size
      refine HUW.out w3 (new_only HS2.out hO (fun k hk => by have := HS2.out.size; omega)) HG1.out.1 HG1.out.2 (by omega) hO ?_
      refine me_copied (L := U.drop i) ?_ ?_ (by rw [List.length_drop]; omega) (by unfold maxLen; omega) hb3
      · rw [List.take_zero, List.nil_append, List.take_of_length_le (by rw [List.length_map, List.length_drop]; omega)]
      · exact List.drop_eq_nil_of_le (by simp [madeCells]))
    have HRW : Hid (∀ w3, Prep U W gw nu nw cw i k g1 w2.heap.size wc w3 → ∃ cur, w3.heap[gw]? = some (.cells cur 38 (0, 0)) ∧ cur.size = cw ∧ ∀ a m, a + m ≤ nw → ∀ u ∈ (cur.toList.drop a).take m, u.oneCell' = true) := Lib.hid (fun w3 h => Me.row (OL.still HW.out h.same))
    clear HUW HS2 HM1 hul hg1
    have hcwj : ¬ cw - o = j := by have := HN.out; have := HO.out; have := HBD.out; have := HJ.out; omega
    have g2 : o + nu = k + (nu - j) := by omega
    have g3 : nu - j + (nw - (o + nu)) = nw - k := by have := HN.out; have := HO.out; omega
    have g4 : nw - k ≤ cw - o - j := by have := HBD.out; omega
    have g5 : cw - o - j = cw - k := by omega
    have HGG := Lib.hid (And.intro (And.intro g2 g3) (And.intro g4 g5))
    clear g2 g3 g4 g5
    by_cases hci : cu = i
    · obtain rfl : i = cu := hci.symm
      go_wp2_with (refine wpList_append_noop k rfl _ _ _ _ rfl slI Try.underlying34 rfl rfl (Nat.zero_add _).symm hcur (by omega) (HC.out _ _ (by omega)) ejk hkc ?_)
      obtain ⟨w3, hr, hp⟩ := HCP.out 0 0 (.inr (by simp))
      rw [hr]
      obtain ⟨cur, hcur, hcs, hone⟩ := HRW.out w3 hp
      have HP := Lib.hid hp
      have HONE := Lib.hid hone
      clear hr hp hone
      go_wp2_with (refine wpList_append_noop (nw - k) rfl _ _ _ _ rfl slI Try.underlying34 rfl rfl HGG.out.1.1 hcur (by have := HGG.out; omega) (HONE.out _ _ (by have := HGG.out; omega)) HGG.out.1.2 HGG.out.2.1 ?_)
      refine bodyPost_ret (v := .tuple #[.slice (some ⟨g1, 0, none⟩) i i, .slice (some ⟨gw, 0, none⟩) k cw, .slice (some ⟨w2.heap.size, 0, none⟩) (nu - i) (nu - i), .slice (some ⟨gw, k, none⟩) (nw - k) (cw - k)]) ?_ rfl ?_
      · rw [HJ.out.1]
        simp [results, Try.results17, go_sem, ejk, HGG.out.2.2]
      exact ⟨i, k, g1, w2.heap.size, rfl, HP.out⟩
    · skip
      go_wp2_with (refine wpList_append_noop k rfl _ _ _ _ rfl slI Try.underlying34 rfl rfl (Nat.zero_add _).symm hcur (by omega) (HC.out _ _ (by omega)) ejk hkc ?_)
      obtain ⟨w3, hr, hp⟩ := HCP.out i (cu - i) (.inl (by simp))
      rw [hr]
      obtain ⟨cur, hcur, hcs, hone⟩ := HRW.out w3 hp
      have HP := Lib.hid hp
      have HONE := Lib.hid hone
      clear hr hp hone
      go_wp2_with (refine wpList_append_noop (nw - k) rfl _ _ _ _ rfl slI Try.underlying34 rfl rfl HGG.out.1.1 hcur (by have := HGG.out; omega) (HONE.out _ _ (by have := HGG.out; omega)) HGG.out.1.2 HGG.out.2.1 ?_)
      refine bodyPost_ret (v := .tuple #[.slice (some ⟨g1, 0, none⟩) i i, .slice (some ⟨gw, 0, none⟩) k cw, .slice (some ⟨w2.heap.size, 0, none⟩) (nu - i) (nu - i), .slice (some ⟨gw, k, none⟩) (nw - k) (cw - k)]) ?_ rfl ?_
      · rw [HJ.out.1]
        simp [results, Try.results17, go_sem, ejk, HGG.out.2.2]
      exact ⟨i, k, g1, w2.heap.size, rfl, HP.out⟩
end Go.Proofs.Ytceonnacpakjhaa.mg
