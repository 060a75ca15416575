/-
  The sparse bit array: IsEmpty, Count, ToNums; what the steps do on one.
-/
import Derived.Test.YtacjkbljokjdkaaBaSpSet
import Derived.Test.YtacjkbljokjdkaaBaDoesD
namespace Go.Proofs.Ytacjkbljokjdkaa.ba
open Go.RowKit Go.Proofs.Ytacjkbljokjdkaa.base Go.Proofs.Ytacjkbljokjdkaa.heap Go.Proofs.Ytacjkbljokjdkaa.rows Go.Proofs.Ytacjkbljokjdkaa.bit Go.Proofs.Ytacjkbljokjdkaa.bs
set_option linter.unusedVariables false
theorem pair_bit {P : List (Nat × Nat)} (h : Good P) {l : List Nat} (hr : Rep (wd P) l) {x : Nat × Nat} (hx : x ∈ P) : ∃ k ∈ l, k / 64 = x.1 := by
  obtain ⟨h1, h2, h3⟩ := h.2 x hx
  obtain ⟨t, ht, hh⟩ := high_ex h1 h2
  refine ⟨64 * x.1 + t, ?_, by omega⟩
  rw [hr.2, show (64 * x.1 + t) / 64 = x.1 by omega, show (64 * x.1 + t) % 64 = t by omega, wd_mem h.1 (j := x.1) (b := x.2) hx]
  exact hh.1
theorem pnums_cons (x : Nat × Nat) (P : List (Nat × Nat)) : pnums (x :: P) = wbits (64 * x.1) x.2 64 ++ pnums P := rfl
theorem pnums_ge : ∀ {P : List (Nat × Nat)}, (∀ x ∈ P, Lt64 x.2 ∧ x.2 ≠ 0) → P.length ≤ (pnums P).length
  | [], _ => Nat.le_refl _
  | x :: P, h => by
    rw [pnums_cons, List.length_append, List.length_cons]
    have ih := pnums_ge (P := P) (fun y hy => h y (List.mem_cons_of_mem _ hy))
    obtain ⟨h1, h2⟩ := h x (by simp)
    obtain ⟨t, ht, hh⟩ := high_ex h1 h2
    have : 64 * x.1 + t ∈ wbits (64 * x.1) x.2 64 := wbits_mem.2 ⟨t, ht, hh.1, rfl⟩
    have := List.length_pos_of_mem this
    omega
theorem pnums_le : ∀ (P : List (Nat × Nat)), (pnums P).length ≤ 64 * P.length
  | [] => Nat.le_refl _
  | x :: P => by
    rw [pnums_cons, List.length_append, List.length_cons]
    have := pnums_le P
    have := wbits_len (64 * x.1) x.2 64
    omega
theorem pairs_len {P : List (Nat × Nat)} (h : Good P) {l : List Nat} (hr : Rep (wd P) l) : P.length ≤ l.length ∧ l = pnums P := by
  have e := hr.eq (pnums_rep h.1)
  exact ⟨by rw [e]; exact pnums_ge (fun x hx => ⟨(h.2 x hx).1, (h.2 x hx).2.1⟩), e⟩
theorem pnums_snoc (P : List (Nat × Nat)) (k : Nat) (x : Nat × Nat) (h : P[k]? = some x) : pnums (P.take (k + 1)) = pnums (P.take k) ++ wbits (64 * x.1) x.2 64 := by
  unfold pnums; rw [take_snoc P k x h, List.flatMap_append]; simp
section
variable {w : World} {p cb ci : Nat} {ab ai : Option Addr} {P : List (Nat × Nat)}
/-- all that a walk asks of it -/
theorem Sp.at (h : Sp w p ab cb ai ci P) (h0 : 0 < P.length) : ∃ b i, ab = some ⟨b, 0, none⟩ ∧ ai = some ⟨i, 0, none⟩ ∧ (∀ k x, P[k]? = some x → w.cell? ⟨b, k, none⟩ = some (.int .u64 (x.2 : Int)) ∧ w.cell? ⟨i, k, none⟩ = some (.int .u64 (x.1 : Int))) := by
  obtain ⟨b, ha, hb, hc⟩ := h.blk.at h0
  obtain ⟨i, ha2, hb2, hc2⟩ := h.idx.at h0
  refine ⟨b, i, ha, ha2, fun k x hx => ⟨?_, ?_⟩⟩
  · have := hc k (.int .u64 (x.2 : Int)) (by simp [U, hx])
    rw [Nat.zero_add] at this; exact this
  · have := hc2 k (.int .u64 (x.1 : Int)) (by simp [U, hx])
    rw [Nat.zero_add] at this; exact this
theorem Sp.c0 (h : Sp w p ab cb ai ci P) : w.cell? ⟨p, 0, none⟩ = some (.slice ab P.length cb) := block_cell h.obj rfl
theorem Sp.c1 (h : Sp w p ab cb ai ci P) : w.cell? ⟨p, 1, none⟩ = some (.slice ai P.length ci) := block_cell h.obj rfl
set_option maxRecDepth 100000 in
theorem emptyS (h : Sp w p ab cb ai ci P) : Calls Try.prog 102 #[.pointer (some ⟨p, 0, none⟩)] w fun e w' => e = .returned (.bool P.isEmpty) ∧ w = w' := by
  have c1 := h.c1
  have hbd := h.idx.bound
  cases P with
  | nil =>
    clear h
    go_enter Try.func102, Try.ntmps102
    go_wp2_with fail
    go_ret
    exact ⟨rfl, rfl⟩
  | cons x P =>
    have hz : (((P.length + 1 : Nat) : Int) == 0) = false := by rw [beq_eq_false_iff_ne]; omega
    rw [List.length_cons] at c1 hbd
    generalize P.length + 1 = n at *
    clear h
    go_enter Try.func102, Try.ntmps102
    go_wp2_with fail
    go_ret
    exact ⟨rfl, rfl⟩
set_option maxRecDepth 100000 in
set_option maxHeartbeats 1600000 in
theorem countS (h : Sp w p ab cb ai ci P) : Calls Try.prog 97 #[.pointer (some ⟨p, 0, none⟩)] w fun e w' => e = .returned (.int .i64 ((pnums P).length : Int)) ∧ w = w' := by
  have c0 := h.c0
  have hbd := h.blk.bound
  have hsm := h.sm
  have H := Lib.hid h
  obtain ⟨n, HN⟩ : ∃ n, Hid (P.length = n) := ⟨_, Lib.hid rfl⟩
  rw [HN.out] at c0 hbd hsm
  clear h
  go_enter Try.func97, Try.ntmps97
  go_wp2_with fail
  go_loop [3, 11] (fun t i => ∃ k z : Nat, k ≤ n ∧ z ≤ 64 * k ∧ i = .int .i64 (k : Int) ∧ t = .int .i64 (z : Int) ∧ Hid ((pnums (P.take k)).length = z)) (fun _ i => n - (intOf i).toNat)
  case atStart => exact ⟨0, 0, Nat.zero_le _, Nat.zero_le _, rfl, rfl, Lib.hid rfl⟩
  case round =>
    obtain ⟨k, z, hk, hz, rfl, rfl, HZ⟩ := hrel
    by_cases hkn : k < n
    · have hkn' : (k : Int) < (n : Int) := by omega
      have hk0 : (0 : Int) ≤ (k : Int) := by omega
      obtain ⟨b, i, hab, hai, hc⟩ := H.out.at (by have := HN.out; omega)
      obtain ⟨x, hx⟩ : ∃ x, P[k]? = some x := ⟨P[k]'(by have := HN.out; omega), List.getElem?_eq_getElem _⟩
      have e0 := (hc k x hx).1
      have hok := H.out.ok x (List.mem_of_getElem? hx)
      have HPC := Lib.hid (onesCount x.2 hok.1 w)
      have HP : Hid ((pnums (P.take (k + 1))).length = z + Go.Proofs.Ytacjkbljokjdkaa.pop64.cnt 64 x.2) := Lib.hid (by
        rw [pnums_snoc P k x hx, List.length_append, HZ.out, Go.Proofs.Ytacjkbljokjdkaa.pop64.cnt_testBit]
        unfold wbits
        rw [List.length_map])
      have hle : Go.Proofs.Ytacjkbljokjdkaa.pop64.cnt 64 x.2 ≤ 64 := Go.Proofs.Ytacjkbljokjdkaa.pop64.cnt_le _ _
      generalize Go.Proofs.Ytacjkbljokjdkaa.pop64.cnt 64 x.2 = y at *
      obtain ⟨x2, hx2⟩ : ∃ x2, x.2 = x2 := ⟨_, rfl⟩
      rw [hx2] at e0 HPC
      subst hab
      clear hc hx hok hx2
      go_wp2_with fail
      refine HPC.out.mono ?_
      rintro e w1 ⟨rfl, rfl⟩
      go_wp2_with fail
      go_round
      case rel => exact ⟨k + 1, z + y, by omega, by omega, by go_num, by go_num, HP⟩
      case measure => simp [intOf]; omega
    · have hkn' : ¬ (k : Int) < (n : Int) := by omega
      obtain rfl : k = n := by omega
      have HF : Hid ((pnums P).length = z) := Lib.hid (by rw [← HZ.out, List.take_of_length_le (by have := HN.out; omega)])
      go_wp2_with fail
      go_ret
      exact ⟨by rw [HF.out]; rfl, rfl⟩
set_option maxRecDepth 100000 in
set_option maxHeartbeats 1600000 in
theorem numsS (h : Sp w p ab cb ai ci P) (hix : ∀ x ∈ P, x.1 < 18014398509481984) : Calls Try.prog 107 #[.pointer (some ⟨p, 0, none⟩)] w (NumsP (pnums P) w) := by
  have c1 := h.c1
  have hbd := h.idx.bound
  have hsm := h.sm
  have H := Lib.hid h
  have HIX := Lib.hid hix
  obtain ⟨n, HN⟩ : ∃ n, Hid (P.length = n) := ⟨_, Lib.hid rfl⟩
  rw [HN.out] at c1 hbd hsm
  clear h hix
  by_cases hn : n = 0
  · subst hn
    have HP : Hid (P = []) := Lib.hid (List.eq_nil_of_length_eq_zero HN.out)
    go_enter Try.func107, Try.ntmps107
    go_wp2_with fail
    go_ret
    rw [HP.out]
    exact ⟨none, 0, rfl, Own.nil _ _ _, Only.refl _ _, fun k hk => hk.elim⟩
  · have hz : ((n : Int) == 0) = false := by rw [beq_eq_false_iff_ne]; omega
    have hm1 : IntKind.u64.wrap (n : Int) = (n : Int) := by rw [IntKind.wrap_u64]; omega
    have hm2 : IntKind.u64.wrap ((n : Int) * 64) = (n : Int) * 64 := by rw [IntKind.wrap_u64]; omega
    have hm3 : (n : Int) * 64 / 4 = ((16 * n : Nat) : Int) := by omega
    obtain ⟨m, HM⟩ : ∃ m, Hid (16 * n = m) := ⟨_, Lib.hid rfl⟩
    rw [HM.out] at hm3
    have hm : m ≤ 64000000 := by have := HM.out; omega
    have hmk := make0_eq (P := Try.prog) (e := 24) (size := 1) (t := 23) (z := .int .u64 0) (bytes := 8) .i64 .u64 Try.underlying23 (by kernel_rfl) m (by omega) (by omega)
    have HPL := Lib.hid (lt_of_heap H.out.obj)
    have hc1' : ∀ A B, ((w.alloc A).alloc B).cell? ⟨p, 1, none⟩ = some (.slice ai n ci) := fun A B => ((((Only.refl (fun _ => False) w).alloc A).alloc B).cell (p := ⟨p, 1, none⟩) HPL.out id).trans c1
    have d1 := hc1' (.cells (madeCells #[.int .u64 0] m) 24) (.cells #[.slice (some ⟨w.heap.size, 0, none⟩) 0 m] 23)
    clear hc1'
    go_enter Try.func107, Try.ntmps107
    go_wp2_with fail
    obtain ⟨g, hg⟩ : ∃ g, w.heap.size = g := ⟨_, rfl⟩
    obtain ⟨vb, hvb⟩ : ∃ vb, w.heap.size + 1 = vb := ⟨_, rfl⟩
    rw [hvb]
    obtain ⟨w2, hw2⟩ : ∃ w2, w2 = (w.alloc (.cells (madeCells #[.int .u64 0] m) 24)).alloc (.cells #[.slice (some ⟨w.heap.size, 0, none⟩) 0 m] 23) := ⟨_, rfl⟩
    have hnv : NV w2 vb (some ⟨g, 0, none⟩) m [] := by
      rw [hw2]
      refine nv_made ?_ ?_ (by omega) (by omega)
      · rw [← hvb, ← hg]; exact heap_alloc_new' _ _ _ (by simp)
      · rw [← hg]; exact new_old w _ _
    have HW2 : Hid (Same w w2 ∧ w.heap.size ≤ g ∧ w.heap.size ≤ vb) := Lib.hid ⟨by rw [hw2]; exact ((Only.refl _ _).alloc _).alloc _, by omega, by omega⟩
    have HI0 : Hid (NVs w2 w2 vb (some ⟨g, 0, none⟩) (some ⟨g, 0, none⟩) m (pnums (P.take 0))) := Lib.hid ⟨hnv, Only.refl _ _, fun k hk => .inl hk⟩
    rw [← hw2] at d1 ⊢
    clear hw2 hnv hmk hz hm1 hm2 hm3 hvb hg d1
    go_loopw [28] (fun i wr => ∃ (k : Nat) (a' : Option Addr) (cap' : Nat), k ≤ n ∧ i = .int .i64 (k : Int) ∧ Hid (NVs w2 wr vb (some ⟨g, 0, none⟩) a' cap' (pnums (P.take k)))) (fun i _ => n - (intOf i).toNat)
    case atStart => exact ⟨0, _, _, Nat.zero_le _, rfl, HI0⟩
    case round =>
      clear HI0
      obtain ⟨k, a', cap', hk, rfl, HI⟩ := hrel
      by_cases hkn : k < n
      · have hkn' : (k : Int) < (n : Int) := by omega
        have hk0 : (0 : Int) ≤ (k : Int) := by omega
        have hspr : Sp wr p ab cb ai ci P := (H.out.still HW2.out.1).keep HI.out.only (fun j hj hf => by
          have h1 := H.out.lt j hj
          have h2 := HW2.out
          rcases hf with e | e
          · omega
          · have : g = j := e
            omega)
        obtain ⟨b, i, hab, hai, hc⟩ := hspr.at (by have := HN.out; omega)
        obtain ⟨x, hx⟩ : ∃ x, P[k]? = some x := ⟨P[k]'(by have := HN.out; omega), List.getElem?_eq_getElem _⟩
        have e0 := (hc k x hx).1
        have e1 := (hc k x hx).2
        have d0 := hspr.c0
        rw [HN.out] at d0
        have hok := H.out.ok x (List.mem_of_getElem? hx)
        have hxi := HIX.out x (List.mem_of_getElem? hx)
        have hln : (pnums (P.take k)).length < 1000000000 := by have h1 := pnums_le (P.take k); rw [List.length_take] at h1; omega
        have h65 : IntKind.u64.wrap ((x.1 : Int) * 64) = ((64 * x.1 : Nat) : Int) := by rw [IntKind.wrap_u64]; omega
        have hbd0 := hspr.blk.bound
        rw [HN.out] at hbd0
        have HT : Hid (Calls Try.prog 80 #[.int .u64 (x.2 : Int), .int .u64 ((64 * x.1 : Nat) : Int), .pointer (some ⟨vb, 0, none⟩)] wr fun e w' => e = .returned (.tuple #[]) ∧ ∃ a2 cap2, NVs wr w' vb a' a2 cap2 (pnums (P.take (k + 1)))) := Lib.hid (by
          rw [pnums_snoc P k x hx]
          exact toNumsW _ (64 * x.1) vb a' cap' (pnums (P.take k)) wr hok.1 (by omega) hln HI.out.nv)
        generalize 64 * x.1 = k64 at *
        generalize x.1 = x1 at *
        generalize x.2 = x2 at *
        subst hab
        subst hai
        clear hspr hc hx hok hln
        go_wp2_with (go_at_call 80; refine HT.out.mono ?_)
        rintro e w3 ⟨rfl, a2, cap2, hn3⟩
        have HI3 : Hid (NVs w2 w3 vb (some ⟨g, 0, none⟩) a2 cap2 (pnums (P.take (k + 1)))) := Lib.hid (HI.out.trans hn3)
        clear hn3 HT
        go_wp2_with fail
        go_roundw
        case rel => exact ⟨k + 1, a2, cap2, by omega, by go_num, HI3⟩
        case measure => simp [intOf]; omega
      · have hkn' : ¬ (k : Int) < (n : Int) := by omega
        obtain rfl : k = n := by omega
        have HF : Hid (P.take k = P) := Lib.hid (List.take_of_length_le (by have := HN.out; omega))
        rw [HF.out] at HI
        have e0 : wr.cell? ⟨vb, 0, none⟩ = some (.slice a' (pnums P).length cap') := block_cell HI.out.nv.obj rfl
        go_wp2_with fail
        go_ret
        refine ⟨a', cap', rfl, HI.out.nv.row, new_only HW2.out.1 HI.out.only (fun j hf => ?_), fun j hj => ?_⟩
        · have h2 := HW2.out
          rcases hf with e | e
          · omega
          · have : g = j := e
            omega
        · have h2 := HW2.out
          rcases HI.out.fresh j hj with e | e
          · have : g = j := e
            omega
          · have := h2.1.size; omega
end
section
variable {s : List BA} {i : Nat} {d : BA} (hd : s[i]? = some d) (hdd : d.dense = false)
include hd hdd
/-- the sparse array that is asked -/
theorem sparse_at {w : World} {q c : Nat} {a : Option Addr} {l : List It} (h : Sta w q a c l) (hs : l.map (·.d) = s) : ∃ p ab cb ai ci P, l[i]? = some ⟨.iface 87 (.pointer (some ⟨p, 0, none⟩)), d, Fs p ab ai⟩ ∧ d = ⟨false, 0, d.set⟩ ∧ Sp w p ab cb ai ci P ∧ Rep (wd P) d.set := by
  obtain ⟨x, hx, rfl⟩ := get_of_map hs hd
  obtain ⟨v, d, F⟩ := x
  obtain ⟨p, ab, cb, ai, ci, P, rfl, rfl, h1, h2, h3⟩ := (h.get hx).sp hdd
  refine ⟨p, ab, cb, ai, ci, P, hx, ?_, h2, h3⟩
  show d = _
  obtain ⟨e1, e2, e3⟩ := d
  have h4 : e1 = false := hdd
  have h5 : e2 = 0 := h1
  rw [h4, h5]
theorem does_countS (hl : d.set.length ≤ 1000000) : Does s { op := 10, on := i } s { n := d.set.length } := by
  intro w q c a l h hs hl
  obtain ⟨p, ab, cb, ai, ci, P, hx, h1, h2, h3⟩ := sparse_at hd hdd h hs
  obtain ⟨h4, h5⟩ := pairs_len h2.good h3
  refine (stepCountS h i p d _ hx d.set.length (by omega) (Lib.hid (fun wx hS => (countS (h2.still hS)).mono ?_))).mono fun e w' hp => does_ask h hs { n := d.set.length } rfl hp
  rintro e w' ⟨rfl, rfl⟩
  rw [← h5]
  exact ⟨rfl, Only.refl _ _⟩
theorem does_emptyS : Does s { op := 15, on := i } s { yes := d.set.isEmpty } := by
  intro w q c a l h hs hl
  obtain ⟨p, ab, cb, ai, ci, P, hx, h1, h2, h3⟩ := sparse_at hd hdd h hs
  obtain ⟨h4, h5⟩ := pairs_len h2.good h3
  refine (stepEmptyS h i p d _ hx d.set.isEmpty (Lib.hid (fun wx hS => (emptyS (h2.still hS)).mono ?_))).mono fun e w' hp => does_ask h hs { yes := d.set.isEmpty } rfl hp
  rintro e w' ⟨rfl, rfl⟩
  have : P.isEmpty = d.set.isEmpty := by
    cases P with
    | nil => rw [h5]; rfl
    | cons x P =>
      cases hset : d.set with
      | nil => rw [hset] at h4; simp at h4
      | cons y l => rfl
  rw [this]
  exact ⟨rfl, Only.refl _ _⟩
theorem does_numsS (hb : ∀ k ∈ d.set, k < 1152921504606846976) : Does s { op := 14, on := i } s { nums := d.set } := by
  intro w q c a l h hs hl
  obtain ⟨p, ab, cb, ai, ci, P, hx, h1, h2, h3⟩ := sparse_at hd hdd h hs
  obtain ⟨h4, h5⟩ := pairs_len h2.good h3
  refine (stepNumsS h i p d _ hx d.set (Lib.hid (fun wx hS => ?_))).mono fun e w' hp => does_nums h hs d.set hp
  have := numsS (h2.still hS) (fun x hx => by
    obtain ⟨k, hk, e⟩ := pair_bit h2.good h3 hx
    have := hb k hk
    omega)
  rw [← h5] at this
  exact this
theorem does_setS (k : Nat) (hk : k < 1152921504606846976) (hl : d.set.length ≤ 900) : Does s { op := 3, on := i, k := k } (s.set i { d with set := put d.set k }) { yes := true } := by
  intro w q c a l h hs hll
  obtain ⟨p, ab, cb, ai, ci, P, hx, h1, h2, h3⟩ := sparse_at hd hdd h hs
  obtain ⟨h4, h5⟩ := pairs_len h2.good h3
  refine (stepSetS h i p d _ hx k { d with set := put d.set k } (Lib.hid (fun wx hS => (setS (h2.still hS) (by omega) k hk).mono ?_))).mono fun e w' hp => does_turn h hs { yes := true } rfl hx hp
  rintro e w' ⟨rfl, ho, ab2, cb2, ai2, ci2, hsp, hf⟩
  refine ⟨rfl, ho, Fs p ab2 ai2, ?_, hf⟩
  have := Arr.sparse p ab2 cb2 ai2 ci2 _ _ hsp (pput_rep h2.good h3 k)
  have e : ({ d with set := put d.set k } : BA) = ⟨false, 0, put d.set k⟩ := by rw [h1]
  rw [e]; exact this
end
end Go.Proofs.Ytacjkbljokjdkaa.ba
