/-
  Or of two dense bit arrays.
-/
import Derived.Test.YtacjkbljokjdkaaBaNandM
import Derived.Deep.CutBlock
namespace Go.Proofs.Ytacjkbljokjdkaa.ba
open Go.RowKit Go.Proofs.Ytacjkbljokjdkaa.base Go.Proofs.Ytacjkbljokjdkaa.heap Go.Proofs.Ytacjkbljokjdkaa.rows Go.Proofs.Ytacjkbljokjdkaa.bit Go.Proofs.Ytacjkbljokjdkaa.bs
set_option linter.unusedVariables false
/-- a part of a row is written over -/
theorem Own.over {e : Nat} {w w' : World} {g n cap off k : Nat} {xs ys : List Value} {cur : Array Value} (h : Own e 1 w (some ⟨g, 0, none⟩) n cap xs) (hb : w.heap[g]? = some (.cells cur e (0, 0))) (hw : w'.heap[g]? = some (.cells (cur.toList.take off ++ ys ++ cur.toList.drop (off + k)).toArray e (0, 0))) (hk : ys.length = k) (hn : off + k = n) (h1 : ∀ u ∈ ys, u.oneCell' = true) :
    Own e 1 w' (some ⟨g, 0, none⟩) n cap (xs.take off ++ ys) := by
  rcases h.alt with ⟨hc, _⟩ | ⟨b, cur', hb', hbb, hs, ht⟩
  · cases hc
  · cases hb'
    rw [hb] at hbb
    cases hbb
    have hle := h.le
    have hcl : cur.toList.length = cap := by rw [Array.length_toList, hs, Nat.mul_one]
    have hx : xs.take off = cur.toList.take off := by rw [← ht, List.take_take]; congr 1; omega
    have htl : (cur.toList.take off).length = off := by rw [List.length_take, hcl]; omega
    refine ⟨by rw [List.length_append, hx, htl, hk]; omega, hle, h.max, fun u hu => ?_, .inr ⟨g, _, rfl, hw, ?_, ?_⟩⟩
    · rcases List.mem_append.1 hu with hu | hu
      · exact h.one u (List.mem_of_mem_take hu)
      · exact h1 u hu
    · simp only [List.size_toArray, List.length_append, List.length_take, List.length_drop, hcl, hk]; omega
    · rw [hx]
      have : (cur.toList.take off ++ ys).length = n * 1 := by rw [List.length_append, htl, hk]; omega
      rw [← this]; exact List.take_left
theorem own_block {e : Nat} {w : World} {g n cap : Nat} {xs : List Value} (h : Own e 1 w (some ⟨g, 0, none⟩) n cap xs) : ∃ cur, w.heap[g]? = some (.cells cur e (0, 0)) ∧ cur.size = cap := by
  rcases h.alt with ⟨hc, _⟩ | ⟨b, cur, hb', hbb, hs, ht⟩
  · cases hc
  · cases hb'
    exact ⟨cur, hbb, by rw [hs, Nat.mul_one]⟩
theorem Dn.over {w w' : World} {p g c lo hi off k : Nat} {ws vs : List Nat} {any : Bool} {cur : Array Value} (h : Dn w p (some ⟨g, 0, none⟩) c ws lo hi any) (hb : w.heap[g]? = some (.cells cur 79 (0, 0))) (hw : w'.heap[g]? = some (.cells (cur.toList.take off ++ U vs ++ cur.toList.drop (off + k)).toArray 79 (0, 0))) (hk : vs.length = k) (hn : off + k = ws.length) (hv : ∀ v ∈ vs, Lt64 v) (ho : Only (fun j => j = g) w w') :
    Dn w' p (some ⟨g, 0, none⟩) c (ws.take off ++ vs) lo hi any := by
  have hl : (ws.take off ++ vs).length = ws.length := by rw [List.length_append, List.length_take, hk]; omega
  refine ⟨by rw [hl]; exact ho.obj h.obj (fun e => h.nap (by rw [e]; exact rfl)), ?_, ?_, by simp, h.nap, by rw [hl]; exact h.sm⟩
  · rw [hl]
    have := Own.over h.row hb hw (by rw [U_len, hk]) hn (U_one _)
    have e : U (ws.take off ++ vs) = (U ws).take off ++ U vs := by simp [U]
    rw [e]; exact this
  · intro x hx
    rcases List.mem_append.1 hx with h1 | h1
    · exact h.ok x (List.mem_of_mem_take h1)
    · exact hv x h1
theorem slB2 : SliceOf Try.prog 93 79 1 8 := SliceOf.mk (z := .int .u64 0) Try.underlying93 (by kernel_rfl) rfl
theorem slBl : SliceOf Try.prog 96 79 1 8 := SliceOf.mk (z := .int .u64 0) Try.underlying96 (by kernel_rfl) rfl
set_option maxRecDepth 100000 in
set_option maxHeartbeats 1600000 in
theorem copyD {w : World} {p c lo hi : Nat} {a : Option Addr} {ws l : List Nat} {any : Bool} (h : Dn w p a c ws lo hi any) (he : Ends ws lo hi any) (hr : Rep (wf ws) l) : Calls Try.prog 90 #[.pointer (some ⟨p, 0, none⟩)] w (NewA ⟨true, ws.length, l⟩ w) := by
  obtain ⟨b, ha, hb, hbp, c0, c1, c2, c3, hf, hc, hfb⟩ := h.facts
  have hsm := h.sm
  have hbd := h.row.bound
  have H := Lib.hid h
  obtain ⟨n, HN⟩ : ∃ n, Hid (ws.length = n) := ⟨_, Lib.hid rfl⟩
  rw [HN.out] at c0 hsm hbd ⊢
  have hmk := make_eq (P := Try.prog) (e := 79) (size := 1) (t := 96) (z := .int .u64 0) (bytes := 8) .i64 .i64 Try.underlying96 (by kernel_rfl) n (by omega) (by omega)
  have hrd := h.row.rd
  rw [HN.out] at hrd
  have HRD := Lib.hid hrd
  obtain ⟨g, hg⟩ : ∃ g, w.heap.size = g := ⟨_, rfl⟩
  have hpg := lt_of_heap h.obj
  have hpne : p ≠ g := by omega
  have c0' : (w.alloc (.cells (madeCells #[.int .u64 0] n) 79)).cell? ⟨p, 0, none⟩ = some (.slice a n c) := (((Only.refl (fun _ => False) w).alloc _).cell (p := ⟨p, 0, none⟩) hpg id).trans (by rw [← ha] at c0; exact c0)
  clear h hc hf hfb hrd
  subst ha
  have HGN : Hid ((w.alloc (.cells (madeCells #[.int .u64 0] n) 79)).heap[g]? = some (.cells (madeCells #[.int .u64 0] n) 79 (0, 0))) := Lib.hid (heap_alloc_new' w _ g hg.symm)
  have HGS : Hid (0 + n ≤ (madeCells #[.int .u64 0] n).size) := Lib.hid (by simp [madeCells])
  go_enter Try.func90, Try.ntmps90
  go_wp2_with (with_reducible refine wpList_copy n rfl _ _ _ _ rfl slBl rfl HGN.out rfl (HRD.out.keep ((Only.refl _ _).alloc _) (fun _ _ => id)) (Nat.min_self n).symm HGS.out ?_)
  intro w2 hb2 ho2
  have hne : p ≠ g := by omega
  have hgn := HGN.out
  have HG : Hid (Own 79 1 w2 (some ⟨g, 0, none⟩) n n (U ws) ∧ Same w w2) := Lib.hid (by
    have h1 := Own.of_block (e := 79) (size := 1) hgn n n (Nat.le_refl _) (by unfold maxLen; omega) (by simp [madeCells]) (by intro u hu; exact U_one (List.replicate n 0) u (by rw [← U_zeros]; exact List.mem_of_mem_take hu))
    have hb3 : w2.heap[g]? = some (.cells ((madeCells #[.int .u64 0] n).toList.take 0 ++ (U ws).take n ++ (madeCells #[.int .u64 0] n).toList.drop (0 + n)).toArray 79 (0, 0)) := by rw [hb2]; simp
    have h2 := Own.over (off := 0) (ys := (U ws).take n) (k := n) h1 hgn hb3 (by rw [List.length_take, U_len, HN.out]; omega) (by omega) (fun u hu => U_one _ u (List.mem_of_mem_take hu))
    rw [List.take_zero, List.nil_append, List.take_of_length_le (by rw [U_len, HN.out]; omega)] at h2
    exact ⟨h2, new_only (S := fun j => j = g) ((Only.refl _ _).alloc _) ho2 (fun j hj => by omega)⟩)
  have d1 : w2.cell? ⟨p, 1, none⟩ = some (.int .u64 (lo : Int)) := (HG.out.2.cell (p := ⟨p, 1, none⟩) hpg id).trans c1
  have d2 : w2.cell? ⟨p, 2, none⟩ = some (.int .u64 (hi : Int)) := (HG.out.2.cell (p := ⟨p, 2, none⟩) hpg id).trans c2
  have d3 : w2.cell? ⟨p, 3, none⟩ = some (.bool any) := (HG.out.2.cell (p := ⟨p, 3, none⟩) hpg id).trans c3
  have HGL : Hid (w.heap.size ≤ g) := Lib.hid (by omega)
  clear hb2 ho2 c0' c0 c1 c2 c3 hmk hgn hg
  go_wp2_with fail
  refine wp_region_still_tail 14 (by kernel_rfl) (by kernel_rfl) ?_
  simp only [List.take_succ_cons, List.take_zero, List.drop_succ_cons, List.drop_zero]
  repeat still_step
  refine wpStill_nil ?_
  go_wp2_with fail
  go_ret
  have hg2 := HG.out.1.lt g rfl
  have hA := Arr.dense (w := (w2.alloc (.cells #[.slice (some ⟨g, 0, none⟩) n n, .int .u64 (lo : Int), .int .u64 (hi : Int), .bool any] 95)).drew) w2.heap.size (some ⟨g, 0, none⟩) n ws lo hi any l ⟨by rw [HN.out]; exact heap_alloc_new' w2 _ _ rfl, by rw [HN.out]; exact HG.out.1.keep (((Only.refl (fun _ => False) w2).alloc _).drew) (fun _ _ => id), H.out.ok, by simp, fun e => by have : g = w2.heap.size := e; omega, H.out.sm⟩ hr he
  rw [HN.out] at hA
  refine ⟨_, _, _, rfl, hA, (HG.out.2.alloc _).drew, ?_⟩
  · rintro k (rfl | hk)
    · exact HG.out.2.size
    · have : g = k := hk
      have := HGL.out; omega
set_option maxRecDepth 100000 in
set_option maxHeartbeats 1600000 in
theorem maxU2 (g c x y : Nat) (w : World) (h0 : w.cell? ⟨g, 0, none⟩ = some (.int .u64 (x : Int))) (h1 : w.cell? ⟨g, 1, none⟩ = some (.int .u64 (y : Int))) :
    Calls Try.prog 91 #[.slice (some ⟨g, 0, none⟩) 2 c] w fun e w' => e = .returned (.int .u64 ((max x y : Nat) : Int)) ∧ w = w' := by
  go_enter Try.func91, Try.ntmps91
  go_wp2_with fail
  go_loop [3, 4] (fun m i => (i = .int .i64 1 ∧ m = .int .u64 (x : Int)) ∨ (i = .int .i64 2 ∧ m = .int .u64 ((max x y : Nat) : Int))) (fun _ i => (2 - intOf i).toNat)
  case atStart => exact .inl ⟨rfl, rfl⟩
  case round =>
    rcases hrel with ⟨rfl, rfl⟩ | ⟨rfl, rfl⟩
    · by_cases hxy : x < y
      · have hxy' : (x : Int) < (y : Int) := by omega
        have hm : max x y = y := by omega
        rw [hm]
        clear hm
        go_wp2_with fail
        go_round
        case rel => exact .inr ⟨rfl, rfl⟩
        case measure => simp [intOf]
      · have hxy' : ¬ (x : Int) < (y : Int) := by omega
        have hm : max x y = x := by omega
        rw [hm]
        clear hm
        go_wp2_with fail
        go_round
        case rel => exact .inr ⟨rfl, rfl⟩
        case measure => simp [intOf]
    · go_wp2_with fail
      go_ret
      exact ⟨rfl, rfl⟩
/-- how many words an Or has -/
def orWords (l1 l2 : List Nat) (n1 n2 : Nat) : Nat := if l1 = [] then n2 else if l2 = [] then n1 else max n1 n2
theorem orL_nil {l : List Nat} (h : Asc l) : orL [] l = l := (orL_spec l Asc.nil).1.eq h (fun k => by rw [(orL_spec l Asc.nil).2]; simp)
abbrev orW_ (ws1 ws2 : List Nat) (j : Nat) : Nat := ws1.getD j 0 ||| ws2.getD j 0
theorem getD_far (ws : List Nat) (j : Nat) (h : ws.length ≤ j) : ws.getD j 0 = 0 := by rw [List.getD_eq_getElem?_getD, List.getElem?_eq_none h]; rfl
theorem or_tail1 {ws1 ws2 : List Nat} {k : Nat} (h1 : ws1.length = k) (h : k ≤ ws2.length) : (tab (orW_ ws1 ws2) k ws2.length).take k ++ ws2.drop k = tab (orW_ ws1 ws2) ws2.length ws2.length := by
  apply List.ext_getElem?
  intro j
  rw [List.getElem?_append, List.length_take, tab_len]
  by_cases hj : j < k
  · rw [if_pos (by omega), List.getElem?_take, if_pos hj]
    simp only [tab, List.getElem?_map]
    rw [List.getElem?_range (by omega)]
    simp only [Option.map_some, hj, if_true, show j < ws2.length by omega]
  · rw [if_neg (by omega), List.getElem?_drop, show k + (j - min k ws2.length) = j by omega]
    simp only [tab, List.getElem?_map]
    by_cases hl : j < ws2.length
    · rw [List.getElem?_range hl]
      simp only [Option.map_some, hl, if_true, orW_]
      rw [getD_far ws1 j (by omega), Nat.zero_or, List.getD_eq_getElem?_getD, List.getElem?_eq_getElem hl]; rfl
    · rw [List.getElem?_eq_none (by omega), List.getElem?_eq_none (by simpa using hl)]; rfl
theorem or_tail2 {ws1 ws2 : List Nat} {k : Nat} (h1 : ws2.length = k) (h : k ≤ ws1.length) : (tab (orW_ ws1 ws2) k ws1.length).take k ++ ws1.drop k = tab (orW_ ws1 ws2) ws1.length ws1.length := by
  have e : orW_ ws1 ws2 = orW_ ws2 ws1 := by funext j; exact Nat.or_comm _ _
  rw [e]; exact or_tail1 h1 h
set_option maxRecDepth 100000 in
set_option maxHeartbeats 3200000 in
theorem orBoth {w : World} {p1 c1 lo1 hi1 p2 c2 lo2 hi2 : Nat} {a1 a2 : Option Addr} {ws1 ws2 : List Nat} (h1 : Dn w p1 a1 c1 ws1 lo1 hi1 true) (h2 : Dn w p2 a2 c2 ws2 lo2 hi2 true) (hl1 : ws1.length ≠ 0) (hl2 : ws2.length ≠ 0) :
    Calls Try.prog 77 #[.pointer (some ⟨p1, 0, none⟩), .pointer (some ⟨p2, 0, none⟩)] w (ResD (tab (orW_ ws1 ws2) (max ws1.length ws2.length) (max ws1.length ws2.length)) w) := by
  have H1 := Lib.hid h1
  have H2 := Lib.hid h2
  have HC1 : Hid (Calls Try.prog 52 #[.pointer (some ⟨p1, 0, none⟩)] w fun e w' => e = .returned (.int .u64 ((64 * ws1.length : Nat) : Int)) ∧ w = w') := Lib.hid ((capD h1).mono fun e w' h => ⟨h.1, h.2.symm⟩)
  have HC2 : Hid (Calls Try.prog 52 #[.pointer (some ⟨p2, 0, none⟩)] w fun e w' => e = .returned (.int .u64 ((64 * ws2.length : Nat) : Int)) ∧ w = w') := Lib.hid ((capD h2).mono fun e w' h => ⟨h.1, h.2.symm⟩)
  obtain ⟨b1, ha1, hb1, _, c10, _, _, c13, _, _, _⟩ := h1.facts
  obtain ⟨b2, ha2, hb2, _, c20, _, _, c23, _, _, _⟩ := h2.facts
  have hsm1 := h1.sm
  have hsm2 := h2.sm
  have hbd1 := h1.row.bound
  have hbd2 := h2.row.bound
  obtain ⟨n1, HN⟩ : ∃ n1, Hid (ws1.length = n1) := ⟨_, Lib.hid rfl⟩
  obtain ⟨n2, HN2⟩ : ∃ n2, Hid (ws2.length = n2) := ⟨_, Lib.hid rfl⟩
  rw [HN.out] at c10 hsm1 hbd1 hl1 HC1
  rw [HN2.out] at c20 hsm2 hbd2 hl2 HC2
  rw [HN.out, HN2.out]
  obtain ⟨N, HNN⟩ : ∃ N, Hid (max n1 n2 = N) := ⟨_, Lib.hid rfl⟩
  rw [HNN.out]
  have hN : N ≤ 1000000 ∧ n1 ≤ N ∧ n2 ≤ N ∧ 1 ≤ N := by have := HNN.out; omega
  obtain ⟨hN1, hN2, hN3, hN4⟩ := hN
  have HLF : Hid (∀ j, Lt64 (orW_ ws1 ws2 j)) := Lib.hid (fun j => lt64_or (h1.ok.at j) (h2.ok.at j))
  have e1 : IntKind.u64.wrap (n1 : Int) = (n1 : Int) := by rw [IntKind.wrap_u64]; omega
  have e2 : IntKind.u64.wrap (n2 : Int) = (n2 : Int) := by rw [IntKind.wrap_u64]; omega
  have e3 : IntKind.u64.wrap ((N : Int) * 64) = ((64 * N : Nat) : Int) := by rw [IntKind.wrap_u64]; omega
  have z1 : (((64 * n1 : Nat) : Int) == 0) = false := by rw [beq_eq_false_iff_ne]; omega
  have z2 : (((64 * n2 : Nat) : Int) == 0) = false := by rw [beq_eq_false_iff_ne]; omega
  have HNEW : Hid (∀ wx, Calls Try.prog 31 #[.int .u64 ((64 * N : Nat) : Int), .slice none 0 0] wx (NewD (tab (orW_ ws1 ws2) 0 N) 0 0 false wx)) := Lib.hid (fun wx => by
    have := newD0 (64 * N) (by omega) none 0 0 wx (.inl rfl)
    rw [show (64 * N + 63) / 64 = N by omega] at this
    rw [tab_zero]; exact this)
  generalize 64 * n1 = m1 at *
  generalize 64 * n2 = m2 at *
  generalize 64 * N = m3 at *
  have HMX : Hid (∀ wx g c, wx.cell? ⟨g, 0, none⟩ = some (.int .u64 (n1 : Int)) → wx.cell? ⟨g, 1, none⟩ = some (.int .u64 (n2 : Int)) → Calls Try.prog 91 #[.slice (some ⟨g, 0, none⟩) 2 c] wx fun e w' => e = .returned (.int .u64 (N : Int)) ∧ wx = w') := Lib.hid (fun wx g c h1 h2 => by
    have := maxU2 g c n1 n2 wx h1 h2
    rw [HNN.out] at this
    exact this)
  clear h1 h2
  subst ha1
  subst ha2
  go_enter Try.func77, Try.ntmps77
  go_wp2_with (go_at_call 52; refine HC1.out.mono ?_)
  rintro e w' ⟨rfl, rfl⟩
  go_wp2_with (go_at_call 52; refine HC2.out.mono ?_)
  rintro e w' ⟨rfl, rfl⟩
  clear HC1 HC2
  go_wp2_with fail
  refine wp_region_still_tail 12 (by kernel_rfl) (by kernel_rfl) ?_
  simp only [List.take_succ_cons, List.take_zero, List.drop_succ_cons, List.drop_zero]
  repeat still_step
  refine wpStill_nil ?_
  go_wp2_with (go_at_call 91; refine (HMX.out _ _ _ ?_ ?_).mono ?_)
  · exact block_cell (heap_alloc_new w (.cells #[.int .u64 (n1 : Int), .int .u64 (n2 : Int)] 24)) rfl
  · exact block_cell (heap_alloc_new w (.cells #[.int .u64 (n1 : Int), .int .u64 (n2 : Int)] 24)) rfl
  rintro e w2 ⟨rfl, rfl⟩
  clear c13 c23 z1 z2 HMX
  go_wp2_with (go_at_call 31; refine (HNEW.out _).mono ?_)
  rintro e w1 ⟨p3, a3, c3, rfl, hd3, hs1, hf3⟩
  have HS1 : Hid (Same w w1 ∧ ∀ k, Ft p3 a3 k → w.heap.size ≤ k) := Lib.hid (by
    have hA := ((Only.refl (fun _ => False) w).drew).alloc (.cells #[.int .u64 (n1 : Int), .int .u64 (n2 : Int)] 24)
    exact ⟨Same.trans hA hs1, fun k hk => Nat.le_trans hA.size (hf3 k hk)⟩)
  have HI0 : Hid (Dn w1 p3 a3 c3 (tab (orW_ ws1 ws2) 0 N) 0 0 false ∧ Only (Ft p3 a3) w1 w1) := Lib.hid ⟨hd3, Only.refl _ _⟩
  clear hd3 hs1 hf3 HNEW
  have hap : Hid (∀ {p : Nat} {a : Option Addr}, (∀ j, Ft p a j → j < w.heap.size) → ∀ j, Ft p a j → ¬ Ft p3 a3 j) := Lib.hid (fun hl j hj hf => by have := hl j hj; have := HS1.out.2 j hf; omega)
  go_upto_block 0 with fail
  go_cut [7] (fun _ wx => Hid (Dn wx p3 a3 c3 (tab (orW_ ws1 ws2) N N) 0 0 false ∧ Only (Ft p3 a3) w1 wx))
  case first =>
    go_wp2_with fail
    go_loopw [7] (fun i wr => ∃ k : Nat, k ≤ N ∧ k ≤ n1 ∧ k ≤ n2 ∧ i = .int .u64 (k : Int) ∧ Hid (Dn wr p3 a3 c3 (tab (orW_ ws1 ws2) k N) 0 0 false ∧ Only (Ft p3 a3) w1 wr)) (fun i _ => N - (intOf i).toNat)
    case atStart => exact ⟨0, Nat.zero_le _, Nat.zero_le _, Nat.zero_le _, rfl, HI0⟩
    case round =>
      clear HI0
      obtain ⟨k, hk, hk1, hk2, rfl, HI⟩ := hrel
      have hk0 : (0 : Int) ≤ (k : Int) := by omega
      have HD1 : Hid (Dn wr p1 (some ⟨b1, 0, none⟩) c1 ws1 lo1 hi1 true) := Lib.hid ((H1.out.still HS1.out.1).keep HI.out.2 (hap.out H1.out.lt))
      have HD2 : Hid (Dn wr p2 (some ⟨b2, 0, none⟩) c2 ws2 lo2 hi2 true) := Lib.hid ((H2.out.still HS1.out.1).keep HI.out.2 (hap.out H2.out.lt))
      obtain ⟨_, q1, _, _, d0, _, _, _, _, hc1, _⟩ := HD1.out.facts
      cases q1
      obtain ⟨_, q2, _, _, e0, _, _, _, _, hc2, _⟩ := HD2.out.facts
      cases q2
      obtain ⟨b3, ha3, hb3, hb3p, g0, _, _, _, _, hc3, hfb⟩ := HI.out.1.facts
      rw [HN.out] at d0
      rw [HN2.out] at e0
      rw [tab_len] at g0
      by_cases hkN : k = N
      · subst hkN
        have hkn' : ¬ (k : Int) < (k : Int) := by omega
        go_wp2_with fail
        go_meet
        exact HI
      · have hkN' : (k : Int) < (N : Int) := by omega
        by_cases hk3 : k = n1
        · subst hk3
          obtain ⟨cur, hcur, hcs⟩ := own_block (ha3 ▸ HI.out.1.row)
          have HRS : Hid (Rd 1 wr (some ⟨b2, k, none⟩) (n2 - k) (c2 - k) ((U ws2).drop k)) := Lib.hid (by
            have := HD2.out.row.rd.drop (k := k) (by rw [HN2.out]; exact hk2)
            rw [HN2.out, Nat.mul_one, Nat.zero_add] at this
            exact this)
          have hc3 := HI.out.1.row.bound
          rw [tab_len] at hc3
          have HCUR := Lib.hid hcur
          have hk5 : k < n2 := by have := HNN.out; omega
          have HK6 : Hid (N = n2) := Lib.hid (by have := HNN.out; omega)
          have hc4 : ¬ c2 = k := by omega
          have hc5 : ¬ c3 = k := by omega
          have e4 : (k : Int) ≤ (c2 : Int) := by omega
          have e5 : (k : Int) ≤ (c3 : Int) := by omega
          have HFIT : Hid (k + (N - k) ≤ cur.size) := Lib.hid (by omega)
          have HST : Hid (∀ w', w'.heap[b3]? = some (.cells (cur.toList.take k ++ ((U ws2).drop k).take (N - k) ++ cur.toList.drop (k + (N - k))).toArray 79 (0, 0)) → Only (fun j => j = b3) wr w' → Dn w' p3 a3 c3 (tab (orW_ ws1 ws2) N N) 0 0 false ∧ Only (Ft p3 a3) w1 w') := Lib.hid (fun w' hw' ho' => by
            have hl2 : ws2.length = N := by rw [HN2.out]; exact HK6.out.symm
            have h4 : ((U ws2).drop k).take (N - k) = U (ws2.drop k) := by rw [U_drop, List.take_of_length_le]; rw [U_len, List.length_drop]; omega
            rw [h4] at hw'
            have h5 := Dn.over (ha3 ▸ HI.out.1) hcur hw' (by rw [List.length_drop]; omega) (by rw [tab_len]; omega) (fun v hv => H2.out.ok v (List.mem_of_mem_drop hv)) ho'
            have h6 := or_tail1 (ws1 := ws1) (ws2 := ws2) HN.out (by omega)
            rw [hl2] at h6
            rw [h6] at h5
            exact ⟨by rw [ha3]; exact h5, HI.out.2.trans ho' (fun j _ e => .inr (by rw [ha3]; exact e.symm))⟩)
          subst ha3
          clear hc1 hc2 hc3 hfb hcur
          go_wp2_with fail
          refine wp_region_still_tail 12 (by kernel_rfl) (by kernel_rfl) ?_
          simp only [List.take_succ_cons, List.take_zero, List.drop_succ_cons, List.drop_zero]
          repeat still_step
          refine wpStill_nil ?_
          refine wpList_copy (N - k) rfl _ _ _ _ rfl slB2 rfl HCUR.out rfl (HRS.out.of_heap rfl) (by rw [HK6.out, Nat.min_self]) HFIT.out ?_
          intro w5 hw5 ho5
          have HF := Lib.hid (HST.out w5 hw5 ⟨ho5.os, ho5.tape, ho5.output, ho5.size, ho5.block⟩)
          clear hw5 ho5 HST
          go_wp2_with fail
          go_meet
          exact HF
        · have hk3' : ((k : Int) == (n1 : Int)) = false := by rw [beq_eq_false_iff_ne]; omega
          have hk33 : k < n1 := by omega
          by_cases hk4 : k = n2
          · subst hk4
            obtain ⟨cur, hcur, hcs⟩ := own_block (ha3 ▸ HI.out.1.row)
            have HRS : Hid (Rd 1 wr (some ⟨b1, k, none⟩) (n1 - k) (c1 - k) ((U ws1).drop k)) := Lib.hid (by
              have := HD1.out.row.rd.drop (k := k) (by rw [HN.out]; exact hk1)
              rw [HN.out, Nat.mul_one, Nat.zero_add] at this
              exact this)
            have hc3 := HI.out.1.row.bound
            rw [tab_len] at hc3
            have HCUR := Lib.hid hcur
            have hk5 : k < n1 := by have := HNN.out; omega
            have HK6 : Hid (N = n1) := Lib.hid (by have := HNN.out; omega)
            have hc4 : ¬ c1 = k := by omega
            have hc5 : ¬ c3 = k := by omega
            have e4 : (k : Int) ≤ (c1 : Int) := by omega
            have e5 : (k : Int) ≤ (c3 : Int) := by omega
            have HFIT : Hid (k + (N - k) ≤ cur.size) := Lib.hid (by omega)
            have HST : Hid (∀ w', w'.heap[b3]? = some (.cells (cur.toList.take k ++ ((U ws1).drop k).take (N - k) ++ cur.toList.drop (k + (N - k))).toArray 79 (0, 0)) → Only (fun j => j = b3) wr w' → Dn w' p3 a3 c3 (tab (orW_ ws1 ws2) N N) 0 0 false ∧ Only (Ft p3 a3) w1 w') := Lib.hid (fun w' hw' ho' => by
              have hl1 : ws1.length = N := by rw [HN.out]; exact HK6.out.symm
              have h4 : ((U ws1).drop k).take (N - k) = U (ws1.drop k) := by rw [U_drop, List.take_of_length_le]; rw [U_len, List.length_drop]; omega
              rw [h4] at hw'
              have h5 := Dn.over (ha3 ▸ HI.out.1) hcur hw' (by rw [List.length_drop]; omega) (by rw [tab_len]; omega) (fun v hv => H1.out.ok v (List.mem_of_mem_drop hv)) ho'
              have h6 := or_tail2 (ws1 := ws1) (ws2 := ws2) HN2.out (by omega)
              rw [hl1] at h6
              rw [h6] at h5
              exact ⟨by rw [ha3]; exact h5, HI.out.2.trans ho' (fun j _ e => .inr (by rw [ha3]; exact e.symm))⟩)
            subst ha3
            clear hc1 hc2 hc3 hfb hcur
            go_wp2_with fail
            refine wp_region_still_tail 12 (by kernel_rfl) (by kernel_rfl) ?_
            simp only [List.take_succ_cons, List.take_zero, List.drop_succ_cons, List.drop_zero]
            repeat still_step
            refine wpStill_nil ?_
            refine wpList_copy (N - k) rfl _ _ _ _ rfl slB2 rfl HCUR.out rfl (HRS.out.of_heap rfl) (by rw [HK6.out, Nat.min_self]) HFIT.out ?_
            intro w5 hw5 ho5
            have HF := Lib.hid (HST.out w5 hw5 ⟨ho5.os, ho5.tape, ho5.output, ho5.size, ho5.block⟩)
            clear hw5 ho5 HST
            go_wp2_with fail
            go_meet
            exact HF
          · have hk4' : ((k : Int) == (n2 : Int)) = false := by rw [beq_eq_false_iff_ne]; omega
            have hk44 : k < n2 := by omega
            have hk1' : (k : Int) < (n1 : Int) := by omega
            have hk2' : (k : Int) < (n2 : Int) := by omega
            have d1 := hc1 k (by rw [HN.out]; omega)
            have e9 := hc2 k (by rw [HN2.out]; omega)
            have g1 := hc3 k (by rw [tab_len]; omega)
            have f1 := hfb k
            have hz : (tab (orW_ ws1 ws2) k N).getD k 0 = 0 := by rw [tab_get, if_neg (by omega)]
            rw [hz] at g1
            have HOP : Hid (∀ wx, Calls Try.prog 92 #[.int .u64 ((ws1.getD k 0 : Nat) : Int), .int .u64 ((ws2.getD k 0 : Nat) : Int)] wx fun e w' => e = .returned (.int .u64 ((orW_ ws1 ws2 k : Nat) : Int)) ∧ w' = wx) := Lib.hid (fun wx => orW _ _ (H1.out.ok.at k) (H2.out.ok.at k) wx)
            have HST : Hid (∀ w', w' = (wr.setCell ⟨b3, k, none⟩ (.int .u64 ((orW_ ws1 ws2 k : Nat) : Int))).drew → Dn w' p3 a3 c3 (tab (orW_ ws1 ws2) (k + 1) N) 0 0 false ∧ Only (Ft p3 a3) w1 w') := Lib.hid (by
              rintro w' rfl
              obtain ⟨q1, q2⟩ := HI.out.1.put ha3 k (orW_ ws1 ws2 k) (by rw [tab_len]; omega) (HLF.out k) (Only.refl _ _) HI.out.1.obj
              rw [tab_set _ _ _ (by omega)] at q1
              exact ⟨q1.still ((Only.refl _ _).drew), (HI.out.2.trans q2 (fun _ _ h => h)).drew⟩)
            clear hc1 hc2 hc3 hfb hz
            generalize orW_ ws1 ws2 k = y at *
            generalize ws1.getD k 0 = x1 at *
            generalize ws2.getD k 0 = x2 at *
            subst ha3
            go_wp2_with fail
            refine wp_region_still_tail 21 (by kernel_rfl) (by kernel_rfl) ?_
            simp only [List.take_succ_cons, List.take_zero, List.drop_succ_cons, List.drop_zero]
            repeat still_step
            still_call (HOP.out _)
            repeat still_step
            refine wpStill_nil ?_
            go_wp2_with fail
            exact ⟨⟨k + 1, by omega, by omega, by omega, by go_num, Lib.hid (HST.out _ rfl)⟩, by first | (simp [intOf]; done) | (simp [intOf]; omega)⟩
  case rest =>
    clear HI0
    have HI := Lib.hid hcut.out
    have HLO := Lib.hid (setLowest HI.out.1)
    clear hcut HLF H1 H2 HN HN2 HNN hN1 hN2 hN3 hN4 hsm1 hsm2 hbd1 hbd2 hl1 hl2 e1 e2 e3 hap c10 c20
    go_wp2_with fail
    refine HLO.out.mono ?_
    rintro e w2 ⟨rfl, ho2, hlo⟩
    have HO2 := Lib.hid ho2
    clear ho2
    rcases hlo with ⟨hnb, hd⟩ | ⟨lo, hlo, hd⟩
    · have HNB := Lib.hid hnb
      have HHI := Lib.hid (setHighest hd)
      clear hnb hd
      go_wp2_with fail
      refine HHI.out.mono ?_
      rintro e w3 ⟨rfl, ho3, hhi⟩
      rcases hhi with ⟨_, hd⟩ | ⟨hi, hhi, _⟩
      · have HD := Lib.hid hd
        clear hd
        have HS : Hid (Same w w3) := Lib.hid (new_only4 HS1.out HI.out.2 HO2.out ho3)
        clear ho3
        go_wp2_with fail
        go_ret
        exact ⟨p3, a3, c3, 0, 0, false, rfl, HD.out, .inl ⟨HNB.out, rfl, rfl, rfl⟩, HS.out, HS1.out.2⟩
      · have := hhi.1; rw [HNB.out hi] at this; cases this
    · have HNB := Lib.hid hlo
      have HHI := Lib.hid (setHighest hd)
      clear hlo hd
      go_wp2_with fail
      refine HHI.out.mono ?_
      rintro e w3 ⟨rfl, ho3, hhi⟩
      rcases hhi with ⟨hnb, _⟩ | ⟨hi, hhi, hd⟩
      · have := HNB.out.1; rw [hnb lo] at this; cases this
      · have HD := Lib.hid hd
        have HH := Lib.hid hhi
        clear hd hhi
        have HS : Hid (Same w w3) := Lib.hid (new_only4 HS1.out HI.out.2 HO2.out ho3)
        clear ho3
        go_wp2_with fail
        go_ret
        exact ⟨p3, a3, c3, lo, hi, true, rfl, HD.out, .inr ⟨HNB.out, HH.out, rfl⟩, HS.out, HS1.out.2⟩
end Go.Proofs.Ytacjkbljokjdkaa.ba
