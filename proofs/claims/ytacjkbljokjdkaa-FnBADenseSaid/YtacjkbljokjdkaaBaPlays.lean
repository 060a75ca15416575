/-
  laws.baPlays: the walk.
-/
import Derived.Test.YtacjkbljokjdkaaBaPlay
import Derived.Test.YtacjkbljokjdkaaBaSpecE
import Derived.Test.YtacjkbljokjdkaaBaAnswers
import Derived.Test.YtacjkbljokjdkaaBaSame
import Derived.Test.YtacjkbljokjdkaaGrow
import Derived.Deep.RegionHeld3
import Derived.Deep.RegionLaw
import Derived.Deep.CutBlock
namespace Go.Proofs.Ytacjkbljokjdkaa.ba
open Go.RowKit Go.Proofs.Ytacjkbljokjdkaa.base Go.Proofs.Ytacjkbljokjdkaa.heap Go.Proofs.Ytacjkbljokjdkaa.rows Go.Proofs.Ytacjkbljokjdkaa.bit Go.Proofs.Ytacjkbljokjdkaa.bs
set_option linter.unusedVariables false
/-- the operations in memory -/
def opsO : Obj := .cells #[.int .i64 3, .int .i64 3, .int .i64 3, .int .i64 3, .int .i64 4, .int .i64 4, .int .i64 5, .int .i64 5, .int .i64 9, .int .i64 10, .int .i64 14, .int .i64 15, .int .i64 6, .int .i64 3, .int .i64 5, .int .i64 4] 3
theorem ops_cell (w : World) {r : Nat} (h : r < 16) : (w.alloc opsO).cell? ⟨w.heap.size, r, none⟩ = some (.int .i64 ((opsL.getD r 0 : Nat) : Int)) := by
  refine block_cell (heap_alloc_new w opsO) ?_
  rcases (by omega : r = 0 ∨ r = 1 ∨ r = 2 ∨ r = 3 ∨ r = 4 ∨ r = 5 ∨ r = 6 ∨ r = 7 ∨ r = 8 ∨ r = 9 ∨ r = 10 ∨ r = 11 ∨ r = 12 ∨ r = 13 ∨ r = 14 ∨ r = 15) with rfl | rfl | rfl | rfl | rfl | rfl | rfl | rfl | rfl | rfl | rfl | rfl | rfl | rfl | rfl | rfl <;> rfl
/-- in the course of the first loop: steps, the array -/
structure Pl1 (w wr : World) (g q : Nat) (sa : Option Addr) (j sc : Nat) (ta : Option Addr) (K tc : Nat) (T : List Stp) : Prop where
  row : OS 27 stc 6 wr ta K tc T
  arr : wr.heap[g]? = some (.cells #[.bool true, .int .u64 (q : Int), .slice sa j sc] 29 (0, 0))
  same : Same w wr
  new : ∀ i, At ta i → g < i
  hg : w.heap.size ≤ g
theorem Pl1.step {w wr w' : World} {g q : Nat} {sa ta ta' : Option Addr} {j sc K tc tc' : Nat} {T : List Stp} (h : Pl1 w wr g q sa j sc ta K tc T) {w1 : World} (hs : Same wr w1) {t : Stp} (hG : Grew 27 6 w1 w' ta ta' 1 (K + 1) tc tc' (T.flatMap stc ++ stc t)) : Pl1 w w' g q sa j sc ta' (K + 1) tc' (T ++ [t]) := by
  have hga : g < wr.heap.size := lt_of_heap h.arr
  refine ⟨⟨?_, by rw [List.length_append, h.row.2]; rfl⟩, hG.only.obj (hs.obj h.arr id) (fun hk => by have := h.new g hk; omega), new_only (Same.trans h.same hs) hG.only (fun i hi => by have := h.new i hi; have := h.hg; omega), fun i hi => ?_, h.hg⟩
  · rw [flat_snoc]; exact hG.own
  · rcases hG.fresh i hi with h1 | h1
    · exact h.new i h1
    · have := hs.size; omega
set_option maxRecDepth 100000 in
set_option maxHeartbeats 3200000 in
theorem baPlays (q : Nat) (hq1 : 1 ≤ q) (hq2 : q ≤ 100) (k0 : Nat) (al : Bool) (S0 : List Nat) (sa : Option Addr) (j sc : Nat) (a : Option Addr) (n cap : Nat) (l : List Nat) (w : World) (h : RL uv w a n cap l) (hl64 : ∀ x ∈ l, Lt64 x) (hS : OU w sa j sc S0) (hR : InR q S0) (hD : Does [] { op := 1, k := k0, all := al } [⟨true, q, S0⟩] {}) :
    Calls Try.prog 7 #[.agg #[.int .i64 1, .int .i64 0, .int .i64 0, .int .u64 (k0 : Int), .int .i64 0, .bool al], .agg #[.bool true, .int .u64 (q : Int), .slice sa j sc], .slice a n cap] w (FV w (.bool true)) := by
  have H := Lib.hid h
  have HL := Lib.hid hl64
  have HS0 := Lib.hid hS
  have HR := Lib.hid hR
  have HDO := Lib.hid hD
  have hbd := h.bound
  clear h hl64 hS hR hD
  go_enter Try.func7, Try.ntmps7
  go_upto_block 0 with fail
  obtain ⟨s, hs⟩ : ∃ s, w.heap.size = s := ⟨_, rfl⟩
  obtain ⟨g, hg⟩ : ∃ g, s + 1 = g := ⟨_, rfl⟩
  have HP0 : Hid (∀ A W0, W0 = (((w.alloc A).alloc (.cells #[.bool true, .int .u64 (q : Int), .slice sa j sc] 29)).alloc (.cells #[.int .i64 1, .int .i64 0, .int .i64 0, .int .u64 (k0 : Int), .int .i64 0, .bool al] 27)) → Pl1 w W0 g q sa j sc (some ⟨g + 1, 0, none⟩) 1 1 [{ op := 1, k := k0, all := al }]) := Lib.hid (by
    rintro A W0 rfl
    refine ⟨⟨?_, rfl⟩, ?_, (((Only.refl _ _).alloc _).alloc _).alloc _, fun i hi => ?_, by omega⟩
    · have h1 := Own.of_block (w := (((w.alloc A).alloc (.cells #[.bool true, .int .u64 (q : Int), .slice sa j sc] 29)).alloc (.cells (stc { op := 1, k := k0, all := al }).toArray 27))) (e := 27) (size := 6) (b := g + 1) (heap_alloc_new' _ _ _ (by rw [World.size_alloc, World.size_alloc, hs, hg])) 1 1 (Nat.le_refl _) (by simp [maxLen]) rfl (by intro u hu; exact stc_one _ u (List.mem_of_mem_take hu))
      exact h1
    · exact ((Only.refl (fun _ => False) _).alloc _).obj (heap_alloc_new' _ _ _ (by rw [World.size_alloc, hs, hg])) id
    · have : g + 1 = i := hi
      omega)
  rw [hs]
  try simp only [hg]
  clear hs hg
  go_cut [7] (fun s7 wx => ∃ (k : Nat) (ta : Option Addr) (tc : Nat), k ≤ n ∧ k ≤ 60 ∧ s7 = .slice ta (k + 1) tc ∧ Hid (Pl1 w wx g q sa j sc ta (k + 1) tc ({ op := 1, k := k0, all := al } :: (l.take k).map (mv q))))
  case first =>
    go_wp2_with fail
    go_loopw [7, 8] (fun s7 i wr => ∃ (k : Nat) (ta : Option Addr) (tc : Nat), k ≤ n ∧ k ≤ 60 ∧ i = .int .i64 (k : Int) ∧ s7 = .slice ta (k + 1) tc ∧ Hid (Pl1 w wr g q sa j sc ta (k + 1) tc ({ op := 1, k := k0, all := al } :: (l.take k).map (mv q)))) (fun _ i _ => n - (intOf i).toNat)
    case atStart => exact ⟨0, _, 1, Nat.zero_le _, Nat.zero_le _, rfl, rfl, Lib.hid (HP0.out _ _ rfl)⟩
    case round =>
      clear HP0
      obtain ⟨k, ta, tc, hk, hk60, rfl, rfl, HI⟩ := hrel
      have HMEET : Hid (∃ (k' : Nat) (ta' : Option Addr) (tc' : Nat), k' ≤ n ∧ k' ≤ 60 ∧ (Value.slice ta (k + 1) tc) = .slice ta' (k' + 1) tc' ∧ Hid (Pl1 w wr g q sa j sc ta' (k' + 1) tc' ({ op := 1, k := k0, all := al } :: (l.take k').map (mv q)))) := Lib.hid ⟨k, ta, tc, hk, hk60, rfl, HI⟩
      by_cases hlt : k < n
      · have hlt' : (k : Int) < (n : Int) := by omega
        by_cases hl60 : k < 60
        · have hl60' : (k : Int) < 60 := by omega
          clear HMEET
          have hk0 : (0 : Int) ≤ (k : Int) := by omega
          obtain ⟨b1, o1, ha1, hb1, hc1⟩ := (H.out.still HI.out.same).at (by omega)
          obtain ⟨x, hx⟩ := H.out.get hlt
          have c1 := hc1 k x hx
          have hxl := HL.out x (List.mem_of_getElem? hx)
          have HX := Lib.hid hx
          obtain ⟨r, HRR⟩ : ∃ r, Hid (x % 16 = r) := ⟨_, Lib.hid rfl⟩
          obtain ⟨y, HY⟩ : ∃ y, Hid (x / 16 = y) := ⟨_, Lib.hid rfl⟩
          obtain ⟨M, HM⟩ : ∃ M, Hid (64 * q + 5 = M) := ⟨_, Lib.hid rfl⟩
          obtain ⟨z, HZ⟩ : ∃ z, Hid (y % M = z) := ⟨_, Lib.hid rfl⟩
          have hr16 : r < 16 := by have := HRR.out; omega
          obtain ⟨o, HO⟩ : ∃ o, Hid (opsL.getD r 0 = o) := ⟨_, Lib.hid rfl⟩
          have z1 : (x : Int) / 16 = (y : Int) := by have := HY.out; omega
          have z2 : IntKind.u64.wrap (y : Int) = (y : Int) := by have := HY.out; unfold Lt64 at hxl; rw [IntKind.wrap_u64]; omega
          have z3 : (x : Int) % 16 = (r : Int) := by have := HRR.out; omega
          have z4 : IntKind.u64.wrap (64 * (q : Int)) = 64 * (q : Int) := by rw [IntKind.wrap_u64]; omega
          have z5 : IntKind.u64.wrap (64 * (q : Int) + 5) = (M : Int) := by have := HM.out; rw [IntKind.wrap_u64]; omega
          have z6 : (y : Int) % (M : Int) = (z : Int) := by rw [← HZ.out]; simp
          have z7 : ((M : Int) == 0) = false := by have := HM.out; rw [beq_eq_false_iff_ne]; omega
          have z8 : ¬ (M : Int) = 0 := by have := HM.out; omega
          have z9 : (0 : Int) ≤ (r : Int) := by omega
          have z10 : (r : Int) < 16 := by omega
          have HOP := Lib.hid (ops_cell wr hr16)
          rw [HO.out] at HOP
          have hge := lt_of_heap HI.out.arr
          have hSA : Same wr (wr.alloc opsO) := (Only.refl _ _).alloc _
          have d1 : (wr.alloc opsO).cell? ⟨b1, o1 + k, none⟩ = some (.int .u64 (x : Int)) := (hSA.cell (p := ⟨b1, o1 + k, none⟩) hb1 id).trans c1
          have d2 : (wr.alloc opsO).cell? ⟨g, 0, none⟩ = some (.bool true) := block_cell (hSA.obj HI.out.arr id) rfl
          have d3 : (wr.alloc opsO).cell? ⟨g, 1, none⟩ = some (.int .u64 (q : Int)) := block_cell (hSA.obj HI.out.arr id) rfl
          have d4 := HOP.out
          have bb := HI.out.row.bound
          have HTN : Hid ({ op := 1, k := k0, all := al } :: (l.take (k + 1)).map (mv q) = ({ op := 1, k := k0, all := al } :: (l.take k).map (mv q)) ++ [{ op := o, k := z }]) := Lib.hid (by
            rw [take_snoc l k x HX.out, List.map_append]
            have e : mv q x = { op := o, k := z } := by
              unfold mv
              rw [HRR.out, HY.out, HM.out, HZ.out, HO.out]
            rw [← e]; rfl)
          obtain ⟨PT0, HPT0⟩ : ∃ PT0, Hid ({ op := 1, k := k0, all := al } :: (l.take k).map (mv q) = PT0) := ⟨_, Lib.hid rfl⟩
          rw [HPT0.out] at HI HTN
          unfold opsO at d1 d2 d3 d4
          clear hx hc1 hSA hxl hb1 hge c1
          subst ha1
          go_wp2_with (at_builtin; refine wpList_append (k + 1 + 1) (PT0.flatMap stc ++ stc { op := o, k := z }) rfl _ _ _ _ rfl slStp rfl (HI.out.row.1.keep (S := fun _ => False) (by repeat (first | exact Only.refl _ _ | apply Only.alloc | apply Only.drew)) (fun _ _ => id)) rfl (Src.row (size := 6) (cs := (stc { op := o, k := z }).toArray) (t := 27) (fr := (0, 0)) Try.underlying41 (by exact heap_alloc_new' _ _ _ (by rw [World.size_alloc])) 1 1 rfl (by intro u hu; exact stc_one _ u (by simpa using hu))) rfl (by simp) (by unfold maxLen; omega) (by omega) ?_)
          intro ta2 tc2 w2 hG
          have HN2 : Hid (Pl1 w w2 g q sa j sc ta2 (k + 1 + 1) tc2 ({ op := 1, k := k0, all := al } :: (l.take (k + 1)).map (mv q))) := Lib.hid (by
            rw [HTN.out]
            exact HI.out.step (((Only.refl _ _).alloc _).alloc _) hG)
          clear hG
          go_wp2_with fail
          go_roundw
          case rel =>
            exact ⟨k + 1, ta2, tc2, by omega, by omega, by go_num, rfl, HN2⟩
          case measure => simp [intOf]; omega
        · have hl60' : ¬ (k : Int) < 60 := by omega
          go_wp2_with fail
          go_meet
          exact HMEET.out
      · have hlt' : ¬ (k : Int) < (n : Int) := by omega
        go_wp2_with fail
        go_meet
        exact HMEET.out
  case rest =>
    obtain ⟨k, ta, tc, hk, hk60, rfl, HI⟩ := hcut
    clear HP0
    obtain ⟨W1, hW1⟩ : ∃ W1, wc = W1 := ⟨_, rfl⟩
    rw [hW1] at HI ⊢
    clear hW1
    obtain ⟨T, HT⟩ : ∃ T, Hid ((l.take k).map (mv q) = T) := ⟨_, Lib.hid rfl⟩
    rw [HT.out] at HI
    obtain ⟨N, hN⟩ : ∃ N, k + 1 = N := ⟨_, rfl⟩
    rw [hN] at HI ⊢
    have hN2 : 1 ≤ N ∧ N ≤ 61 := by omega
    have HTL : Hid (T.length + 1 = N ∧ OkT T) := Lib.hid (by
      rw [← HT.out]
      refine ⟨by rw [List.length_map, List.length_take, H.out.2]; omega, fun t ht => ?_⟩
      obtain ⟨x, hx, rfl⟩ := List.mem_map.1 ht
      refine ⟨ops_ok (Nat.mod_lt _ (by omega)), ?_, rfl⟩
      have := Nat.mod_lt (x / 16) (show 0 < 64 * q + 5 by omega)
      show Lt64 (x / 16 % (64 * q + 5))
      unfold Lt64; omega)
    obtain ⟨PT, HPT⟩ : ∃ PT : List Stp, Hid ({ op := 1, k := k0, all := al } :: T = PT) := ⟨_, Lib.hid rfl⟩
    rw [HPT.out] at HI
    have bb := HI.out.row.bound
    have HRUN : Hid (Runs [] (PT ++ [{ op := 14 }]) (({} :: says q S0 T) ++ [{ nums := plays q S0 T }])) := Lib.hid (by
      have hg : Goes [] PT ({} :: says q S0 T) [⟨true, q, plays q S0 T⟩] := by
        rw [← HPT.out]
        exact ⟨by simp, _, _, _, HDO.out, rfl, goes_plays T S0 HTL.out.2⟩
      exact hg.runs ⟨by simp, _, _, _, does_numsK (i := 0) rfl rfl 0, rfl, rfl⟩)
    have HYL : Hid ((({} :: says q S0 T) ++ [({ nums := plays q S0 T } : Ans)]).length = N + 1 ∧ ({} :: says q S0 T).length = N) := Lib.hid (by
      have := HTL.out.1
      constructor
      · rw [List.length_append]; simp [says_len]; omega
      · simp [says_len]; omega)
    clear HT hk hk60 hN HDO
    go_wp2_with (at_builtin; refine wpList_append_old (N + 1) (PT.flatMap stc ++ stc { op := 14 }) rfl _ _ _ _ rfl slStp rfl (HI.out.row.1.keep (S := fun _ => False) (by repeat (first | exact Only.refl _ _ | apply Only.alloc | apply Only.drew)) (fun _ _ => id)) rfl (Src.row (size := 6) (cs := (stc { op := 14 }).toArray) (t := 27) (fr := (0, 0)) Try.underlying41 (by exact heap_alloc_new _ _) 1 1 rfl (by intro u hu; exact stc_one _ u (by simpa using hu))) rfl (by simp) (by unfold maxLen; omega) (by omega) ?_)
    intro tz tzc w5 hG5 hR5
    have HW5 : Hid (Same w w5 ∧ w5.heap[g]? = some (.cells #[.bool true, .int .u64 (q : Int), .slice sa j sc] 29 (0, 0)) ∧ RS stc 6 w5 tz (N + 1) tzc (PT ++ [{ op := 14 }]) ∧ RS stc 6 w5 ta N tc PT ∧ (∀ i, At ta i → g < i) ∧ g < w5.heap.size ∧ w.heap.size ≤ g) := Lib.hid (by
      have hst := HI.out.step ((Only.refl _ _).alloc _) hG5
      exact ⟨hst.same, hst.arr, hst.row.rs, ⟨hR5, HI.out.row.2⟩, HI.out.new, lt_of_heap hst.arr, HI.out.hg⟩)
    have HANS := Lib.hid (baAnswers tz (N + 1) tzc _ _ w5 HW5.out.2.2.1 (by omega) HRUN.out)
    clear hG5 hR5 HRUN HI bb
    go_wp2_with (go_at_call 14; refine HANS.out.mono ?_)
    rintro e w6 ⟨oa, oc, As, rfl, hRS, hAs, hIts, hoa, hS6⟩
    have HR6 : Hid (RS anc 4 w6 oa (N + 1) oc As ∧ As.map (·.an) = ({} :: says q S0 T) ++ [({ nums := plays q S0 T } : Ans)] ∧ (∀ x ∈ As, Own 24 1 w6 x.na x.an.nums.length x.nc (U x.an.nums) ∧ ∀ j, At x.na j → g < j) ∧ (∀ j, At oa j → g < j) ∧ w6.heap[g]? = some (.cells #[.bool true, .int .u64 (q : Int), .slice sa j sc] 29 (0, 0)) ∧ RS stc 6 w6 ta N tc PT ∧ (∀ i, At ta i → g < i) ∧ Same w w6 ∧ w.heap.size ≤ g) := Lib.hid (by
      have hgs := HW5.out.2.2.2.2.2.1
      rw [HYL.out.1] at hRS
      exact ⟨hRS, hAs, fun x hx => ⟨(hIts x hx).1, fun j hj => by have := (hIts x hx).2 j hj; omega⟩, fun j hj => by have := hoa j hj; omega, hS6.obj HW5.out.2.1 id, HW5.out.2.2.2.1.still hS6, HW5.out.2.2.2.2.1, Same.trans HW5.out.1 hS6, HW5.out.2.2.2.2.2.2⟩)
    rw [HYL.out.1]
    clear hRS hAs hIts hoa hS6 HANS HW5
    have hN3 : (((N + 1 : Nat) : Int) == 0) = false := by rw [beq_eq_false_iff_ne]; omega
    obtain ⟨N1, hN1⟩ : ∃ N1, N + 1 = N1 := ⟨_, rfl⟩
    have HN1 := Lib.hid hN1
    rw [hN1] at HR6 hN3 HYL ⊢
    clear hN1
    go_wp2_with fail
    go_loopw [12] (fun i wr => ∃ (m i' : Nat) (sa' : Option Addr) (j' sc' : Nat), i' ≤ N ∧ 1 ≤ i' ∧ Hid (m + 1 = i') ∧ i = .int .i64 (i' : Int) ∧ Hid (wr.heap[g]? = some (.cells #[.bool true, .int .u64 (q : Int), .slice sa' j' sc'] 29 (0, 0)) ∧ OU wr sa' j' sc' (plays q S0 (T.take m)) ∧ (∀ k, At sa' k → k ≠ g) ∧ Only (fun k => k = g) w6 wr)) (fun i _ => N - (intOf i).toNat)
    case atStart =>
      refine ⟨0, 1, sa, j, sc, hN2.1, Nat.le_refl _, Lib.hid rfl, rfl, Lib.hid ⟨HR6.out.2.2.2.2.1, ?_, ?_, Only.refl _ _⟩⟩
      · exact HS0.out.still HR6.out.2.2.2.2.2.2.2.1
      · exact fun k hk => by have := HS0.out.1.lt k hk; have := HR6.out.2.2.2.2.2.2.2.2; omega
    case round =>
      obtain ⟨m, i', sa', j', sc', hi1, hi2, HM, rfl, HI⟩ := hrel
      have hi0 : (0 : Int) ≤ (i' : Int) := by omega
      by_cases hlt : i' < N
      · have hlt' : (i' : Int) < (N : Int) := by omega
        have hlt1 : (i' : Int) < (N1 : Int) := by have := HN1.out; omega
        obtain ⟨t, ht⟩ : ∃ t, T[m]? = some t := ⟨T[m]'(by have := HTL.out.1; have := HM.out; omega), List.getElem?_eq_getElem _⟩
        obtain ⟨hop, hkl, hte⟩ := HTL.out.2 t (List.mem_of_getElem? ht)
        have hpt : PT[i']? = some t := by rw [← HPT.out, ← HM.out]; simpa using ht
        obtain ⟨o, hoo⟩ : ∃ o, t.op = o := ⟨_, rfl⟩
        obtain ⟨kk, hkk⟩ : ∃ kk, t.k = kk := ⟨_, rfl⟩
        have hst := (HR6.out.2.2.2.2.2.1.keep HI.out.2.2.2 (fun k hk e => by have := HR6.out.2.2.2.2.2.2.1 k hk; omega))
        obtain ⟨sb, so, hsa, hsb, hsc⟩ := hst.at stc_len (by omega)
        have s0 := hsc i' t hpt 0 _ rfl
        have s1 := hsc i' t hpt 1 _ rfl
        have s2 := hsc i' t hpt 2 _ rfl
        have s3 := hsc i' t hpt 3 _ rfl
        have s4 := hsc i' t hpt 4 _ rfl
        have s5 := hsc i' t hpt 5 _ rfl
        have hSG := says_get (q := q) T S0 m t ht
        have hPS := plays_snoc (q := q) (S := S0) ht
        obtain ⟨S, hS⟩ : ∃ S, plays q S0 (T.take m) = S := ⟨_, rfl⟩
        have hRS : InR q S := by rw [← hS]; exact plays_in _ HR.out
        rw [hS] at hSG hPS HI
        rw [hoo, hkk] at hSG hPS
        rw [hoo] at hop
        rw [hkk] at hkl
        obtain ⟨x0, hx0, hxa⟩ : ∃ x0, As[i']? = some x0 ∧ x0.an = say q S o kk := by
          have h1 : (As.map (·.an))[i']? = some (say q S o kk) := by
            rw [HR6.out.2.1, List.getElem?_append_left (by have := HYL.out.2; omega), ← HM.out]
            simpa using hSG
          rw [List.getElem?_map] at h1
          cases hx : As[i']? with
          | none => rw [hx] at h1; cases h1
          | some x => rw [hx] at h1; exact ⟨x, rfl, by simpa using h1⟩
        have han := (HR6.out.1.keep HI.out.2.2.2 (fun k hk e => by have := HR6.out.2.2.2.1 k hk; omega))
        obtain ⟨ob, oo, hoa, hob, hoc⟩ := han.at anc_len (by omega)
        have a0 := hoc i' x0 hx0 0 _ rfl
        have a1 := hoc i' x0 hx0 1 _ rfl
        have a2 := hoc i' x0 hx0 2 _ rfl
        have a3 := hoc i' x0 hx0 3 _ rfl
        rw [hxa] at a0 a1 a2
        rw [hte] at s0 s1 s2 s3 s4 s5
        simp only [hoo, hkk] at s0 s3
        have s0' : wr.cell? ⟨sb, so + i' * 6, none⟩ = some (.int .i64 (o : Int)) := s0
        have s1' : wr.cell? ⟨sb, so + i' * 6 + 1, none⟩ = some (.int .i64 0) := s1
        have s2' : wr.cell? ⟨sb, so + i' * 6 + 2, none⟩ = some (.int .i64 0) := s2
        have s4' : wr.cell? ⟨sb, so + i' * 6 + 4, none⟩ = some (.int .i64 0) := s4
        have s5' : wr.cell? ⟨sb, so + i' * 6 + 5, none⟩ = some (.bool false) := s5
        obtain ⟨yv, hyv⟩ : ∃ y, (say q S o kk).yes = y := ⟨_, rfl⟩
        obtain ⟨nv, hnv⟩ : ∃ y, (say q S o kk).n = y := ⟨_, rfl⟩
        obtain ⟨nl, hnl⟩ : ∃ y, (say q S o kk).nums.length = y := ⟨_, rfl⟩
        obtain ⟨na, hna⟩ : ∃ y, x0.na = y := ⟨_, rfl⟩
        obtain ⟨nc, hnc⟩ : ∃ y, x0.nc = y := ⟨_, rfl⟩
        have HNUM : Hid (Own 24 1 wr na nl nc (U (say q S o kk).nums)) := Lib.hid (by
          have h1 := HR6.out.2.2.1 x0 (List.mem_of_getElem? hx0)
          have h2 := h1.1.keep HI.out.2.2.2 (fun k hk e => by have := h1.2 k hk; omega)
          rw [hxa, hna, hnc, hnl] at h2
          exact h2)
        rw [hyv] at a0
        rw [hnv] at a1
        rw [hna, hnc, hnl] at a2
        have a0' : wr.cell? ⟨ob, oo + i' * 4, none⟩ = some (.bool yv) := a0
        have HSAY : Hid ((say q S o kk).yes = yv ∧ (say q S o kk).n = nv ∧ (say q S o kk).nums.length = nl) := Lib.hid ⟨hyv, hnv, hnl⟩
        have HPS := Lib.hid hPS
        have HOP := Lib.hid hop
        have HRS := Lib.hid hRS
        subst hsa
        subst hoa
        clear hst hsc han hoc hSG hPS hte hpt ht hoo hkk hx0 hxa s0 s1 s2 s4 s5 a0 hyv hnv hnl hna hnc hS hop hRS hkl
        go_upto_region 16 with fail
        go_cut [13, 14] (fun s13 s14 wx => ∃ p13 p14 : Nat, s13 = .pointer (some ⟨p13, 0, none⟩) ∧ s14 = .pointer (some ⟨p14, 0, none⟩) ∧ Hid (Same wr wx ∧ wx.heap[p13]? = some (.cells #[.int .i64 (o : Int), .int .i64 0, .int .i64 0, .int .u64 (kk : Int), .int .i64 0, .bool false] 27 (0, 0)) ∧ wx.heap[p14]? = some (.cells #[.bool yv, .int .u64 (nv : Int), .slice na nl nc, .bool false] 46 (0, 0))))
        case first =>
          go_region
          all_goals
            go_wp2_with fail
            go_meet
            first
              | exact ⟨_, _, rfl, rfl, Lib.hid ⟨(((Only.refl _ _).alloc _).alloc _).drew, heap2_a _ _ _, heap2_b _ _ _⟩⟩
              | exact ⟨_, _, rfl, rfl, Lib.hid ⟨(((Only.refl _ _).alloc _).alloc _).drew, heap2_b _ _ _, heap2_a _ _ _⟩⟩
        case rest =>
          obtain ⟨p13, p14, rfl, rfl, HC⟩ := hcut
          obtain ⟨W2, hW2⟩ : ∃ W2, wc = W2 := ⟨_, rfl⟩
          rw [hW2] at HC ⊢
          have t0 : W2.cell? ⟨p13, 0, none⟩ = some (.int .i64 (o : Int)) := block_cell HC.out.2.1 rfl
          have t3 : W2.cell? ⟨p13, 3, none⟩ = some (.int .u64 (kk : Int)) := block_cell HC.out.2.1 rfl
          have y0 : W2.cell? ⟨p14, 0, none⟩ = some (.bool yv) := block_cell HC.out.2.2 rfl
          have y1 : W2.cell? ⟨p14, 1, none⟩ = some (.int .u64 (nv : Int)) := block_cell HC.out.2.2 rfl
          have y2 : W2.cell? ⟨p14, 2, none⟩ = some (.slice na nl nc) := block_cell HC.out.2.2 rfl
          have HI2 : Hid (W2.heap[g]? = some (.cells #[.bool true, .int .u64 (q : Int), .slice sa' j' sc'] 29 (0, 0)) ∧ OU W2 sa' j' sc' S ∧ (∀ k, At sa' k → k ≠ g) ∧ Only (fun k => k = g) w6 W2 ∧ Own 24 1 W2 na nl nc (U (say q S o kk).nums)) := Lib.hid ⟨HC.out.1.obj HI.out.1 id, HI.out.2.1.still HC.out.1, HI.out.2.2.1, HI.out.2.2.2.trans HC.out.1 (fun _ _ f => f.elim), HNUM.out.keep HC.out.1 (fun _ _ => id)⟩
          have g0 : W2.cell? ⟨g, 0, none⟩ = some (.bool true) := block_cell HI2.out.1 rfl
          have g1 : W2.cell? ⟨g, 1, none⟩ = some (.int .u64 (q : Int)) := block_cell HI2.out.1 rfl
          have g2 : W2.cell? ⟨g, 2, none⟩ = some (.slice sa' j' sc') := block_cell HI2.out.1 rfl
          have fg : W2.frozen? ⟨g, 2, none⟩ = false := block_free HI2.out.1
          have hj' : j' ≤ 64 * q := by rw [← HI2.out.2.1.2]; exact asc_len HRS.out.1 HRS.out.2
          have HNX : Hid (∀ (sa2 : Option Addr) (j2 sc2 : Nat) (w' : World), w'.heap[g]? = some (.cells #[.bool true, .int .u64 (q : Int), .slice sa2 j2 sc2] 29 (0, 0)) → OU w' sa2 j2 sc2 (play q S o kk) → (∀ k, At sa2 k → k ≠ g) → Only (fun k => k = g) w6 w' → ∃ (m i'' : Nat) (sa' : Option Addr) (j' sc' : Nat), i'' ≤ N ∧ 1 ≤ i'' ∧ Hid (m + 1 = i'') ∧ (Value.int .i64 ((i' : Int) + 1)) = .int .i64 (i'' : Int) ∧ Hid (w'.heap[g]? = some (.cells #[.bool true, .int .u64 (q : Int), .slice sa' j' sc'] 29 (0, 0)) ∧ OU w' sa' j' sc' (plays q S0 (T.take m)) ∧ (∀ k, At sa' k → k ≠ g) ∧ Only (fun k => k = g) w6 w')) := Lib.hid (fun sa2 j2 sc2 w' h1 h2 h3 h4 =>
            ⟨m + 1, i' + 1, sa2, j2, sc2, by omega, by omega, Lib.hid (by have := HM.out; omega), by go_num, Lib.hid ⟨h1, by rw [HPS.out]; exact h2, h3, h4⟩⟩)
          have HST : Hid (∀ (w3 : World) (sa2 : Option Addr) (j2 sc2 : Nat), Same W2 w3 → OU w3 sa2 j2 sc2 (play q S o kk) → (∀ k, At sa2 k → At sa' k ∨ W2.heap.size ≤ k) → (w3.setCell ⟨g, 2, none⟩ (.slice sa2 j2 sc2)).heap[g]? = some (.cells #[.bool true, .int .u64 (q : Int), .slice sa2 j2 sc2] 29 (0, 0)) ∧ OU (w3.setCell ⟨g, 2, none⟩ (.slice sa2 j2 sc2)) sa2 j2 sc2 (play q S o kk) ∧ (∀ k, At sa2 k → k ≠ g) ∧ Only (fun k => k = g) w6 (w3.setCell ⟨g, 2, none⟩ (.slice sa2 j2 sc2))) := Lib.hid (fun w3 sa2 j2 sc2 h1 h2 h3 => by
            have hng : ∀ k, At sa2 k → k ≠ g := fun k hk => by
              rcases h3 k hk with h | h
              · exact HI2.out.2.2.1 k h
              · have := lt_of_heap HI2.out.1; omega
            have hoP : Only (fun k => k = g) w3 (w3.setCell ⟨g, 2, none⟩ (.slice sa2 j2 sc2)) := (Only.refl _ _).setCell _ _ (fun _ => rfl)
            exact ⟨setCell_heap (h1.obj HI2.out.1 id) 2 _, ⟨h2.1.keep hoP (fun k hk e => hng k hk e), h2.2⟩, hng, (HI2.out.2.2.2.1.trans h1 (fun _ _ f => f.elim)).trans hoP (fun _ _ h => h)⟩)
          have z4 : IntKind.u64.wrap (64 * (q : Int)) = 64 * (q : Int) := by rw [IntKind.wrap_u64]; omega
          have hN60 : N ≤ 61 := hN2.2
          clear hW2 s0' s1' s2' s3 s4' s5' a0' a1 a2 a3 HNUM hN2
          have hsay := HSAY.out
          have hop := HOP.out
          unfold OkOp at hop
          clear HOP HSAY
          rcases hop with rfl | rfl | rfl | rfl | rfl | rfl | rfl | rfl
          · by_cases hkq : kk < 64 * q
            · have t0' : W2.cell? ⟨p13, 0, none⟩ = some (.int .i64 3) := t0
              clear t0
              have hsy : say q S 3 kk = { yes := true } := by unfold say; rw [if_pos rfl, if_pos hkq]
              rw [hsy] at hsay
              have e1 : true = yv := hsay.1
              have HPL : Hid (play q S 3 kk = put S kk) := Lib.hid (by unfold play; rw [if_pos rfl, if_pos hkq])
              clear hsay hsy
              have hge : ¬ (64 * (q : Int)) ≤ (kk : Int) := by omega
              subst e1
              have HPUT : Hid (Calls Try.prog 15 #[.slice sa' j' sc', .int .u64 (kk : Int)] W2 (PutP (put S kk) sa' W2)) := Lib.hid (baPut HI2.out.2.1 HRS.out.1 kk (by omega))
              clear hkq
              go_wp2_with (go_at_call 15; refine HPUT.out.mono ?_)
              rintro e w3 ⟨sa2, sc2, rfl, hO3, hS3, hf3⟩
              have HZ := Lib.hid (HST.out w3 sa2 (put S kk).length sc2 hS3 (by rw [HPL.out]; exact hO3) hf3)
              have g3 : w3.cell? ⟨g, 2, none⟩ = some (.slice sa' j' sc') := block_cell (hS3.obj HI2.out.1 id) rfl
              have fg3 : w3.frozen? ⟨g, 2, none⟩ = false := block_free (hS3.obj HI2.out.1 id)
              generalize (put S kk).length = j2 at *
              clear hO3 hS3 hf3 HPUT
              go_wp2_with fail
              go_roundw
              case rel => exact HNX.out _ _ _ _ HZ.out.1 HZ.out.2.1 HZ.out.2.2.1 HZ.out.2.2.2
              case measure => simp [intOf]; omega
            · have t0' : W2.cell? ⟨p13, 0, none⟩ = some (.int .i64 3) := t0
              clear t0
              have hsy : say q S 3 kk = {} := by unfold say; rw [if_pos rfl, if_neg hkq]
              rw [hsy] at hsay
              have e1 : false = yv := hsay.1
              have HPL : Hid (play q S 3 kk = S) := Lib.hid (by unfold play; rw [if_pos rfl, if_neg hkq])
              clear hsay hsy
              have hge : (64 * (q : Int)) ≤ (kk : Int) := by omega
              subst e1
              clear hkq
              go_wp2_with fail
              go_roundw
              case rel => exact HNX.out _ _ _ _ HI2.out.1 (by rw [HPL.out]; exact HI2.out.2.1) HI2.out.2.2.1 HI2.out.2.2.2.1
              case measure => simp [intOf]; omega
          · by_cases hkq : kk < 64 * q
            · have t0' : W2.cell? ⟨p13, 0, none⟩ = some (.int .i64 4) := t0
              clear t0
              have hsy : say q S 4 kk = { yes := true } := by unfold say; rw [if_neg (by decide), if_pos rfl, if_pos hkq]
              rw [hsy] at hsay
              have e1 : true = yv := hsay.1
              have HPL : Hid (play q S 4 kk = drp S kk) := Lib.hid (by unfold play; rw [if_neg (by decide), if_pos rfl, if_pos hkq])
              clear hsay hsy
              have hge : ¬ (64 * (q : Int)) ≤ (kk : Int) := by omega
              subst e1
              have HPL2 := HPL
              have HPUT : Hid (Calls Try.prog 16 #[.slice sa' j' sc', .int .u64 (kk : Int)] W2 (PutP (drp S kk) sa' W2)) := Lib.hid (baDrop HI2.out.2.1 HRS.out.1 kk (by omega))
              clear hkq
              go_wp2_with (go_at_call 16; refine HPUT.out.mono ?_)
              rintro e w3 ⟨sa2, sc2, rfl, hO3, hS3, hf3⟩
              have HZ := Lib.hid (HST.out w3 sa2 (drp S kk).length sc2 hS3 (by rw [HPL2.out]; exact hO3) hf3)
              have g3 : w3.cell? ⟨g, 2, none⟩ = some (.slice sa' j' sc') := block_cell (hS3.obj HI2.out.1 id) rfl
              have fg3 : w3.frozen? ⟨g, 2, none⟩ = false := block_free (hS3.obj HI2.out.1 id)
              generalize (drp S kk).length = j2 at *
              clear hO3 hS3 hf3 HPUT
              go_wp2_with fail
              go_roundw
              case rel => exact HNX.out _ _ _ _ HZ.out.1 HZ.out.2.1 HZ.out.2.2.1 HZ.out.2.2.2
              case measure => simp [intOf]; omega
            · have t0' : W2.cell? ⟨p13, 0, none⟩ = some (.int .i64 4) := t0
              clear t0
              have hsy : say q S 4 kk = {} := by unfold say; rw [if_neg (by decide), if_pos rfl, if_neg hkq]
              rw [hsy] at hsay
              have e1 : false = yv := hsay.1
              have HPL : Hid (play q S 4 kk = S) := Lib.hid (by unfold play; rw [if_neg (by decide), if_pos rfl, if_neg hkq])
              clear hsay hsy
              have hge : (64 * (q : Int)) ≤ (kk : Int) := by omega
              subst e1
              have HPL2 : Hid (play q S 4 kk = drp S kk) := Lib.hid (by rw [HPL.out, drp_no HRS.out hkq])
              have HPUT : Hid (Calls Try.prog 16 #[.slice sa' j' sc', .int .u64 (kk : Int)] W2 (PutP (drp S kk) sa' W2)) := Lib.hid (baDrop HI2.out.2.1 HRS.out.1 kk (by omega))
              clear hkq
              go_wp2_with (go_at_call 16; refine HPUT.out.mono ?_)
              rintro e w3 ⟨sa2, sc2, rfl, hO3, hS3, hf3⟩
              have HZ := Lib.hid (HST.out w3 sa2 (drp S kk).length sc2 hS3 (by rw [HPL2.out]; exact hO3) hf3)
              have g3 : w3.cell? ⟨g, 2, none⟩ = some (.slice sa' j' sc') := block_cell (hS3.obj HI2.out.1 id) rfl
              have fg3 : w3.frozen? ⟨g, 2, none⟩ = false := block_free (hS3.obj HI2.out.1 id)
              generalize (drp S kk).length = j2 at *
              clear hO3 hS3 hf3 HPUT
              go_wp2_with fail
              go_roundw
              case rel => exact HNX.out _ _ _ _ HZ.out.1 HZ.out.2.1 HZ.out.2.2.1 HZ.out.2.2.2
              case measure => simp [intOf]; omega
          · by_cases hkq : kk < 64 * q
            · have t0' : W2.cell? ⟨p13, 0, none⟩ = some (.int .i64 5) := t0
              clear t0
              have hsy : say q S 5 kk = { yes := true, n := if kk ∈ S then 1 else 0 } := by unfold say; rw [if_neg (by decide), if_neg (by decide), if_pos rfl, if_pos hkq]
              rw [hsy] at hsay
              have e1 : true = yv := hsay.1
              have e2 : (if kk ∈ S then 1 else 0) = nv := hsay.2.1
              have HPL : Hid (play q S 5 kk = S) := Lib.hid (by unfold play; rw [if_neg (by decide), if_neg (by decide), if_neg (by decide)])
              clear hsay hsy
              have hge : ¬ (64 * (q : Int)) ≤ (kk : Int) := by omega
              subst e1
              have HB : Hid (∀ wx, Same W2 wx → Calls Try.prog 17 #[.slice sa' j' sc', .int .u64 (kk : Int)] wx (fun e w' => e = .returned (.bool ((nv : Int) == 1)) ∧ Same W2 w')) := Lib.hid (fun wx hS => by
                refine (baHas (HI2.out.2.1.still hS).rl HRS.out.1 kk).mono ?_
                rintro e w' ⟨h1, h2⟩
                refine ⟨?_, Same.trans hS h2⟩
                rw [h1, ← e2]
                by_cases hm : kk ∈ S <;> simp [hm])
              have HK : Hid (∀ w', Same W2 w' → w'.cell? ⟨p14, 0, none⟩ = some (.bool true) ∧ w'.cell? ⟨p14, 1, none⟩ = some (.int .u64 (nv : Int)) ∧ w'.cell? ⟨g, 2, none⟩ = some (.slice sa' j' sc') ∧ w'.cell? ⟨p13, 3, none⟩ = some (.int .u64 (kk : Int))) := Lib.hid (fun wx hS => ⟨block_cell (hS.obj HC.out.2.2 id) rfl, block_cell (hS.obj HC.out.2.2 id) rfl, block_cell (hS.obj HI2.out.1 id) rfl, block_cell (hS.obj HC.out.2.1 id) rfl⟩)
              clear e2 hkq
              go_wp2_with fail
              go_region_held3 (fun w' => w'.cell? ⟨p14, 0, none⟩ = some (.bool true) ∧ w'.cell? ⟨p14, 1, none⟩ = some (.int .u64 (nv : Int)) ∧ w'.cell? ⟨g, 2, none⟩ = some (.slice sa' j' sc') ∧ w'.cell? ⟨p13, 3, none⟩ = some (.int .u64 (kk : Int))) (first | exact HK.out _ (Only.drew (Only.refl _ _)) | exact HK.out _ (by assumption)) (first
                | ((go_at_call 17; (with_reducible refine (HB.out _ (by exact (Only.refl _ W2).drew)).mono ?_); rintro e W3 ⟨rfl, hS3⟩)))
              all_goals
                have HS3 := Lib.hid hS3
                clear hS3
                go_wp2_with fail
                go_roundw
                case rel => exact HNX.out _ _ _ _ (HS3.out.obj HI2.out.1 id) (by rw [HPL.out]; exact HI2.out.2.1.still HS3.out) HI2.out.2.2.1 (HI2.out.2.2.2.1.trans HS3.out (fun _ _ f => f.elim))
                case measure => simp [intOf]; omega
            · have t0' : W2.cell? ⟨p13, 0, none⟩ = some (.int .i64 5) := t0
              clear t0
              have hsy : say q S 5 kk = {} := by unfold say; rw [if_neg (by decide), if_neg (by decide), if_pos rfl, if_neg hkq]
              rw [hsy] at hsay
              have e1 : false = yv := hsay.1
              have HPL : Hid (play q S 5 kk = S) := Lib.hid (by unfold play; rw [if_neg (by decide), if_neg (by decide), if_neg (by decide)])
              clear hsay hsy
              have hge : (64 * (q : Int)) ≤ (kk : Int) := by omega
              subst e1
              clear hkq
              go_wp2_with fail
              go_quiet (fail)
              obtain ⟨W3, hW3⟩ : ∃ W3, W3 = W2.drewN nq := ⟨_, rfl⟩
              rw [← hW3]
              have HS3 : Hid (Same W2 W3) := Lib.hid (by rw [hW3]; exact (Only.refl _ _).drewN _)
              clear hW3
              go_wp2_with fail
              go_roundw
              case rel => exact HNX.out _ _ _ _ (HS3.out.obj HI2.out.1 id) (by rw [HPL.out]; exact HI2.out.2.1.still HS3.out) HI2.out.2.2.1 (HI2.out.2.2.2.1.trans HS3.out (fun _ _ f => f.elim))
              case measure => simp [intOf]; omega
          · have t0' : W2.cell? ⟨p13, 0, none⟩ = some (.int .i64 6) := t0
            clear t0
            have HPL : Hid (play q S 6 kk = []) := Lib.hid (by unfold play; rw [if_neg (by decide), if_neg (by decide), if_pos rfl])
            clear hsay
            have HZ := Lib.hid (HST.out W2 none 0 0 (Only.refl _ _) (by rw [HPL.out]; exact OU.nil _) (fun k hk => hk.elim))
            go_wp2_with fail
            go_roundw
            case rel => exact HNX.out _ _ _ _ HZ.out.1 HZ.out.2.1 HZ.out.2.2.1 HZ.out.2.2.2
            case measure => simp [intOf]; omega
          · have t0' : W2.cell? ⟨p13, 0, none⟩ = some (.int .i64 9) := t0
            clear t0
            have hsy : say q S 9 kk = { n := 64 * q } := by unfold say; rw [if_neg (by decide), if_neg (by decide), if_neg (by decide), if_neg (by decide), if_pos rfl]
            rw [hsy] at hsay
            have e2 : 64 * q = nv := hsay.2.1
            have HPL : Hid (play q S 9 kk = S) := Lib.hid (by unfold play; rw [if_neg (by decide), if_neg (by decide), if_neg (by decide)])
            clear hsay hsy
            have HB : Hid (∀ wx, Same W2 wx → Calls Try.prog 18 #[.agg #[.bool true, .int .u64 (q : Int), .slice sa' j' sc']] wx (fun e w' => e = .returned (.int .u64 (nv : Int)) ∧ Same W2 w')) := Lib.hid (fun wx hS => by
              refine (baCapD q (by omega) sa' j' sc' wx).mono ?_
              rintro e w' ⟨h1, h2⟩
              exact ⟨by rw [h1, e2], Same.trans hS h2⟩)
            have HK : Hid (∀ w', Same W2 w' → w'.cell? ⟨p14, 1, none⟩ = some (.int .u64 (nv : Int)) ∧ w'.cell? ⟨g, 0, none⟩ = some (.bool true) ∧ w'.cell? ⟨g, 1, none⟩ = some (.int .u64 (q : Int)) ∧ w'.cell? ⟨g, 2, none⟩ = some (.slice sa' j' sc')) := Lib.hid (fun wx hS => ⟨block_cell (hS.obj HC.out.2.2 id) rfl, block_cell (hS.obj HI2.out.1 id) rfl, block_cell (hS.obj HI2.out.1 id) rfl, block_cell (hS.obj HI2.out.1 id) rfl⟩)
            clear e2
            go_wp2_with fail
            go_region_held3 (fun w' => w'.cell? ⟨p14, 1, none⟩ = some (.int .u64 (nv : Int)) ∧ w'.cell? ⟨g, 0, none⟩ = some (.bool true) ∧ w'.cell? ⟨g, 1, none⟩ = some (.int .u64 (q : Int)) ∧ w'.cell? ⟨g, 2, none⟩ = some (.slice sa' j' sc')) (first | exact HK.out _ (Only.drew (Only.refl _ _)) | exact HK.out _ (by assumption)) (first
              | ((go_at_call 18; (with_reducible refine (HB.out _ (by exact (Only.refl _ W2).drew)).mono ?_); rintro e W3 ⟨rfl, hS3⟩)))
            all_goals
              have HS3 := Lib.hid hS3
              clear hS3
              go_wp2_with fail
              go_roundw
              case rel => exact HNX.out _ _ _ _ (HS3.out.obj HI2.out.1 id) (by rw [HPL.out]; exact HI2.out.2.1.still HS3.out) HI2.out.2.2.1 (HI2.out.2.2.2.1.trans HS3.out (fun _ _ f => f.elim))
              case measure => simp [intOf]; omega
          · have t0' : W2.cell? ⟨p13, 0, none⟩ = some (.int .i64 10) := t0
            clear t0
            have hsy : say q S 10 kk = { n := S.length } := by unfold say; rw [if_neg (by decide), if_neg (by decide), if_neg (by decide), if_neg (by decide), if_neg (by decide), if_pos rfl]
            rw [hsy] at hsay
            have e2 : S.length = nv := hsay.2.1
            have HPL : Hid (play q S 10 kk = S) := Lib.hid (by unfold play; rw [if_neg (by decide), if_neg (by decide), if_neg (by decide)])
            clear hsay hsy
            have hnj : nv = j' := by rw [← e2]; exact HI2.out.2.1.2
            have zj : IntKind.u64.wrap (j' : Int) = (j' : Int) := by rw [IntKind.wrap_u64]; omega
            subst hnj
            clear e2
            go_wp2_with fail
            go_roundw
            case rel => exact HNX.out _ _ _ _ HI2.out.1 (by rw [HPL.out]; exact HI2.out.2.1) HI2.out.2.2.1 HI2.out.2.2.2.1
            case measure => simp [intOf]; omega
          · have t0' : W2.cell? ⟨p13, 0, none⟩ = some (.int .i64 14) := t0
            clear t0
            have hsy : say q S 14 kk = { nums := S } := by unfold say; rw [if_neg (by decide), if_neg (by decide), if_neg (by decide), if_neg (by decide), if_neg (by decide), if_neg (by decide), if_pos rfl]
            rw [hsy] at hsay
            have e3 : S.length = nl := hsay.2.2
            have HPL : Hid (play q S 14 kk = S) := Lib.hid (by unfold play; rw [if_neg (by decide), if_neg (by decide), if_neg (by decide)])
            clear hsay
            have HNS : Hid (OU W2 na nl nc S) := Lib.hid (by have h1 := HI2.out.2.2.2.2; exact ⟨h1, e3⟩)
            have HB : Hid (Calls Try.prog 12 #[.slice na nl nc, .slice sa' j' sc'] W2 (FV W2 (.bool true))) := Lib.hid ((baSame HNS.out.rl HI2.out.2.1.rl).mono (fun e w' h => ⟨by rw [h.1]; simp, h.2⟩))
            clear e3 hsy
            go_wp2_with (go_at_call 12; refine HB.out.mono ?_)
            rintro e W3 ⟨rfl, hS3⟩
            have HS3 := Lib.hid hS3
            clear hS3
            go_wp2_with fail
            go_roundw
            case rel => exact HNX.out _ _ _ _ (HS3.out.obj HI2.out.1 id) (by rw [HPL.out]; exact HI2.out.2.1.still HS3.out) HI2.out.2.2.1 (HI2.out.2.2.2.1.trans HS3.out (fun _ _ f => f.elim))
            case measure => simp [intOf]; omega
          · have t0' : W2.cell? ⟨p13, 0, none⟩ = some (.int .i64 15) := t0
            clear t0
            have hsy : say q S 15 kk = { yes := S.isEmpty } := by unfold say; rw [if_neg (by decide), if_neg (by decide), if_neg (by decide), if_neg (by decide), if_neg (by decide), if_neg (by decide), if_neg (by decide)]
            rw [hsy] at hsay
            have e1 : S.isEmpty = yv := hsay.1
            have HPL : Hid (play q S 15 kk = S) := Lib.hid (by unfold play; rw [if_neg (by decide), if_neg (by decide), if_neg (by decide)])
            clear hsay hsy
            have hyj : yv = decide ((j' : Int) = 0) := by
              have h1 := HI2.out.2.1.2
              rw [← e1, ← h1]
              cases S with
              | nil => rfl
              | cons a b => simp; omega
            have hyj2 : (yv == ((j' : Int) == 0)) = true := by rw [hyj]; by_cases h0 : j' = 0 <;> simp [h0]
            clear e1
            by_cases hj0 : j' = 0
            · have hjb : ((j' : Int) == 0) = true := by simp [hj0]
              have hy : yv = true := by rw [hyj]; simp [hj0]
              subst hy
              clear hyj hyj2
              subst hj0
              go_wp2_with fail
              go_roundw
              case rel => exact HNX.out _ _ _ _ HI2.out.1 (by rw [HPL.out]; exact HI2.out.2.1) HI2.out.2.2.1 HI2.out.2.2.2.1
              case measure => simp [intOf]; omega
            · have hjb : ((j' : Int) == 0) = false := by rw [beq_eq_false_iff_ne]; omega
              have hy : yv = false := by rw [hyj]; simp [hj0]
              subst hy
              clear hyj hyj2
              go_wp2_with fail
              go_roundw
              case rel => exact HNX.out _ _ _ _ HI2.out.1 (by rw [HPL.out]; exact HI2.out.2.1) HI2.out.2.2.1 HI2.out.2.2.2.1
              case measure => simp [intOf]; omega
      · have hlt' : ¬ (i' : Int) < (N : Int) := by omega
        obtain rfl : i' = N := by omega
        have hmT : T.take m = T := List.take_of_length_le (by have := HTL.out.1; have := HM.out; omega)
        rw [hmT] at HI
        have hn1 : IntKind.i64.wrap ((N1 : Int) - 1) = (i' : Int) := by have := HN1.out; rw [IntWalk.i64_in _ (by omega)]; omega
        have hlt1 : (i' : Int) < (N1 : Int) := by have := HN1.out; omega
        obtain ⟨x0, hx0, hxa⟩ : ∃ x0, As[i']? = some x0 ∧ x0.an = { nums := plays q S0 T } := by
          have h1 : (As.map (·.an))[i']? = some { nums := plays q S0 T } := by
            rw [HR6.out.2.1, List.getElem?_append_right (by have := HYL.out.2; omega), HYL.out.2, Nat.sub_self]
            rfl
          rw [List.getElem?_map] at h1
          cases hx : As[i']? with
          | none => rw [hx] at h1; cases h1
          | some x => rw [hx] at h1; exact ⟨x, rfl, by simpa using h1⟩
        have han := (HR6.out.1.keep HI.out.2.2.2 (fun k hk e => by have := HR6.out.2.2.2.1 k hk; omega))
        obtain ⟨ob, oo, hoa, hob, hoc⟩ := han.at anc_len (by omega)
        have a2 := hoc i' x0 hx0 2 _ rfl
        rw [hxa] at a2
        have h2 := HR6.out.2.2.1 x0 (List.mem_of_getElem? hx0)
        have h3 := h2.1.keep HI.out.2.2.2 (fun k hk e => by have := h2.2 k hk; omega)
        rw [hxa] at h3
        obtain ⟨S, hS⟩ : ∃ S, plays q S0 T = S := ⟨_, rfl⟩
        rw [hS] at a2 h3 HI
        obtain ⟨nl, hnl⟩ : ∃ y, ({ nums := S } : Ans).nums.length = y := ⟨_, rfl⟩
        obtain ⟨na, hna⟩ : ∃ y, x0.na = y := ⟨_, rfl⟩
        obtain ⟨nc, hnc⟩ : ∃ y, x0.nc = y := ⟨_, rfl⟩
        rw [hnl, hna, hnc] at a2 h3
        have HB : Hid (∀ wx, (∃ r, wx = wr.drewN r) → Calls Try.prog 12 #[.slice na nl nc, .slice sa' j' sc'] wx (fun e w' => e = .returned (.bool true) ∧ ∃ r, w' = wx.drewN r)) := Lib.hid (fun wx hS => by
          obtain ⟨r, rfl⟩ := hS
          have h4 : OU (wr.drewN r) na nl nc S := ⟨h3.keep ((Only.refl (fun _ => False) _).drewN r) (fun _ _ => id), hnl⟩
          refine (baSameQ h4.rl (HI.out.2.1.still ((Only.refl (fun _ => False) _).drewN r)).rl).mono ?_
          rintro e w' ⟨h5, h6⟩
          exact ⟨by rw [h5]; simp, h6⟩)
        have g2 : wr.cell? ⟨g, 2, none⟩ = some (.slice sa' j' sc') := block_cell HI.out.1 rfl
        have HB1 : Hid (∀ r, Calls Try.prog 12 #[.slice na nl nc, .slice sa' j' sc'] (wr.drewN r) (fun e w' => e = .returned (.bool true) ∧ ∃ r', w' = (wr.drewN r).drewN r')) := Lib.hid (fun r => HB.out _ ⟨r, rfl⟩)
        have HSF : Hid (Same w wr) := Lib.hid (new_only HR6.out.2.2.2.2.2.2.2.1 HI.out.2.2.2 (fun k e => by have := HR6.out.2.2.2.2.2.2.2.2; omega))
        have a2' : wr.cell? ⟨ob, oo + i' * 4 + 2, none⟩ = some (.slice na nl nc) := a2
        subst hoa
        clear han hoc hx0 hxa h2 h3 hS hnl hna hnc hmT a2 HB
        go_wp2_with fail
        go_quiet (first | (go_at_call 12; with_reducible exact Calls.quiet_of (HB1.out _)))
        go_wp2_with fail
        go_ret
        exact ⟨rfl, HSF.out.drewN _⟩
end Go.Proofs.Ytacjkbljokjdkaa.ba
