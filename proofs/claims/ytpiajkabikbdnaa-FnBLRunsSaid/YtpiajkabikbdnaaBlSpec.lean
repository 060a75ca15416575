/-
  The reference's and the statements' functions on filters: BLAll, blFilter.
-/
import Derived.Test.YtpiajkabikbdnaaBlTold
namespace Go.Proofs.Ytpiajkabikbdnaa.bs
open Go.RowKit Go.Proofs.Ytpiajkabikbdnaa.base Go.Proofs.Ytpiajkabikbdnaa.heap Go.Proofs.Ytpiajkabikbdnaa.bit
set_option linter.unusedVariables false

set_option maxRecDepth 100000 in
set_option maxHeartbeats 1600000 in
theorem blAll (a0 : Option Addr) (cap0 : Nat) (b : List Bool) (a : Option Addr) (n cap : Nat) (ls : List Nat) (w : World) (hb : RB w a0 b.length cap0 b) (hM0 : 0 < b.length) (hM : b.length ≤ 1048576) (hl : RU w a n cap ls) (hlt : Ok ls) (hn : n ≤ 1048576) :
    Calls Try.prog 11 #[.slice a0 b.length cap0, .slice a n cap] w (FV w (.bool (allAt (fun i => b.getD i false) b.length ls))) := by
  have HB : Hid (∀ wx, Same w wx → RB wx a0 b.length cap0 b) := Lib.hid (fun wx hx => hb.keep hx (fun _ _ => id))
  have HL : Hid (∀ wx, Same w wx → RU wx a n cap ls) := Lib.hid (fun wx hx => hl.keep hx (fun _ _ => id))
  have HLen : Hid (ls.length = n) := Lib.hid hl.2
  have HOK := Lib.hid hlt
  have hbd := hl.1.bound
  have hbd0 := hb.1.bound
  clear hb hl hlt
  go_enter Try.func11, Try.ntmps11
  go_wp2_with fail
  go_loopw [5] (fun i wr => ∃ k : Nat, k ≤ n ∧ i = .int .i64 (k : Int) ∧ Same w wr ∧ allAt (fun i => b.getD i false) b.length (ls.take k) = true) (fun i _ => n - (intOf i).toNat)
  case atStart => exact ⟨0, Nat.zero_le _, rfl, Only.refl _ _, rfl⟩
  case round =>
    obtain ⟨k, hk, rfl, hO, hall⟩ := hrel
    have HALL := Lib.hid hall
    have HO := Lib.hid hO
    clear hO hall
    by_cases hlt : k < n
    · have hlt' : (k : Int) < (n : Int) := by omega
      obtain ⟨bb, off, rfl, hbb, hc⟩ := (HL.out wr HO.out).at (by omega)
      have c := hc k hlt
      have HX := Lib.hid (HOK.out.at k)
      obtain ⟨x, hx⟩ : ∃ x, ls.getD k 0 = x := ⟨_, rfl⟩
      rw [hx] at c HX
      have hM1 : (1 : Int) ≤ (b.length : Int) := by omega
      have hxm : x % b.length < b.length := Nat.mod_lt _ hM0
      obtain ⟨bc, offc, rfl, hbc, hcc⟩ := (HB.out wr HO.out).at hM0
      have cx := hcc (x % b.length) hxm
      have m1 : (0 : Int) ≤ (x : Int) % (b.length : Int) := by omega
      have m2 : (x : Int) % (b.length : Int) < (b.length : Int) := by omega
      have m3 : ((x : Int) % (b.length : Int)).toNat = x % b.length := by omega
      have HY := Lib.hid hx
      clear hc hcc hx
      cases hg : b.getD (x % b.length) false
      · rw [hg] at cx
        have HN := Lib.hid (allAt_no (fun i => b.getD i false) b.length ls k (by rw [HLen.out]; exact hlt) (by show b.getD _ false = false; rw [HY.out]; exact hg))
        clear hg
        go_wp2_with fail
        go_ret
        exact ⟨by rw [HN.out]; rfl, HO.out⟩
      · rw [hg] at cx
        have HN := Lib.hid (allAt_take (fun i => b.getD i false) b.length ls k (by rw [HLen.out]; exact hlt) HALL.out)
        have HG : Hid ((fun i => b.getD i false) (ls.getD k 0 % b.length) = true) := Lib.hid (by show b.getD _ false = true; rw [HY.out]; exact hg)
        clear hg
        go_wp2_with fail
        go_roundw
        case rel => exact ⟨k + 1, by omega, by go_num, HO.out, by rw [HN.out]; exact HG.out⟩
        case measure => simp [intOf]; omega
    · obtain rfl : k = n := by omega
      have e : allAt (fun i => b.getD i false) b.length ls = true := by
        have := HALL.out
        rwa [List.take_of_length_le (by rw [HLen.out]; exact Nat.le_refl _)] at this
      have HE := Lib.hid e
      clear e
      go_wp2_with fail
      go_ret
      exact ⟨by rw [HE.out]; rfl, HO.out⟩

theorem bit_snoc {l : List Nat} {k M y : Nat} (hl : l.length = k) (hz : ∀ i, M ≤ i → bit l i = false) (hb : ∀ j, j < 64 → M ≤ 64 * k + j → y.testBit j = false) (i : Nat) (hi : M ≤ i) : bit (l ++ [y]) i = false := by
  by_cases h1 : i / 64 < k
  · have e : bit (l ++ [y]) i = bit l i := by
      unfold bit
      rw [List.getD_eq_getElem?_getD, List.getD_eq_getElem?_getD, List.getElem?_append_left (by omega)]
    rw [e]; exact hz i hi
  · by_cases h2 : i / 64 = k
    · have e : bit (l ++ [y]) i = y.testBit (i % 64) := by
        unfold bit
        rw [List.getD_eq_getElem?_getD, List.getElem?_append_right (by omega), show i / 64 - l.length = 0 from by omega]; rfl
      rw [e]; exact hb _ (by omega) (by omega)
    · exact bit_far _ _ (by rw [List.length_append, hl]; simp; omega)

/-- a plain filter that is looked at -/
def FSomeF (M K : Nat) (w0 : World) (e : Ending) (w' : World) : Prop :=
  ∃ a n cap l, e = .returned (.agg #[.int .u64 (M : Int), .int .u64 (K : Int), .slice a n cap]) ∧ RU w' a n cap l ∧ Ok l ∧ n = (M + 63) / 64 ∧ (∀ i, M ≤ i → bit l i = false) ∧ Same w0 w' ∧ ∀ j, At a j → w0.heap.size ≤ j

set_option maxRecDepth 100000 in
set_option maxHeartbeats 3200000 in
theorem blFilter (p q : Nat) (a : Option Addr) (n cap : Nat) (l : List Nat) (w : World) (h : RU w a n cap l) (hok : Ok l) (hn : n ≤ 2147483647) (hp : p < 65536) (hq : q < 256) :
    Calls Try.prog 9 #[.int .u16 (p : Int), .int .u8 (q : Int), .slice a n cap] w (FSomeF (1 + p % 700) (1 + q % 8) w) := by
  have hbd := h.1.bound
  have H : Hid (∀ wx, Same w wx → RU wx a n cap l) := Lib.hid (fun wx hx => h.keep hx (fun _ _ => id))
  have HOK := Lib.hid hok
  clear h hok
  obtain ⟨M, hM⟩ : ∃ M, 1 + p % 700 = M := ⟨_, rfl⟩
  obtain ⟨K, hK⟩ : ∃ K, 1 + q % 8 = K := ⟨_, rfl⟩
  rw [hM, hK]
  have hM1 : 1 ≤ M := by omega
  have hM2 : M ≤ 700 := by omega
  have HM : Hid (1 + (p : Int) % 700 = (M : Int)) := Lib.hid (by omega)
  have HK : Hid (1 + (q : Int) % 8 = (K : Int)) := Lib.hid (by omega)
  clear hM hK
  go_enter Try.func9, Try.ntmps9
  go_wp2_with fail
  rw [HM.out, HK.out]
  obtain ⟨W, hW⟩ : ∃ W, W = (w.alloc (.cells #[.int .u64 0, .int .u64 0, .slice none 0 0] 26)).alloc (.cells #[.int .u64 (M : Int), .int .u64 (K : Int), .slice none 0 0] 26) := ⟨_, rfl⟩
  have hS : Same w W := by rw [hW]; exact ((Only.refl _ w).alloc _).alloc _
  have hR : W.heap[w.heap.size]? = some (.cells #[.int .u64 0, .int .u64 0, .slice none 0 0] 26 (0, 0)) := by rw [hW]; exact heap_alloc_second _ _ _
  have hF : W.heap[w.heap.size + 1]? = some (.cells #[.int .u64 (M : Int), .int .u64 (K : Int), .slice none 0 0] 26 (0, 0)) := by rw [hW]; exact heap_alloc_new' _ _ _ (by simp)
  rw [← hW]
  have HS := Lib.hid hS
  have HR := Lib.hid hR
  have HF := Lib.hid hF
  clear hW hS hR hF
  have hN : (M + 63) / 64 ≤ 11 := by omega
  go_loopw [8] (fun i wr => ∃ (k : Nat) (aa : Option Addr) (cc : Nat) (l' : List Nat), k ≤ (M + 63) / 64 ∧ i = .int .u64 (k : Int) ∧ wr.heap[w.heap.size]? = some (.cells #[.int .u64 0, .int .u64 0, .slice none 0 0] 26 (0, 0)) ∧
      wr.heap[w.heap.size + 1]? = some (.cells #[.int .u64 (M : Int), .int .u64 (K : Int), .slice aa k cc] 26 (0, 0)) ∧ Own 59 1 wr aa k cc (U l') ∧ l'.length = k ∧ Ok l' ∧ (∀ i, M ≤ i → bit l' i = false) ∧ Same w wr ∧ ∀ j, At aa j → w.heap.size + 1 < j) (fun i _ => (M + 63) / 64 - (intOf i).toNat)
  case atStart => exact ⟨0, none, 0, [], Nat.zero_le _, rfl, HR.out, HF.out, Own.nil _ _ _, rfl, (fun x hx => nomatch hx), (fun i _ => by unfold bit; simp), HS.out, (fun j hj => nomatch hj)⟩
  case round =>
    obtain ⟨k, aa, cc, l', hk, rfl, hres, hf, hown, hlen, hok', hz, hO, hat⟩ := hrel
    clear HR HF HS
    have c0 : wr.cell? ⟨w.heap.size + 1, 0, none⟩ = some (.int .u64 (M : Int)) := block_cell hf rfl
    have c2 : wr.cell? ⟨w.heap.size + 1, 2, none⟩ = some (.slice aa k cc) := block_cell hf rfl
    have f2 : wr.frozen? ⟨w.heap.size + 1, 2, none⟩ = false := block_free hf
    have hbo := hown.bound
    have HRES := Lib.hid hres
    have HF := Lib.hid hf
    have HOWN := Lib.hid hown
    have HLEN := Lib.hid hlen
    have HOK' := Lib.hid hok'
    have HZ := Lib.hid hz
    have HO := Lib.hid hO
    have HAT := Lib.hid hat
    clear hres hf hown hlen hok' hz hO hat
    by_cases hlt : k < (M + 63) / 64
    · have hlt' : (k : Int) < ((M : Int) + 63) / 64 := by omega
      by_cases hw : k < n
      · have hw' : (k : Int) < (n : Int) := by omega
        obtain ⟨bb, off, rfl, hbb, hc⟩ := (H.out wr HO.out).at (by omega)
        have c := hc k hw
        have HX := Lib.hid (HOK.out.at k)
        generalize l.getD k 0 = x at *
        clear hc
        by_cases hl : M - 64 * k < 64
        · have hl' : (M : Int) - 64 * (k : Int) < 64 := by omega
          have HY : Hid (bits .and .u64 (x : Int) (IntKind.u64.wrap (IntKind.u64.wrap (2 ^ (M - 64 * k)) - 1)) = ((x % 2 ^ (M - 64 * k) : Nat) : Int)) := Lib.hid (by
            obtain ⟨r, hr⟩ : ∃ r, M - 64 * k = r + 1 := ⟨M - 64 * k - 1, by omega⟩
            rw [hr]; exact mask_to HX.out (by omega))
          have HLY : Hid (Lt64 (x % 2 ^ (M - 64 * k))) := Lib.hid (Nat.lt_of_le_of_lt (Nat.mod_le _ _) HX.out)
          have HB : Hid (∀ j, j < 64 → M ≤ 64 * k + j → (x % 2 ^ (M - 64 * k)).testBit j = false) := Lib.hid (fun j hj hm => by rw [Nat.testBit_mod_two_pow, decide_eq_false (by omega)]; rfl)
          go_wp2_with (at_builtin; refine wpList_append (k + 1) (U l' ++ [.int .u64 (bits .and .u64 (x : Int) (IntKind.u64.wrap (IntKind.u64.wrap (2 ^ (M - 64 * k)) - 1)))]) rfl _ _ _ _ rfl slWord rfl (HOWN.out.keep (S := fun _ => False) (by repeat (first | exact Only.refl _ _ | apply Only.alloc | apply Only.drewN)) (fun _ _ => id)) rfl (Src.row (t := 59) (fr := (0, 0)) Try.underlying23 (heap_alloc_new' _ _ _ (by simp)) 1 1 rfl (by simp [Value.oneCell'])) rfl rfl (by unfold maxLen; omega) (by omega) ?_)
          intro a' cap' w2 hG
          have HG := Lib.hid hG
          clear hG
          have hO2 : Only (At aa) wr w2 := ((Only.refl (At aa) wr).alloc _).trans HG.out.only (fun _ _ h => h)
          have hf2 : w2.heap[w.heap.size + 1]? = some (.cells #[.int .u64 (M : Int), .int .u64 (K : Int), .slice aa k cc] 26 (0, 0)) := hO2.obj HF.out (fun h => by have := HAT.out _ h; omega)
          have c22 : w2.cell? ⟨w.heap.size + 1, 2, none⟩ = some (.slice aa k cc) := block_cell hf2 rfl
          have f22 : w2.frozen? ⟨w.heap.size + 1, 2, none⟩ = false := block_free hf2
          have hsz := lt_of_heap HF.out
          have HRES2 := Lib.hid (hO2.obj HRES.out (fun h => by have := HAT.out _ h; omega))
          have HO2 : Hid (Same w w2) := Lib.hid (Only.trans HO.out hO2 (fun j hj h => by have := HAT.out j h; omega))
          have HF2 := Lib.hid hf2
          clear hf2 hO2 c0 c2 f2
          go_wp2_with fail
          go_roundw
          case rel =>
            have hl1 : (l' ++ [x % 2 ^ (M - 64 * k)]).length = k + 1 := by simp [HLEN.out]
            refine ⟨k + 1, a', cap', l' ++ [x % 2 ^ (M - 64 * k)], by omega, by go_num, ?_, ?_, ?_, hl1, HOK'.out.append (fun z hz => ?_), fun i hi => ?_, HO2.out.setCell _ _ (fun h => absurd h (by simp)), fun j hj => ?_⟩
            · rw [Below.heap_setCell _ _ _ _ (by simp)]; exact HRES2.out
            · rw [setCell_heap HF2.out 2 _]; rfl
            · have ho := HG.out.own
              try rw [HY.out] at ho
              rw [← U_app]
              exact ho.keep (S := fun j => j = w.heap.size + 1) ((Only.refl _ _).setCell _ _ (fun _ => rfl)) (fun j hj e => by
                rcases HG.out.fresh j hj with h | h
                · have := HAT.out j h; omega
                · simp at h; omega)
            · rw [List.mem_singleton] at hz; rw [hz]; exact HLY.out
            · exact bit_snoc HLEN.out HZ.out HB.out i hi
            · rcases HG.out.fresh j hj with h | h
              · exact HAT.out j h
              · simp at h; omega
          case measure => simp [intOf]; omega
        · have hl' : ¬ (M : Int) - 64 * (k : Int) < 64 := by omega
          have HY : Hid ((x : Int) = ((x : Nat) : Int)) := Lib.hid (rfl)
          have HLY : Hid (Lt64 (x)) := Lib.hid (HX.out)
          have HB : Hid (∀ j, j < 64 → M ≤ 64 * k + j → (x).testBit j = false) := Lib.hid (fun j hj hm => by omega)
          go_wp2_with (at_builtin; refine wpList_append (k + 1) (U l' ++ [.int .u64 ((x : Int))]) rfl _ _ _ _ rfl slWord rfl (HOWN.out.keep (S := fun _ => False) (by repeat (first | exact Only.refl _ _ | apply Only.alloc | apply Only.drewN)) (fun _ _ => id)) rfl (Src.row (t := 59) (fr := (0, 0)) Try.underlying23 (heap_alloc_new' _ _ _ (by simp)) 1 1 rfl (by simp [Value.oneCell'])) rfl rfl (by unfold maxLen; omega) (by omega) ?_)
          intro a' cap' w2 hG
          have HG := Lib.hid hG
          clear hG
          have hO2 : Only (At aa) wr w2 := ((Only.refl (At aa) wr).alloc _).trans HG.out.only (fun _ _ h => h)
          have hf2 : w2.heap[w.heap.size + 1]? = some (.cells #[.int .u64 (M : Int), .int .u64 (K : Int), .slice aa k cc] 26 (0, 0)) := hO2.obj HF.out (fun h => by have := HAT.out _ h; omega)
          have c22 : w2.cell? ⟨w.heap.size + 1, 2, none⟩ = some (.slice aa k cc) := block_cell hf2 rfl
          have f22 : w2.frozen? ⟨w.heap.size + 1, 2, none⟩ = false := block_free hf2
          have hsz := lt_of_heap HF.out
          have HRES2 := Lib.hid (hO2.obj HRES.out (fun h => by have := HAT.out _ h; omega))
          have HO2 : Hid (Same w w2) := Lib.hid (Only.trans HO.out hO2 (fun j hj h => by have := HAT.out j h; omega))
          have HF2 := Lib.hid hf2
          clear hf2 hO2 c0 c2 f2
          go_wp2_with fail
          go_roundw
          case rel =>
            have hl1 : (l' ++ [x]).length = k + 1 := by simp [HLEN.out]
            refine ⟨k + 1, a', cap', l' ++ [x], by omega, by go_num, ?_, ?_, ?_, hl1, HOK'.out.append (fun z hz => ?_), fun i hi => ?_, HO2.out.setCell _ _ (fun h => absurd h (by simp)), fun j hj => ?_⟩
            · rw [Below.heap_setCell _ _ _ _ (by simp)]; exact HRES2.out
            · rw [setCell_heap HF2.out 2 _]; rfl
            · have ho := HG.out.own
              try rw [HY.out] at ho
              rw [← U_app]
              exact ho.keep (S := fun j => j = w.heap.size + 1) ((Only.refl _ _).setCell _ _ (fun _ => rfl)) (fun j hj e => by
                rcases HG.out.fresh j hj with h | h
                · have := HAT.out j h; omega
                · simp at h; omega)
            · rw [List.mem_singleton] at hz; rw [hz]; exact HLY.out
            · exact bit_snoc HLEN.out HZ.out HB.out i hi
            · rcases HG.out.fresh j hj with h | h
              · exact HAT.out j h
              · simp at h; omega
          case measure => simp [intOf]; omega
      · have hw' : ¬ (k : Int) < (n : Int) := by omega
        by_cases hl : M - 64 * k < 64
        · have hl' : (M : Int) - 64 * (k : Int) < 64 := by omega
          have HY : Hid (bits .and .u64 (0 : Int) (IntKind.u64.wrap (IntKind.u64.wrap (2 ^ (M - 64 * k)) - 1)) = ((0 % 2 ^ (M - 64 * k) : Nat) : Int)) := Lib.hid (by
            obtain ⟨r, hr⟩ : ∃ r, M - 64 * k = r + 1 := ⟨M - 64 * k - 1, by omega⟩
            rw [hr]; exact mask_to lt64_zero (by omega))
          have HLY : Hid (Lt64 (0 % 2 ^ (M - 64 * k))) := Lib.hid (by rw [Nat.zero_mod]; exact lt64_zero)
          have HB : Hid (∀ j, j < 64 → M ≤ 64 * k + j → (0 % 2 ^ (M - 64 * k)).testBit j = false) := Lib.hid (fun j hj hm => by rw [Nat.testBit_mod_two_pow, decide_eq_false (by omega)]; rfl)
          go_wp2_with (at_builtin; refine wpList_append (k + 1) (U l' ++ [.int .u64 (bits .and .u64 (0 : Int) (IntKind.u64.wrap (IntKind.u64.wrap (2 ^ (M - 64 * k)) - 1)))]) rfl _ _ _ _ rfl slWord rfl (HOWN.out.keep (S := fun _ => False) (by repeat (first | exact Only.refl _ _ | apply Only.alloc | apply Only.drewN)) (fun _ _ => id)) rfl (Src.row (t := 59) (fr := (0, 0)) Try.underlying23 (heap_alloc_new' _ _ _ (by simp)) 1 1 rfl (by simp [Value.oneCell'])) rfl rfl (by unfold maxLen; omega) (by omega) ?_)
          intro a' cap' w2 hG
          have HG := Lib.hid hG
          clear hG
          have hO2 : Only (At aa) wr w2 := ((Only.refl (At aa) wr).alloc _).trans HG.out.only (fun _ _ h => h)
          have hf2 : w2.heap[w.heap.size + 1]? = some (.cells #[.int .u64 (M : Int), .int .u64 (K : Int), .slice aa k cc] 26 (0, 0)) := hO2.obj HF.out (fun h => by have := HAT.out _ h; omega)
          have c22 : w2.cell? ⟨w.heap.size + 1, 2, none⟩ = some (.slice aa k cc) := block_cell hf2 rfl
          have f22 : w2.frozen? ⟨w.heap.size + 1, 2, none⟩ = false := block_free hf2
          have hsz := lt_of_heap HF.out
          have HRES2 := Lib.hid (hO2.obj HRES.out (fun h => by have := HAT.out _ h; omega))
          have HO2 : Hid (Same w w2) := Lib.hid (Only.trans HO.out hO2 (fun j hj h => by have := HAT.out j h; omega))
          have HF2 := Lib.hid hf2
          clear hf2 hO2 c0 c2 f2
          go_wp2_with fail
          go_roundw
          case rel =>
            have hl1 : (l' ++ [0 % 2 ^ (M - 64 * k)]).length = k + 1 := by simp [HLEN.out]
            refine ⟨k + 1, a', cap', l' ++ [0 % 2 ^ (M - 64 * k)], by omega, by go_num, ?_, ?_, ?_, hl1, HOK'.out.append (fun z hz => ?_), fun i hi => ?_, HO2.out.setCell _ _ (fun h => absurd h (by simp)), fun j hj => ?_⟩
            · rw [Below.heap_setCell _ _ _ _ (by simp)]; exact HRES2.out
            · rw [setCell_heap HF2.out 2 _]; rfl
            · have ho := HG.out.own
              try rw [HY.out] at ho
              rw [← U_app]
              exact ho.keep (S := fun j => j = w.heap.size + 1) ((Only.refl _ _).setCell _ _ (fun _ => rfl)) (fun j hj e => by
                rcases HG.out.fresh j hj with h | h
                · have := HAT.out j h; omega
                · simp at h; omega)
            · rw [List.mem_singleton] at hz; rw [hz]; exact HLY.out
            · exact bit_snoc HLEN.out HZ.out HB.out i hi
            · rcases HG.out.fresh j hj with h | h
              · exact HAT.out j h
              · simp at h; omega
          case measure => simp [intOf]; omega
        · have hl' : ¬ (M : Int) - 64 * (k : Int) < 64 := by omega
          have HY : Hid ((0 : Int) = ((0 : Nat) : Int)) := Lib.hid (rfl)
          have HLY : Hid (Lt64 (0)) := Lib.hid (lt64_zero)
          have HB : Hid (∀ j, j < 64 → M ≤ 64 * k + j → (0).testBit j = false) := Lib.hid (fun j hj hm => by omega)
          go_wp2_with (at_builtin; refine wpList_append (k + 1) (U l' ++ [.int .u64 ((0 : Int))]) rfl _ _ _ _ rfl slWord rfl (HOWN.out.keep (S := fun _ => False) (by repeat (first | exact Only.refl _ _ | apply Only.alloc | apply Only.drewN)) (fun _ _ => id)) rfl (Src.row (t := 59) (fr := (0, 0)) Try.underlying23 (heap_alloc_new' _ _ _ (by simp)) 1 1 rfl (by simp [Value.oneCell'])) rfl rfl (by unfold maxLen; omega) (by omega) ?_)
          intro a' cap' w2 hG
          have HG := Lib.hid hG
          clear hG
          have hO2 : Only (At aa) wr w2 := ((Only.refl (At aa) wr).alloc _).trans HG.out.only (fun _ _ h => h)
          have hf2 : w2.heap[w.heap.size + 1]? = some (.cells #[.int .u64 (M : Int), .int .u64 (K : Int), .slice aa k cc] 26 (0, 0)) := hO2.obj HF.out (fun h => by have := HAT.out _ h; omega)
          have c22 : w2.cell? ⟨w.heap.size + 1, 2, none⟩ = some (.slice aa k cc) := block_cell hf2 rfl
          have f22 : w2.frozen? ⟨w.heap.size + 1, 2, none⟩ = false := block_free hf2
          have hsz := lt_of_heap HF.out
          have HRES2 := Lib.hid (hO2.obj HRES.out (fun h => by have := HAT.out _ h; omega))
          have HO2 : Hid (Same w w2) := Lib.hid (Only.trans HO.out hO2 (fun j hj h => by have := HAT.out j h; omega))
          have HF2 := Lib.hid hf2
          clear hf2 hO2 c0 c2 f2
          go_wp2_with fail
          go_roundw
          case rel =>
            have hl1 : (l' ++ [0]).length = k + 1 := by simp [HLEN.out]
            refine ⟨k + 1, a', cap', l' ++ [0], by omega, by go_num, ?_, ?_, ?_, hl1, HOK'.out.append (fun z hz => ?_), fun i hi => ?_, HO2.out.setCell _ _ (fun h => absurd h (by simp)), fun j hj => ?_⟩
            · rw [Below.heap_setCell _ _ _ _ (by simp)]; exact HRES2.out
            · rw [setCell_heap HF2.out 2 _]; rfl
            · have ho := HG.out.own
              try rw [HY.out] at ho
              rw [← U_app]
              exact ho.keep (S := fun j => j = w.heap.size + 1) ((Only.refl _ _).setCell _ _ (fun _ => rfl)) (fun j hj e => by
                rcases HG.out.fresh j hj with h | h
                · have := HAT.out j h; omega
                · simp at h; omega)
            · rw [List.mem_singleton] at hz; rw [hz]; exact HLY.out
            · exact bit_snoc HLEN.out HZ.out HB.out i hi
            · rcases HG.out.fresh j hj with h | h
              · exact HAT.out j h
              · simp at h; omega
          case measure => simp [intOf]; omega
    · have hlt' : ¬ (k : Int) < ((M : Int) + 63) / 64 := by omega
      have hkN : k = (M + 63) / 64 := by omega
      have c1 : wr.cell? ⟨w.heap.size + 1, 1, none⟩ = some (.int .u64 (K : Int)) := block_cell HF.out rfl
      have r0 : wr.cell? ⟨w.heap.size, 0, none⟩ = some (.int .u64 0) := block_cell HRES.out rfl
      have r1 : wr.cell? ⟨w.heap.size, 1, none⟩ = some (.int .u64 0) := block_cell HRES.out rfl
      have r2 : wr.cell? ⟨w.heap.size, 2, none⟩ = some (.slice none 0 0) := block_cell HRES.out rfl
      have rf0 : wr.frozen? ⟨w.heap.size, 0, none⟩ = false := block_free HRES.out
      have rf1 : wr.frozen? ⟨w.heap.size, 1, none⟩ = false := block_free HRES.out
      have rf2 : wr.frozen? ⟨w.heap.size, 2, none⟩ = false := block_free HRES.out
      have HP : Hid (FSomeF M K w (.returned (.agg #[.int .u64 (M : Int), .int .u64 (K : Int), .slice aa k cc])) (((wr.setCell ⟨w.heap.size, 0, none⟩ (.int .u64 (M : Int))).setCell ⟨w.heap.size, 1, none⟩ (.int .u64 (K : Int))).setCell ⟨w.heap.size, 2, none⟩ (.slice aa k cc))) := Lib.hid (by
        refine ⟨aa, k, cc, l', rfl, ⟨?_, HLEN.out⟩, HOK'.out, hkN, HZ.out, ((HO.out.setCell _ _ (fun h => absurd h (by simp))).setCell _ _ (fun h => absurd h (by simp))).setCell _ _ (fun h => absurd h (by simp)), fun j hj => by have := HAT.out j hj; omega⟩
        exact (HOWN.out.keep (S := fun j => j = w.heap.size) ((((Only.refl (fun j => j = w.heap.size) _).setCell _ _ (fun _ => rfl)).setCell _ _ (fun _ => rfl)).setCell _ _ (fun _ => rfl)) (fun j hj e => by have := HAT.out j hj; omega)).rd)
      clear hkN
      go_wp2_with fail
      refine bodyPost_ret (v := .agg #[.int .u64 (M : Int), .int .u64 (K : Int), .slice aa k cc]) ?_ rfl HP.out
      simp [results, Try.results9, go_sem, r0, r1, r2]
end Go.Proofs.Ytpiajkabikbdnaa.bs
