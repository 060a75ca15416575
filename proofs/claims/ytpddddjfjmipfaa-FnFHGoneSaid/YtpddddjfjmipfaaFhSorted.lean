/-
  fhSorted: the walk.
-/
import Derived.Test.YtpddddjfjmipfaaFhLaw
namespace Go.Proofs.Ytpddddjfjmipfaa.fh
open Go.RowKit Go.Proofs.Ytpddddjfjmipfaa.base Go.Proofs.Ytpddddjfjmipfaa.heap Go.Proofs.Ytpddddjfjmipfaa.rows Go.Proofs.Ytpddddjfjmipfaa.flt
set_option linter.unusedVariables false

theorem slSt : SliceOf Try.prog 22 31 4 48 := SliceOf.mk (z := .agg #[.int .i64 0, .int .i64 0, .int .i64 0, .slice none 0 0]) Try.underlying22 (by kernel_rfl) rfl
theorem slI : SliceOf Try.prog 29 3 1 8 := SliceOf.mk (z := .int .i64 0) Try.underlying29 (by kernel_rfl) rfl
theorem rl_keep {α : Type} {f : α → Value} {w w' : World} {a : Option Addr} {n cap : Nat} {l : List α} {S : Nat → Prop} (h : RL f w a n cap l) (ho : Only S w w') (hn : 0 < n → ∀ k, At a k → ¬ S k) : RL f w' a n cap l := by
  rcases Nat.eq_zero_or_pos n with rfl | hp
  · exact ⟨⟨h.1.len, h.1.le, h.1.max, h.1.one, fun h0 => absurd h0 (Nat.lt_irrefl _), h.1.nilcap⟩, h.2⟩
  · exact h.keep ho (hn hp)
theorem rl_lt {α : Type} {f : α → Value} {w : World} {a : Option Addr} {n cap : Nat} {l : List α} (h : RL f w a n cap l) (h0 : 0 < n) : ∀ k, At a k → k < w.heap.size := by
  obtain ⟨b, off, rfl, hb, _⟩ := h.at h0
  intro k hk
  have : b = k := hk
  omega
/-- a list of steps that grows -/
structure Gw (w wr : World) (sa sa' : Option Addr) (n sc : Nat) (L : List Stp) : Prop where
  row : OS 31 stc 4 wr sa' n sc L
  only : Only (At sa) w wr
  new : ∀ k, At sa' k → At sa k ∨ w.heap.size ≤ k
theorem Gw.grew {w wr w1 w2 : World} {sa sa' sa2 : Option Addr} {n sc sc2 k : Nat} {L N : List Stp} (h : Gw w wr sa sa' n sc L) (h1 : Same wr w1) (hk : N.length = k) (hG : Grew 31 4 w1 w2 sa' sa2 k (n + k) sc sc2 (L.flatMap stc ++ N.flatMap stc)) : Gw w w2 sa sa2 (n + k) sc2 (L ++ N) := by
  have z0 := h.only.size
  have z1 := h1.size
  refine ⟨⟨by rw [List.flatMap_append]; exact hG.own, by rw [List.length_append, h.row.2, hk]⟩, ?_, fun j hj => ?_⟩
  · have hO : Only (At sa') wr w2 := Only.trans (S := At sa') (h1.mono (fun _ _ f => f.elim)) hG.only (fun _ _ h => h)
    refine h.only.trans hO (fun j hj hj' => ?_)
    rcases h.new j hj' with h' | h'
    · exact h'
    · omega
  · rcases hG.fresh j hj with h' | h'
    · exact h.new j h'
    · exact .inr (by omega)
theorem sDeq_ok : Okay sDeq := ⟨by show (1 : Int) ≤ 3 ∧ (3 : Int) ≤ 6; omega, by show Int.natAbs 0 ≤ _; simp [Big], by show 0 ≤ 40; omega, rfl, fun p hp => absurd hp List.not_mem_nil⟩
theorem sMin_ok : Okay sMin := ⟨by show (1 : Int) ≤ 2 ∧ (2 : Int) ≤ 6; omega, by show Int.natAbs 0 ≤ _; simp [Big], by show 0 ≤ 40; omega, rfl, fun p hp => absurd hp List.not_mem_nil⟩
/-- steps that may be given to fhSorted, their list at sa -/
def Gave (w : World) (sa : Option Addr) (L : List Stp) : Prop := ∀ s ∈ L, Okay s ∧ RL iv w s.a s.m s.cap s.L ∧ (0 < s.m → ∀ k, At s.a k → ¬ At sa k)
set_option maxRecDepth 100000 in
set_option maxHeartbeats 6400000 in
theorem fhSorted (sa : Option Addr) (n sc : Nat) (L0 : List Stp) (la : Option Addr) (m lc : Nat) (l : List Int) (w : World) (hs : OS 31 stc 4 w sa n sc L0) (hl : RL iv w la m lc l) (hn : n ≤ 200) (hm : m ≤ 200) (hok : Gave w sa L0) (hla : 0 < m → ∀ k, At la k → ¬ At sa k) (hL : Leaves L0 l) :
    Calls Try.prog 12 #[.slice sa n sc, .slice la m lc] w fun e w' => e = .returned (.bool true) ∧ Only (At sa) w w' := by
  have hbs := hs.bound
  have hbl := hl.bound
  have HS := Lib.hid hs
  have HL := Lib.hid hl
  have HOK := Lib.hid hok
  have HLA := Lib.hid hla
  have HLV := Lib.hid hL
  have hlen : l.length = m := hl.2
  have HLEN := Lib.hid hlen
  have HG0 : Hid (Gw w w sa sa (n + 0) sc (L0 ++ List.replicate 0 sDeq)) := Lib.hid ⟨by simpa using hs, Only.refl _ _, fun k hk => .inl hk⟩
  clear hs hl hok hla hL hlen
  go_enter Try.func12, Try.ntmps12
  go_wp2_with fail
  go_loopw [0, 15] (fun s i wr => ∃ (j : Nat) (sa1 : Option Addr) (nj sc1 : Nat), s = .slice sa1 nj sc1 ∧ i = .int .i64 (j : Int) ∧ j ≤ m ∧ nj = n + j ∧ Hid (Gw w wr sa sa1 nj sc1 (L0 ++ List.replicate j sDeq))) (fun _ i _ => m - (intOf i).toNat)
  case atStart => exact ⟨0, sa, n, sc, rfl, rfl, Nat.zero_le _, rfl, HG0⟩
  case round =>
    clear HG0
    obtain ⟨j, sa1, nj, sc1, rfl, rfl, hj, hnj, HG⟩ := hrel
    have HNJ := Lib.hid hnj
    have hnb : nj ≤ 400 := by omega
    have hb1 := HG.out.row.bound
    clear hnj
    by_cases hlt : j < m
    · have hlt' : (j : Int) < (m : Int) := by omega
      obtain ⟨XS, HXS⟩ : ∃ XS, Hid ((L0 ++ List.replicate j sDeq).flatMap stc ++ [sDeq].flatMap stc = XS) := ⟨_, Lib.hid rfl⟩
      go_wp2_with (at_builtin; refine wpList_append (nj + 1) XS rfl _ _ _ _ rfl slSt rfl (HG.out.row.1.keep (S := fun _ => False) (by repeat (first | exact Only.refl _ _ | apply Only.alloc | apply Only.drew)) (fun _ _ => id)) rfl (Src.row (size := 4) (cs := #[.int .i64 3, .int .i64 0, .int .i64 0, .slice none 0 0]) (t := 31) (fr := (0, 0)) Try.underlying22 (by exact heap_alloc_new _ _) 1 1 rfl (by simp [Value.oneCell'])) rfl HXS.out (by unfold maxLen; omega) (by omega) ?_)
      intro sa2 sc2 w2 hG
      have HG2 : Hid (Gw w w2 sa sa2 (nj + 1) sc2 (L0 ++ List.replicate (j + 1) sDeq)) := Lib.hid (by
        have := HG.out.grew (N := [sDeq]) ((Only.refl _ _).alloc _) rfl (by rw [HXS.out]; exact hG)
        rw [List.append_assoc, ← List.replicate_succ'] at this
        exact this)
      have hn2 : nj + 1 = n + (j + 1) := by have := HNJ.out; omega
      clear hG
      go_wp2_with fail
      go_roundw
      case rel => exact ⟨j + 1, sa2, nj + 1, sc2, rfl, by go_num, by omega, hn2, HG2⟩
      case measure => simp [intOf]; omega
    · have hlt' : ¬ (j : Int) < (m : Int) := by omega
      obtain rfl : j = m := by omega
      obtain ⟨XS, HXS⟩ : ∃ XS, Hid ((L0 ++ List.replicate j sDeq).flatMap stc ++ [sMin].flatMap stc = XS) := ⟨_, Lib.hid rfl⟩
      go_wp2_with (at_builtin; refine wpList_append (nj + 1) XS rfl _ _ _ _ rfl slSt rfl (HG.out.row.1.keep (S := fun _ => False) (by repeat (first | exact Only.refl _ _ | apply Only.alloc | apply Only.drew)) (fun _ _ => id)) rfl (Src.row (size := 4) (cs := #[.int .i64 2, .int .i64 0, .int .i64 0, .slice none 0 0]) (t := 31) (fr := (0, 0)) Try.underlying22 (by exact heap_alloc_new _ _) 1 1 rfl (by simp [Value.oneCell'])) rfl HXS.out (by unfold maxLen; omega) (by omega) ?_)
      intro sa2 sc2 w2 hG
      have HG2 : Hid (Gw w w2 sa sa2 (nj + 1) sc2 (L0 ++ List.replicate j sDeq ++ [sMin])) := Lib.hid (HG.out.grew (N := [sMin]) ((Only.refl _ _).alloc _) rfl (by rw [HXS.out]; exact hG))
      have HRUN : Hid (Calls Try.prog 8 #[.slice sa2 (nj + 1) sc2] w2 (RunPost w2 (L0 ++ List.replicate j sDeq ++ [sMin]) (nj + 1))) := Lib.hid (by
        refine fhRun sa2 (nj + 1) sc2 _ w2 HG2.out.row.rs (by omega) (fun s hs => ?_)
        rcases List.mem_append.1 hs with hs | hs
        · rcases List.mem_append.1 hs with hs | hs
          · obtain ⟨h1, h2, h3⟩ := HOK.out s hs
            exact ⟨h1, rl_keep h2 HG2.out.only h3⟩
          · obtain rfl := (List.mem_replicate.1 hs).2
            exact ⟨sDeq_ok, RL.nil _ _⟩
        · simp at hs
          subst hs
          exact ⟨sMin_ok, RL.nil _ _⟩)
      clear hG HG
      go_wp2_with fail
      refine HRUN.out.mono ?_
      rintro e w4 ⟨oa, oc, As, S, rfl, hrs, hnew, hran, hs4⟩
      rw [← HLEN.out] at hran
      obtain ⟨Bs, x, rfl, hb1, hb2, hb3, hb4, hb5⟩ := leaves_law HLV.out hran
      have hL0 : L0.length = n := HS.out.2
      rw [hL0] at hb1 hb5
      rw [HLEN.out] at hb1
      have hxk : (Bs ++ [x])[nj]? = some x := by rw [List.getElem?_append_right (by have := HNJ.out; omega), hb1, ← HNJ.out, Nat.sub_self]; rfl
      obtain ⟨bo, off, rfl, hbo, hco⟩ := hrs.at anc_len (by omega)
      have x0 : w4.cell? ⟨bo, off + nj * 5, none⟩ = some (.bool false) := by rw [← hb3]; exact hco nj x hxk 0 _ rfl
      have x4 : w4.cell? ⟨bo, off + nj * 5 + 4, none⟩ = some (.bool true) := by rw [← hb4]; exact hco nj x hxk 4 _ rfl
      have HCO : Hid (∀ i y, Bs[i]? = some y → y.is = true ∧ w4.cell? ⟨bo, off + i * 5, none⟩ = some (.bool true) ∧ w4.cell? ⟨bo, off + i * 5 + 1, none⟩ = some (.int .i64 y.ent) ∧ w4.cell? ⟨bo, off + i * 5 + 2, none⟩ = some (.int .i64 y.p) ∧ w4.cell? ⟨bo, off + i * 5 + 3, none⟩ = some (.int .i64 y.size) ∧ w4.cell? ⟨bo, off + i * 5 + 4, none⟩ = some (.bool y.emp)) := Lib.hid (fun i y hy => by
        have hy2 : (Bs ++ [x])[i]? = some y := by rw [List.getElem?_append_left (List.getElem?_eq_some_iff.1 hy).1]; exact hy
        have hi := hb2 y (List.mem_of_getElem? hy)
        have h0 := hco i y hy2 0 (.bool y.is) rfl
        rw [hi] at h0
        exact ⟨hi, h0, hco i y hy2 1 _ rfl, hco i y hy2 2 _ rfl, hco i y hy2 3 _ rfl, hco i y hy2 4 _ rfl⟩)
      have HB1 : Hid (Bs.length = nj) := Lib.hid (by rw [hb1]; exact HNJ.out.symm)
      have HB5 := Lib.hid hb5
      have HS4 : Hid (Only (At sa) w w4) := Lib.hid (HG2.out.only.trans hs4 (fun _ _ f => f.elim))
      have hbo2 := hrs.bound
      have e1 : (n : Int) + (j : Int) = (nj : Int) := by have := HNJ.out; omega
      have hnn : n ≤ nj := by have := HNJ.out; omega
      clear hrs hnew hran hs4 hb1 hb2 hb3 hb4 hb5 hxk hco HG2 HRUN HXS hL0
      go_wp2_with fail
      go_loopw [7, 63] (fun o i wr => ∃ (k q : Nat) (ba : Option Addr) (bc : Nat), o = .slice ba q bc ∧ i = .int .i64 (k : Int) ∧ k ≤ nj ∧ q = k - n ∧ Hid (OL 3 iv wr ba q bc (((Bs.drop n).take q).map (·.p)) ∧ Same w4 wr ∧ ∀ j, At ba j → w4.heap.size ≤ j)) (fun _ i _ => nj - (intOf i).toNat)
      case atStart => exact ⟨0, 0, none, 0, rfl, rfl, Nat.zero_le _, by omega, Lib.hid ⟨by simpa using OL.nil _ _ _, Only.refl _ _, fun k hk => hk.elim⟩⟩
      case round =>
        clear x0 x4
        obtain ⟨k, q, ba, bc, rfl, rfl, hk, hq, HI⟩ := hrel
        have hbq := HI.out.1.bound
        have hqb : q ≤ nj := by omega
        have HQ := Lib.hid hq
        clear hq
        by_cases hkn : k < nj
        · have hkn' : (k : Int) < (nj : Int) := by omega
          obtain ⟨y, hy⟩ : ∃ y, Bs[k]? = some y := ⟨_, List.getElem?_eq_getElem (by rw [HB1.out]; exact hkn)⟩
          obtain ⟨_, y0, y1, y2, y3, y4⟩ := HCO.out k y hy
          have hbw := Nat.lt_of_lt_of_le hbo HI.out.2.1.size
          have z0 : wr.cell? ⟨bo, off + k * 5, none⟩ = some (.bool true) := (HI.out.2.1.cell (p := ⟨bo, off + k * 5, none⟩) hbo id).trans y0
          have z1 : wr.cell? ⟨bo, off + k * 5 + 1, none⟩ = some (.int .i64 y.ent) := (HI.out.2.1.cell (p := ⟨bo, off + k * 5 + 1, none⟩) hbo id).trans y1
          have z2 : wr.cell? ⟨bo, off + k * 5 + 2, none⟩ = some (.int .i64 y.p) := (HI.out.2.1.cell (p := ⟨bo, off + k * 5 + 2, none⟩) hbo id).trans y2
          have z3 : wr.cell? ⟨bo, off + k * 5 + 3, none⟩ = some (.int .i64 y.size) := (HI.out.2.1.cell (p := ⟨bo, off + k * 5 + 3, none⟩) hbo id).trans y3
          have z4 : wr.cell? ⟨bo, off + k * 5 + 4, none⟩ = some (.bool y.emp) := (HI.out.2.1.cell (p := ⟨bo, off + k * 5 + 4, none⟩) hbo id).trans y4
          have HY := Lib.hid hy
          clear y0 y1 y2 y3 y4 hy
          by_cases hge : n ≤ k
          · have hge' : (n : Int) ≤ (k : Int) := by omega
            obtain ⟨XS, HXS⟩ : ∃ XS, Hid ((((Bs.drop n).take q).map (·.p)).map iv ++ [iv y.p] = XS) := ⟨_, Lib.hid rfl⟩
            go_wp2_with (at_builtin; refine wpList_append (q + 1) XS rfl _ _ _ _ rfl slI rfl (HI.out.1.1.keep (S := fun _ => False) (by repeat (first | exact Only.refl _ _ | apply Only.alloc | apply Only.drew)) (fun _ _ => id)) rfl (Src.row (size := 1) (cs := #[.int .i64 y.p]) (t := 3) (fr := (0, 0)) Try.underlying29 (by exact heap_alloc_new' _ _ _ (by simp)) 1 1 rfl (by simp [Value.oneCell'])) rfl HXS.out (by unfold maxLen; omega) (by omega) ?_)
            intro ba2 bc2 w6 hG
            have HI2 : Hid (OL 3 iv w6 ba2 (q + 1) bc2 (((Bs.drop n).take (q + 1)).map (·.p)) ∧ Same w4 w6 ∧ ∀ j, At ba2 j → w4.heap.size ≤ j) := Lib.hid (by
              have hO : Only (At ba) wr w6 := Only.trans (S := At ba) (((Only.refl (At ba) wr).alloc _).alloc _) hG.only (fun _ _ h => h)
              have hz := HI.out.2.1.size
              have hyq : (Bs.drop n)[q]? = some y := by rw [List.getElem?_drop, show n + q = k by have := HQ.out; omega]; exact HY.out
              refine ⟨⟨?_, ?_⟩, new_only HI.out.2.1 hO HI.out.2.2, fun i hi => ?_⟩
              · rw [take_snoc _ q y hyq, List.map_append, List.map_append, List.map_singleton, List.map_singleton, HXS.out]
                exact hG.own
              · rw [List.length_map, List.length_take, List.length_drop, HB1.out]; have := HQ.out; omega
              · rcases hG.fresh i hi with h | h
                · exact HI.out.2.2 i h
                · have h3 : wr.heap.size + 1 + 1 ≤ i := by simpa using h
                  omega)
            have hq2 : q + 1 = k + 1 - n := by have := HQ.out; omega
            have HQ2 := Lib.hid hq2
            clear hG HI hq2
            go_wp2_with fail
            go_roundw
            case rel => exact ⟨k + 1, q + 1, ba2, bc2, rfl, by go_num, by omega, HQ2.out, HI2⟩
            case measure => simp [intOf]; omega
          · have hge' : ¬ (n : Int) ≤ (k : Int) := by omega
            have HI2 : Hid (OL 3 iv (wr.alloc (.cells #[.bool true, .int .i64 y.ent, .int .i64 y.p, .int .i64 y.size, .bool y.emp] 35)) ba q bc (((Bs.drop n).take q).map (·.p)) ∧ Same w4 (wr.alloc (.cells #[.bool true, .int .i64 y.ent, .int .i64 y.p, .int .i64 y.size, .bool y.emp] 35)) ∧ ∀ j, At ba j → w4.heap.size ≤ j) := Lib.hid ⟨HI.out.1.still ((Only.refl _ _).alloc _), HI.out.2.1.alloc _, HI.out.2.2⟩
            have hq2 : q = k + 1 - n := by have := HQ.out; omega
            have HQ2 := Lib.hid hq2
            clear HI hq2
            go_wp2_with fail
            go_roundw
            case rel => exact ⟨k + 1, q, ba, bc, rfl, by go_num, by omega, HQ2.out, HI2⟩
            case measure => simp [intOf]; omega
        · have hkn' : ¬ (k : Int) < (nj : Int) := by omega
          obtain rfl : k = nj := by omega
          have hqj : q = j := by have := HNJ.out; have := HQ.out; omega
          have hout : ((Bs.drop n).take q).map (·.p) = srt l := by
            rw [List.take_of_length_le (by rw [List.length_drop, HB1.out]; have := HQ.out; omega)]
            exact HB5.out
          have HO : Hid (OL 3 iv wr ba q bc (srt l) ∧ Only (At sa) w wr ∧ RL iv wr la q lc l) := Lib.hid (by
            have h1 := HS4.out.trans HI.out.2.1 (fun _ _ f => f.elim)
            refine ⟨by rw [← hout]; exact HI.out.1, h1, ?_⟩
            rw [hqj]
            exact rl_keep HL.out h1 HLA.out)
          obtain rfl := hqj
          have HCL := Lib.hid (cloneL HO.out.2.2 (by omega))
          clear hout HI
          go_wp2_with fail
          refine HCL.out.mono ?_
          rintro e w6 ⟨ca, cc, rfl, hc1, hc2, hc3⟩
          have HSO := Lib.hid (sortL hc1 (by omega))
          have HC := Lib.hid (And.intro hc2 hc3)
          clear hc1 hc2 hc3
          go_wp2_with fail
          refine HSO.out.mono ?_
          rintro e w7 ⟨rfl, hs1, hs2⟩
          have HEQ : Hid (Calls Try.prog 23 #[.slice ba q bc, .slice ca q cc] w7 (FV w7 (.bool (srt l == srt l)))) := Lib.hid (by
            refine equalL ?_ hs1.rl (by omega) (by omega) rfl
            refine ((HO.out.1.still HC.out.1).keep hs2 (fun k hk hk2 => ?_)).rl
            have := HO.out.1.1.lt k hk
            have := HC.out.2 k hk2
            omega)
          have HW7 : Hid (Only (At sa) w w7) := Lib.hid ((HO.out.2.1.trans HC.out.1 (fun _ _ f => f.elim)).trans hs2 (fun k hk hk2 => by have := HC.out.2 k hk2; have := HO.out.2.1.size; omega))
          rw [beq_self_eq_true] at HEQ
          clear hs1 hs2
          go_wp2_with fail
          refine HEQ.out.mono ?_
          rintro e w8 ⟨rfl, hs8⟩
          have HW8 := Lib.hid (HW7.out.trans hs8 (fun _ _ f => f.elim))
          clear hs8
          go_wp2_with fail
          go_ret
          exact ⟨rfl, HW8.out⟩
end Go.Proofs.Ytpddddjfjmipfaa.fh
