/-
  FnFHMerged: the walk.
-/
import Derived.Test.YtpddddjfjmipfaaFhPrio
namespace Go.Proofs.Ytpddddjfjmipfaa.walkFnFHMerged
open Go.RowKit Go.Proofs.Ytpddddjfjmipfaa.base Go.Proofs.Ytpddddjfjmipfaa.heap Go.Proofs.Ytpddddjfjmipfaa.rows Go.Proofs.Ytpddddjfjmipfaa.flt Go.Proofs.Ytpddddjfjmipfaa.fh
set_option linter.unusedVariables false

def mk6 (s : Sli) : Stp := ⟨6, 0, 0, s.a, s.m, s.cap, s.R⟩
def all (l : List Sli) : List Int := l.flatMap (·.R)
theorem ran6 {l : List Stp} {As : List An} {S : Pris} (h : Ran l As S) (hl : ∀ s ∈ l, s.op = 6) : (∀ x ∈ As, x.is = true) ∧ S = (l.flatMap (·.L)).map some := by
  induction h with
  | nil => exact ⟨fun x hx => by simp at hx, rfl⟩
  | @snoc l As S s x S' h1 h2 ih =>
    obtain ⟨i1, i2⟩ := ih (fun s hs => hl s (by simp [hs]))
    have hs : s.op = 6 := hl s (by simp)
    have h3 : x = ⟨true, -1, 0, 0, false⟩ ∧ S' = S ++ s.L.map some := by
      cases h2 with
      | enq e => rw [hs] at e; exact absurd e (by decide)
      | min0 e => rw [hs] at e; exact absurd e (by decide)
      | min e => rw [hs] at e; exact absurd e (by decide)
      | deq e => rw [hs] at e; exact absurd e (by decide)
      | off e => rw [hs] at e; exact absurd e (by decide)
      | dec0 e => rw [hs] at e; exact absurd e (by decide)
      | dec e => rw [hs] at e; exact absurd e (by decide)
      | del e => rw [hs] at e; exact absurd e (by decide)
      | mrg e => exact ⟨rfl, rfl⟩
    obtain ⟨rfl, rfl⟩ := h3
    refine ⟨fun y hy => ?_, ?_⟩
    · rcases List.mem_append.1 hy with hy | hy
      · exact i1 y hy
      · simp at hy; subst hy; rfl
    · rw [i2]; simp
theorem live_some (l : List Int) : live (l.map some) = l := by
  unfold live
  induction l with
  | nil => rfl
  | cons x l ih => simp
theorem flat_mk6 (l : List Sli) : (l.map mk6).flatMap (·.L) = all l := by
  unfold all
  induction l with
  | nil => rfl
  | cons x l ih => simp only [List.map_cons, List.flatMap_cons]; rw [ih]; rfl
theorem leaves6 (l : List Sli) : fh.Leaves (l.map mk6) (all l) := fun As S h => by
  obtain ⟨h1, h2⟩ := ran6 h (fun s hs => by obtain ⟨x, _, rfl⟩ := List.mem_map.1 hs; rfl)
  rw [flat_mk6] at h2
  exact ⟨h1, by rw [h2, live_some]⟩
/-- in the course of the loop -/
structure Col (w wr : World) (n : Nat) (l : List Sli) (k : Nat) (sa : Option Addr) (sc : Nat) (aa : Option Addr) (q ac : Nat) : Prop where
  st : OS 31 stc 4 wr sa k sc ((l.take k).map mk6)
  al : OL 3 iv wr aa q ac (all (l.take k))
  same : Same w wr
  new : ∀ j, At sa j ∨ At aa j → w.heap.size ≤ j
  dis : ∀ j, At aa j → ¬ At sa j
  small : ∀ s ∈ l.take k, s.m ≤ 10
  few : 0 < k → n ≤ 10
  tot : q ≤ 10 * k
set_option maxRecDepth 100000 in
set_option maxHeartbeats 3200000 in
theorem main (a : Option Addr) (n cap : Nat) (l : List Sli) (w : World) (h : RL slv w a n cap l) (hs : Slis w l) :
    Calls Try.prog 5 #[.slice a n cap] w fun e w' => e = .returned (.bool true) ∧ Below w.heap.size w w' := by
  have HR := Lib.hid h
  have HS := Lib.hid hs
  have HFT := Lib.hid (fits11 a n cap l w h)
  have hbd := h.bound
  have HB0 : Hid (Below w.heap.size w w) := Lib.hid (Only.below (Only.refl (fun _ => False) _) (Nat.le_refl _) (fun _ _ => id))
  clear h hs
  go_enter Try.func5, Try.ntmps5
  go_wp2_with fail
  refine HFT.out.mono ?_
  rintro e w1 ⟨b, rfl, rfl, hb⟩
  cases b with
  | false =>
    go_wp2_with fail
    go_ret
    exact ⟨rfl, HB0.out⟩
  | true =>
    have HM := Lib.hid (hb rfl)
    have HC0 : Hid (Col w w n l 0 none 0 none 0 0) := Lib.hid ⟨OS.nil _ _ _ _, OL.nil _ _ _, Only.refl _ _, fun j hj => hj.elim (fun h => h.elim) (fun h => h.elim), fun j hj => hj.elim, fun s hs => by simp at hs, fun h => absurd h (by omega), by omega⟩
    clear hb HFT
    go_wp2_with fail
    go_loopw [3, 4, 12] (fun s al i wr => ∃ (k : Nat) (sa : Option Addr) (sc : Nat) (aa : Option Addr) (q ac : Nat), s = .slice sa k sc ∧ al = .slice aa q ac ∧ i = .int .i64 (k : Int) ∧ k ≤ n ∧ Hid (Col w wr n l k sa sc aa q ac)) (fun _ _ i _ => n - (intOf i).toNat)
    case atStart => exact ⟨0, none, 0, none, 0, 0, rfl, rfl, rfl, Nat.zero_le _, HC0⟩
    case round =>
      clear HC0
      obtain ⟨k, sa, sc, aa, q, ac, rfl, rfl, rfl, hk, HC⟩ := hrel
      have hbs := HC.out.st.bound
      have hba := HC.out.al.bound
      have hqk := HC.out.tot
      by_cases hlt : k < n
      · have hlt' : (k : Int) < (n : Int) := by omega
        obtain ⟨s, hsk⟩ := HR.out.get hlt
        obtain ⟨b, off, ha, hb, hc⟩ := (HR.out.still HC.out.same).at (by omega)
        have c0 : wr.cell? ⟨b, off + k, none⟩ = some (.slice s.a s.m s.cap) := hc k s hsk
        have HSK := Lib.hid hsk
        have hsm := HM.out s (List.mem_of_getElem? hsk)
        have hkb : k ≤ 10 := by
          rcases Nat.eq_zero_or_pos k with h0 | h0
          · omega
          · have := HC.out.few h0; omega
        have HSL : Hid (∀ wx, Same wr wx → RL iv wx s.a s.m s.cap s.R) := Lib.hid (fun wx hx => (HS.out s (List.mem_of_getElem? HSK.out)).still (HC.out.same.trans hx))
        obtain ⟨XS, HXS⟩ : ∃ XS, Hid (((l.take k).map mk6).flatMap stc ++ [mk6 s].flatMap stc = XS) := ⟨_, Lib.hid rfl⟩
        obtain ⟨XI, HXI⟩ : ∃ XI, Hid ((all (l.take k)).map iv ++ s.R.map iv = XI) := ⟨_, Lib.hid rfl⟩
        subst ha
        clear hc hsk
        go_wp2_with (at_builtin; refine wpList_append (k + 1) XS rfl _ _ _ _ rfl slSt rfl (HC.out.st.1.keep (S := fun _ => False) (by repeat (first | exact Only.refl _ _ | apply Only.alloc | apply Only.drew)) (fun _ _ => id)) rfl (Src.row (size := 4) (cs := #[.int .i64 6, .int .i64 0, .int .i64 0, .slice s.a s.m s.cap]) (t := 31) (fr := (0, 0)) Try.underlying22 (by exact heap_alloc_new _ _) 1 1 rfl (by simp [Value.oneCell'])) rfl HXS.out (by unfold maxLen; omega) (by omega) ?_)
        intro sa2 sc2 w2 hG
        have hO2 : Only (At sa) wr w2 := Only.trans (S := At sa) ((Only.refl (At sa) wr).alloc _) hG.only (fun _ _ h => h)
        have HG := Lib.hid hG
        have HO2 := Lib.hid hO2
        have HAL : Hid (OL 3 iv w2 aa q ac (all (l.take k))) := Lib.hid (HC.out.al.keep hO2 (fun j hj => HC.out.dis j hj))
        have HSL2 : Hid (RL iv w2 s.a s.m s.cap s.R) := Lib.hid (rl_keep (HSL.out wr (Only.refl _ _)) hO2 (fun h0 j hj hj2 => by
          have h1 := rl_lt (HS.out s (List.mem_of_getElem? HSK.out)) h0 j hj
          have := HC.out.new j (.inl hj2)
          omega))
        clear hG hO2
        go_wp2_with (at_builtin; refine wpList_append (q + s.m) XI rfl _ _ _ _ rfl slI rfl HAL.out.1 rfl (HSL2.out.1.src Try.underlying29) rfl HXI.out (by unfold maxLen; omega) (by omega) ?_)
        intro aa2 ac2 w4 hG4
        have HG4 := Lib.hid hG4
        clear hG4
        have HX : Hid (OS 31 stc 4 w4 sa2 (k + 1) sc2 ((l.take (k + 1)).map mk6) ∧ OL 3 iv w4 aa2 (q + s.m) ac2 (all (l.take (k + 1))) ∧ Same w w4 ∧ (∀ j, At sa2 j ∨ At aa2 j → w.heap.size ≤ j) ∧ ∀ j, At aa2 j → ¬ At sa2 j) := Lib.hid (by
          have z0 := HC.out.same.size
          have z2 := HO2.out.size
          have hO4 : Only (At aa) w2 w4 := HG4.out.only
          have hsf : ∀ j, At sa2 j → At sa j ∨ wr.heap.size + 1 ≤ j := fun j hj => (HG.out.fresh j hj).imp id (fun h => by simpa using h)
          have haf : ∀ j, At aa2 j → At aa j ∨ w2.heap.size ≤ j := HG4.out.fresh
          have hal : ∀ j, At aa j → j < wr.heap.size := HC.out.al.1.lt
          have hsl : ∀ j, At sa j → j < wr.heap.size := HC.out.st.1.lt
          have h1 : OS 31 stc 4 w2 sa2 (k + 1) sc2 ((l.take (k + 1)).map mk6) := ⟨by rw [take_snoc l k s HSK.out, List.map_append, List.flatMap_append, List.map_singleton, HXS.out]; exact HG.out.own, by rw [List.length_map, List.length_take, HR.out.2]; omega⟩
          have h2 : OL 3 iv w4 aa2 (q + s.m) ac2 (all (l.take (k + 1))) := by
            have e : all (l.take (k + 1)) = all (l.take k) ++ s.R := by
              rw [take_snoc l k s HSK.out]
              unfold all
              rw [List.flatMap_append]
              simp
            rw [e]
            exact ⟨by rw [List.map_append, HXI.out]; exact HG4.out.own, by rw [List.length_append, HAL.out.2, HSL2.out.2]⟩
          refine ⟨h1.keep hO4 (fun j hj hja => ?_), h2, new_only (new_only HC.out.same HO2.out (fun j hj => HC.out.new j (.inl hj))) hO4 (fun j hj => HC.out.new j (.inr hj)), fun j hj => ?_, fun j hj hj2 => ?_⟩
          · rcases hsf j hj with h' | h'
            · exact HC.out.dis j hja h'
            · have := hal j hja; omega
          · rcases hj with hj | hj
            · rcases hsf j hj with h' | h'
              · exact HC.out.new j (.inl h')
              · omega
            · rcases haf j hj with h' | h'
              · exact HC.out.new j (.inr h')
              · omega
          · have hlt2 := h1.1.lt j hj2
            rcases haf j hj with h' | h'
            · rcases hsf j hj2 with h'' | h''
              · exact HC.out.dis j h' h''
              · have := hal j h'; omega
            · omega)
        have HBW : Hid (Below w.heap.size w w4) := Lib.hid (Only.below HX.out.2.2.1 (Nat.le_refl _) (fun _ _ => id))
        by_cases h10 : (10 : Int) < (s.m : Int)
        · clear HG HG4 HC HX
          go_wp2_with fail
          go_ret
          exact ⟨rfl, HBW.out⟩
        · by_cases hn10 : (10 : Int) < (n : Int)
          · clear HG HG4 HC HX
            go_wp2_with fail
            go_ret
            exact ⟨rfl, HBW.out⟩
          · have HC2 : Hid (Col w w4 n l (k + 1) sa2 sc2 aa2 (q + s.m) ac2) := Lib.hid ⟨HX.out.1, HX.out.2.1, HX.out.2.2.1, HX.out.2.2.2.1, HX.out.2.2.2.2, fun t ht => by
              rw [take_snoc l k s HSK.out] at ht
              rcases List.mem_append.1 ht with ht | ht
              · exact HC.out.small t ht
              · simp at ht; subst ht; omega, fun _ => by omega, by omega⟩
            clear HG HG4 HC HX
            go_wp2_with fail
            go_roundw
            case rel => exact ⟨k + 1, sa2, sc2, aa2, q + s.m, ac2, rfl, rfl, by go_num, by omega, HC2⟩
            case measure => simp [intOf]; omega
      · have hlt' : ¬ (k : Int) < (n : Int) := by omega
        obtain rfl : k = n := by omega
        have hlk : l.take k = l := List.take_of_length_le (by rw [HR.out.2]; exact Nat.le_refl _)
        have HLK := Lib.hid hlk
        have HBW : Hid (Below w.heap.size w wr) := Lib.hid (Only.below HC.out.same (Nat.le_refl _) (fun _ _ => id))
        have HPR : Hid (Calls Try.prog 10 #[.slice aa q ac, .int .i64 (-1099511627776)] wr fun e w' => e = .returned (.bool (prioOk (all l) (-1099511627776))) ∧ wr = w') := Lib.hid (prio aa q ac (all l) _ wr (by rw [← hlk]; exact HC.out.al.rl))
        clear hlk
        cases hp : prioOk (all l) (-1099511627776) with
        | false =>
          rw [hp] at HPR
          clear hp
          go_wp2_with fail
          refine HPR.out.mono ?_
          rintro e w5 ⟨rfl, rfl⟩
          go_wp2_with fail
          go_ret
          exact ⟨rfl, HBW.out⟩
        | true =>
          rw [hp] at HPR
          have HSO : Hid (Calls Try.prog 12 #[.slice sa k sc, .slice aa q ac] wr fun e w' => e = .returned (.bool true) ∧ Only (At sa) wr w') := Lib.hid (by
            have hst := HC.out.st
            have hal := HC.out.al
            have hsm := HC.out.small
            rw [HLK.out] at hst hal hsm
            have hk10 : k ≤ 10 := by
              rcases Nat.eq_zero_or_pos k with h0 | h0
              · omega
              · have := HC.out.few h0; omega
            refine fhSorted sa k sc (l.map mk6) aa q ac (all l) wr hst hal.rl (by omega) (by omega) (fun s hs => ?_) (fun _ j hj => HC.out.dis j hj) (leaves6 l)
            obtain ⟨t, ht, rfl⟩ := List.mem_map.1 hs
            have h1 := HS.out t ht
            refine ⟨⟨by show (1 : Int) ≤ 6 ∧ (6 : Int) ≤ 6; omega, by show Int.natAbs 0 ≤ _; simp [Big], by have := hsm t ht; show t.m ≤ 40; omega, h1.2, fun p hp' => ?_⟩, h1.still HC.out.same, fun h0 j hj hj2 => ?_⟩
            · have := prio_mem hp p (List.mem_flatMap.2 ⟨t, ht, hp'⟩)
              unfold Big; omega
            · have := rl_lt h1 h0 j hj
              have := HC.out.new j (.inl hj2)
              omega)
          have HNW : Hid (∀ j, At sa j → w.heap.size ≤ j) := Lib.hid (fun j hj => HC.out.new j (.inl hj))
          have HSM : Hid (Same w wr) := Lib.hid HC.out.same
          clear hp HC
          go_wp2_with fail
          refine HPR.out.mono ?_
          rintro e w5 ⟨rfl, rfl⟩
          go_wp2_with fail
          refine HSO.out.mono ?_
          rintro e w6 ⟨rfl, ho⟩
          have HF : Hid (Below w.heap.size w w6) := Lib.hid (Only.below (new_only HSM.out ho HNW.out) (Nat.le_refl _) (fun _ _ => id))
          clear ho
          go_wp2_with fail
          go_ret
          exact ⟨rfl, HF.out⟩
theorem walk (W : World) (v0 : Value) (r0 : Reads Try.prog W 42 v0) :
    Calls Try.prog 5 #[v0] W fun e w' => e = .returned (.bool true) ∧ Below W.heap.size W w' := by
  obtain ⟨a, n, cap, l, rfl, h, hs⟩ := read_lists r0
  exact main a n cap l W h hs
end Go.Proofs.Ytpddddjfjmipfaa.walkFnFHMerged
