/-
  FnFHRuns: the walk.
-/
import Derived.Test.YtpddddjfjmipfaaFhStepS
import Derived.Test.YtpddddjfjmipfaaFhFew
namespace Go.Proofs.Ytpddddjfjmipfaa.walkFnFHRuns
open Go.RowKit Go.Proofs.Ytpddddjfjmipfaa.base Go.Proofs.Ytpddddjfjmipfaa.heap Go.Proofs.Ytpddddjfjmipfaa.rows Go.Proofs.Ytpddddjfjmipfaa.flt Go.Proofs.Ytpddddjfjmipfaa.fh
set_option linter.unusedVariables false

/-- the states of a run -/
theorem ran_states {l : List Stp} {As : List An} {S : Pris} (h : Ran l As S) : ∃ Ss : Nat → Pris, Ss 0 = [] ∧ Ss l.length = S ∧ As.length = l.length ∧ ∀ k s, l[k]? = some s → ∃ x, As[k]? = some (full x (Ss (k + 1))) ∧ Stepd (Ss k) s x (Ss (k + 1)) := by
  induction h with
  | nil => exact ⟨fun _ => [], rfl, rfl, rfl, fun k s hk => by simp at hk⟩
  | @snoc l As S s x S' h1 h2 ih =>
    obtain ⟨Ss, i0, i1, i2, i3⟩ := ih
    refine ⟨fun k => if k ≤ l.length then Ss k else S', by simp [i0], by simp; omega, by simp [i2], fun k t hk => ?_⟩
    by_cases hkl : k < l.length
    · rw [List.getElem?_append_left hkl] at hk
      obtain ⟨y, h3, h4⟩ := i3 k t hk
      refine ⟨y, ?_, ?_⟩
      · rw [List.getElem?_append_left (by omega)]
        show As[k]? = some (full y (if k + 1 ≤ l.length then Ss (k + 1) else S'))
        rw [if_pos (by omega)]; exact h3
      · show Stepd (if k ≤ l.length then Ss k else S') t y (if k + 1 ≤ l.length then Ss (k + 1) else S')
        rw [if_pos (by omega), if_pos (by omega)]; exact h4
    · have hk2 : k = l.length := by
        have := (List.getElem?_eq_some_iff.1 hk).1
        rw [List.length_append] at this
        simp at this
        omega
      subst hk2
      rw [List.getElem?_append_right (Nat.le_refl _), Nat.sub_self] at hk
      simp at hk
      subst hk
      refine ⟨x, ?_, ?_⟩
      · rw [List.getElem?_append_right (by omega), i2, Nat.sub_self]
        show _ = some (full x (if l.length + 1 ≤ l.length then Ss (l.length + 1) else S'))
        rw [if_neg (by omega)]; rfl
      · show Stepd (if l.length ≤ l.length then Ss l.length else S') s x (if l.length + 1 ≤ l.length then _ else S')
        rw [if_pos (Nat.le_refl _), if_neg (by omega), i1]; exact h2
theorem states_len {l : List Stp} {Ss : Nat → Pris} {As : List An} (ho : ∀ s ∈ l, Okay s) (h0 : Ss 0 = []) (h : ∀ k s, l[k]? = some s → ∃ x, As[k]? = some (full x (Ss (k + 1))) ∧ Stepd (Ss k) s x (Ss (k + 1))) : ∀ k, k ≤ l.length → (Ss k).length ≤ k * 41
  | 0, _ => by rw [h0]; exact Nat.zero_le _
  | k + 1, hk => by
    have ih := states_len ho h0 h k (by omega)
    obtain ⟨x, _, h2⟩ := h k l[k] (List.getElem?_eq_getElem (by omega))
    have := h2.len (ho _ (List.getElem_mem ..))
    rw [Nat.add_mul]
    omega
theorem cnt_le (S : Pris) : cnt S ≤ S.length := List.length_filter_le _ _
theorem fine_ok {W : World} {s : Stp} (h : Fine s) (hl : RL iv W s.a s.m s.cap s.L) : Okay s :=
  ⟨h.op, by unfold Big; have := h.p; omega, by have := h.m; omega, hl.2, fun p hp => by unfold Big; have := h.L p hp; omega⟩
/-- in the course of the law's loop -/
structure Lp (w2 wr : World) (hb : Nat) (S : Pris) (a : Option Addr) (n c : Nat) : Prop where
  only : Only (fun k => k = hb) w2 wr
  obj : wr.heap[hb]? = some (.cells #[.slice a n c, .int .i64 (S.length : Int)] 28 (0, 0))
  row : RE wr a n c (ents 0 S)
  off : ∀ j, At a j → j ≠ hb
set_option maxRecDepth 100000 in
set_option maxHeartbeats 6400000 in
theorem main (a : Option Addr) (n cap : Nat) (l : List Stp) (w : World) (h : RS stc 4 w a n cap l) (hs : Oth w l) :
    Calls Try.prog 3 #[.slice a n cap] w fun e w' => e = .returned (.bool true) ∧ Below w.heap.size w w' := by
  have HR := Lib.hid h
  have HO := Lib.hid hs
  have HFT := Lib.hid (fits9 a n cap l w h)
  have hbd := h.bound
  have HBW : Hid (∀ wx, Same w wx → Below w.heap.size w wx) := Lib.hid (fun wx hx => Only.below hx (Nat.le_refl _) (fun _ _ => id))
  clear h hs
  go_enter Try.func3, Try.ntmps3
  go_wp2_with fail
  refine HFT.out.mono ?_
  rintro e w1 ⟨b, rfl, hs1, hb1⟩
  have HS1 := Lib.hid hs1
  clear HFT hs1
  cases b with
  | false =>
    go_wp2_with fail
    go_ret
    exact ⟨rfl, HBW.out _ HS1.out⟩
  | true =>
    have hn2 := hb1 rfl
    have HFW := Lib.hid (few a n cap l w1 (HR.out.still HS1.out) (fun s hs => (HO.out s hs).still HS1.out))
    clear hb1
    go_wp2_with fail
    refine HFW.out.mono ?_
    rintro e w3 ⟨b, rfl, hs3, hb3⟩
    have HS3 := Lib.hid (HS1.out.trans hs3)
    clear HFW hs3 HS1
    cases b with
    | false =>
      go_wp2_with fail
      go_ret
      exact ⟨rfl, HBW.out _ HS3.out⟩
    | true =>
      obtain ⟨hn60, hfine⟩ := hb3 rfl
      have HF := Lib.hid hfine
      have HOK : Hid (∀ s ∈ l, Okay s) := Lib.hid (fun s hs => fine_ok (HF.out s hs) (HO.out s hs))
      have HRUN := Lib.hid (fhRun a n cap l w3 (HR.out.still HS3.out) (by omega) (fun s hs => ⟨HOK.out s hs, (HO.out s hs).still HS3.out⟩))
      clear hb3 hfine HF
      go_wp2_with fail
      refine HRUN.out.mono ?_
      rintro e w4 ⟨oa, oc, As, S, rfl, hrs, hnew, hran, hs4⟩
      obtain ⟨Ss, i0, i1, i2, i3⟩ := ran_states hran
      have HI := Lib.hid i3
      have HLEN : Hid (∀ k, k ≤ n → (Ss k).length ≤ 2460) := Lib.hid (fun k hk => by
        have := states_len HOK.out i0 i3 k (by rw [HR.out.2]; exact hk)
        omega)
      have HRS := Lib.hid hrs
      have HS4 := Lib.hid (HS3.out.trans hs4)
      have HI0 := Lib.hid i0
      have hbo := hrs.bound
      clear hrs hnew hran hs4 i0 i1 i2 i3 HRUN HS3
      go_wp2_with fail
      obtain ⟨w5, hw5⟩ : ∃ w5, w4.alloc (.cells #[.slice none 0 0, .int .i64 0] 28) = w5 := ⟨_, rfl⟩
      obtain ⟨hb, hhb⟩ : ∃ hb, w4.heap.size = hb := ⟨_, rfl⟩
      have HHB := Lib.hid hhb
      have HS5 : Hid (Same w4 w5) := Lib.hid (by rw [← hw5]; exact (Only.refl _ _).alloc _)
      have HL0 : Hid (Lp w5 w5 hb (Ss 0) none 0 0) := Lib.hid ⟨Only.refl _ _, by rw [← hw5, ← hhb, HI0.out]; exact heap_alloc_new _ _, by rw [HI0.out]; exact RS.nil _ _ _, fun j hj => hj.elim⟩
      rw [hw5]
      simp only [hhb]
      clear hw5 hhb
      go_loopw [25] (fun i wr => ∃ (k : Nat) (a' : Option Addr) (n' c' : Nat), i = .int .i64 (k : Int) ∧ k ≤ n ∧ Hid (Lp w5 wr hb (Ss k) a' n' c')) (fun i _ => n - (intOf i).toNat)
      case atStart => exact ⟨0, none, 0, 0, rfl, Nat.zero_le _, HL0⟩
      case round =>
        clear HL0
        obtain ⟨k, a', n', c', rfl, hk, HL⟩ := hrel
        by_cases hlt : k < n
        · have hlt' : (k : Int) < (n : Int) := by omega
          obtain ⟨s, hsk⟩ := HR.out.get hlt
          obtain ⟨x, hxk, hst⟩ := HI.out k s hsk
          obtain ⟨b, off, ha, hb0, hc⟩ := HR.out.at stc_len (by omega)
          obtain ⟨bo, off2, hoa, hbo0, hco⟩ := HRS.out.at anc_len (by omega)
          have hz4 := HS4.out.size
          have hz5 := HHB.out
          have hO : Only (fun k => k = hb) w4 wr := Only.trans (HS5.out.mono (fun _ _ f => f.elim)) HL.out.only (fun _ _ h => h)
          have hOw : Only (fun k => k = hb) w wr := Only.trans (HS4.out.mono (fun _ _ f => f.elim)) hO (fun _ _ h => h)
          have hcw : ∀ j v, (stc s)[j]? = some v → wr.cell? ⟨b, off + k * 4 + j, none⟩ = some v := fun j v hj => (hOw.cell (p := ⟨b, off + k * 4 + j, none⟩) hb0 (by show ¬ b = hb; omega)).trans (hc k s hsk j v hj)
          have hcx : ∀ j v, (anc (full x (Ss (k + 1))))[j]? = some v → wr.cell? ⟨bo, off2 + k * 5 + j, none⟩ = some v := fun j v hj => (hO.cell (p := ⟨bo, off2 + k * 5 + j, none⟩) hbo0 (by show ¬ bo = hb; omega)).trans (hco k _ hxk j v hj)
          obtain ⟨q, hq⟩ : ∃ q, cnt (Ss (k + 1)) = q := ⟨_, rfl⟩
          obtain ⟨em, hem⟩ : ∃ em, (q == 0) = em := ⟨_, rfl⟩
          have c0 : wr.cell? ⟨b, off + k * 4, none⟩ = some (.int .i64 s.op) := hcw 0 _ rfl
          have c1 : wr.cell? ⟨b, off + k * 4 + 1, none⟩ = some (.int .i64 s.n) := hcw 1 _ rfl
          have c2 : wr.cell? ⟨b, off + k * 4 + 2, none⟩ = some (.int .i64 s.p) := hcw 2 _ rfl
          have c3 : wr.cell? ⟨b, off + k * 4 + 3, none⟩ = some (.slice s.a s.m s.cap) := hcw 3 _ rfl
          have HBL := Lib.hid (And.intro (show bo < wr.heap.size by have := hO.size; omega) (lt_of_heap HL.out.obj))
          have HCX : Hid (∀ wx, Same wr wx → wx.cell? ⟨bo, off2 + k * 5, none⟩ = some (.bool x.is) ∧ wx.cell? ⟨bo, off2 + k * 5 + 1, none⟩ = some (.int .i64 x.ent) ∧ wx.cell? ⟨bo, off2 + k * 5 + 2, none⟩ = some (.int .i64 x.p) ∧ wx.cell? ⟨bo, off2 + k * 5 + 3, none⟩ = some (.int .i64 (q : Int)) ∧ wx.cell? ⟨bo, off2 + k * 5 + 4, none⟩ = some (.bool em)) := Lib.hid (fun wx hx => by
            have hk' : ∀ j v, (anc (full x (Ss (k + 1))))[j]? = some v → wx.cell? ⟨bo, off2 + k * 5 + j, none⟩ = some v := fun j v hj => (hx.cell (p := ⟨bo, off2 + k * 5 + j, none⟩) HBL.out.1 id).trans (hcx j v hj)
            refine ⟨hk' 0 _ rfl, hk' 1 _ rfl, hk' 2 _ rfl, ?_, ?_⟩
            · rw [← hq]; exact hk' 3 _ rfl
            · rw [← hem, ← hq]; exact hk' 4 _ rfl)
          obtain ⟨ml, hml⟩ : ∃ ml, (Ss k).length = ml := ⟨_, rfl⟩
          obtain ⟨ml', hml'⟩ : ∃ ml, (Ss (k + 1)).length = ml := ⟨_, rfl⟩
          obtain ⟨L', hL'⟩ : ∃ L, ents 0 (Ss (k + 1)) = L := ⟨_, rfl⟩
          have HML := Lib.hid (And.intro hml' hL')
          have HD : Hid (∀ wx, Same wr wx → Calls Try.prog 9 #[hv a' n' c' ml, .agg #[.int .i64 s.op, .int .i64 s.n, .int .i64 s.p, .slice s.a s.m s.cap], .agg #[.bool x.is, .int .i64 x.ent, .int .i64 x.p, .int .i64 (q : Int), .bool em]] wx (StP a' L' ml' wx)) := Lib.hid (fun wx hx => by
            have h1 := HLEN.out k hk
            have h2 := HL.out.row.2
            rw [ents_len] at h2
            have h3 := cnt_le (Ss k)
            have h5 := HO.out s (List.mem_of_getElem? hsk)
            have h6 := (HOK.out s (List.mem_of_getElem? hsk)).m
            have h4 := stepS hst a' n' c' wx (HL.out.row.still hx) (by omega) (by omega) ((rl_keep h5 hOw (fun h0 j hj e => by have := rl_lt h5 h0 j hj; have e' : j = hb := e; omega)).still hx) h6
            rw [hml, hml', hL', hq, hem] at h4
            exact h4)
          have HHX : Hid (∀ wx, Same wr wx → wx.heap[hb]? = some (.cells #[.slice a' n' c', .int .i64 (ml : Int)] 28 (0, 0))) := Lib.hid (fun wx hx => by rw [← hml]; exact hx.obj HL.out.obj id)
          have hbs := (HO.out s (List.mem_of_getElem? hsk)).bound
          have hbn := HL.out.row.bound
          subst ha
          subst hoa
          clear hc hco hcw hcx hst hxk hsk hq hem hml hml' hL' hO hOw hz5
          go_upto_region 12 with fail
          obtain ⟨g6, hg6⟩ : ∃ g6, wr.heap.size = g6 := ⟨_, rfl⟩
          obtain ⟨w6, hw6⟩ : ∃ w6, wr.alloc (.cells #[.int .i64 s.op, .int .i64 s.n, .int .i64 s.p, .slice s.a s.m s.cap] 31) = w6 := ⟨_, rfl⟩
          have HS6 : Hid (Same wr w6) := Lib.hid (by rw [← hw6]; exact (Only.refl _ _).alloc _)
          have HB6 : Hid (w6.heap[g6]? = some (.cells #[.int .i64 s.op, .int .i64 s.n, .int .i64 s.p, .slice s.a s.m s.cap] 31 (0, 0))) := Lib.hid (by rw [← hw6, ← hg6]; exact heap_alloc_new _ _)
          rw [hw6]
          simp only [hg6]
          clear hw6 hg6 c0 c1 c2 c3
          have HSX : Hid (∀ wx, Same w6 wx → wx.cell? ⟨hb, 0, none⟩ = some (.slice a' n' c') ∧ wx.cell? ⟨hb, 1, none⟩ = some (.int .i64 (ml : Int)) ∧ wx.cell? ⟨g6, 0, none⟩ = some (.int .i64 s.op) ∧ wx.cell? ⟨g6, 1, none⟩ = some (.int .i64 s.n) ∧ wx.cell? ⟨g6, 2, none⟩ = some (.int .i64 s.p) ∧ wx.cell? ⟨g6, 3, none⟩ = some (.slice s.a s.m s.cap) ∧ wx.cell? ⟨bo, off2 + k * 5, none⟩ = some (.bool x.is) ∧ wx.cell? ⟨bo, off2 + k * 5 + 1, none⟩ = some (.int .i64 x.ent) ∧ wx.cell? ⟨bo, off2 + k * 5 + 2, none⟩ = some (.int .i64 x.p) ∧ wx.cell? ⟨bo, off2 + k * 5 + 3, none⟩ = some (.int .i64 (q : Int)) ∧ wx.cell? ⟨bo, off2 + k * 5 + 4, none⟩ = some (.bool em)) := Lib.hid (fun wx hx => by
            have h1 := HHX.out wx (HS6.out.trans hx)
            have h2 := hx.obj HB6.out id
            exact ⟨block_cell h1 rfl, block_cell h1 rfl, block_cell h2 rfl, block_cell h2 rfl, block_cell h2 rfl, block_cell h2 rfl, HCX.out wx (HS6.out.trans hx)⟩)
          have HSB : Hid (∀ wx, Same w6 wx → ∀ v v', ((wx.setCell ⟨w6.heap.size, 0, none⟩ v).setCell ⟨w6.heap.size, 1, none⟩ v').cell? ⟨hb, 0, none⟩ = some (.slice a' n' c') ∧ ((wx.setCell ⟨w6.heap.size, 0, none⟩ v).setCell ⟨w6.heap.size, 1, none⟩ v').cell? ⟨hb, 1, none⟩ = some (.int .i64 (ml : Int)) ∧ ((wx.setCell ⟨w6.heap.size, 0, none⟩ v).setCell ⟨w6.heap.size, 1, none⟩ v').cell? ⟨g6, 0, none⟩ = some (.int .i64 s.op) ∧ ((wx.setCell ⟨w6.heap.size, 0, none⟩ v).setCell ⟨w6.heap.size, 1, none⟩ v').cell? ⟨g6, 1, none⟩ = some (.int .i64 s.n) ∧ ((wx.setCell ⟨w6.heap.size, 0, none⟩ v).setCell ⟨w6.heap.size, 1, none⟩ v').cell? ⟨g6, 2, none⟩ = some (.int .i64 s.p) ∧ ((wx.setCell ⟨w6.heap.size, 0, none⟩ v).setCell ⟨w6.heap.size, 1, none⟩ v').cell? ⟨g6, 3, none⟩ = some (.slice s.a s.m s.cap) ∧ ((wx.setCell ⟨w6.heap.size, 0, none⟩ v).setCell ⟨w6.heap.size, 1, none⟩ v').cell? ⟨bo, off2 + k * 5, none⟩ = some (.bool x.is) ∧ ((wx.setCell ⟨w6.heap.size, 0, none⟩ v).setCell ⟨w6.heap.size, 1, none⟩ v').cell? ⟨bo, off2 + k * 5 + 1, none⟩ = some (.int .i64 x.ent) ∧ ((wx.setCell ⟨w6.heap.size, 0, none⟩ v).setCell ⟨w6.heap.size, 1, none⟩ v').cell? ⟨bo, off2 + k * 5 + 2, none⟩ = some (.int .i64 x.p) ∧ ((wx.setCell ⟨w6.heap.size, 0, none⟩ v).setCell ⟨w6.heap.size, 1, none⟩ v').cell? ⟨bo, off2 + k * 5 + 3, none⟩ = some (.int .i64 (q : Int)) ∧ ((wx.setCell ⟨w6.heap.size, 0, none⟩ v).setCell ⟨w6.heap.size, 1, none⟩ v').cell? ⟨bo, off2 + k * 5 + 4, none⟩ = some (.bool em)) := Lib.hid (fun wx hx v v' => HSX.out _ (Only.setCell (Only.setCell hx ⟨w6.heap.size, 0, none⟩ v (fun h => absurd h (Nat.lt_irrefl _))) ⟨w6.heap.size, 1, none⟩ v' (fun h => absurd h (Nat.lt_irrefl _))))
          have HD6 : Hid (∀ wx, Same w6 wx → Calls Try.prog 9 #[hv a' n' c' ml, .agg #[.int .i64 s.op, .int .i64 s.n, .int .i64 s.p, .slice s.a s.m s.cap], .agg #[.bool x.is, .int .i64 x.ent, .int .i64 x.p, .int .i64 (q : Int), .bool em]] wx (StP a' L' ml' wx)) := Lib.hid (fun wx hx => HD.out wx (HS6.out.trans hx))
          have HNB : Hid (∀ wx, Same (w6.alloc (.cells #[.slice none 0 0, .int .i64 0] 28)) wx → wx.heap[w6.heap.size]? = some (.cells #[.slice none 0 0, .int .i64 0] 28 (0, 0))) := Lib.hid (fun wx hx => hx.obj (heap_alloc_new _ _) id)
          go_cut [7, 8] (fun p v wx => v = .bool true ∧ ∃ (g : Nat) (a2 : Option Addr) (n2 c2 : Nat), p = .pointer (some ⟨g, 0, none⟩) ∧ Hid (wx.heap[g]? = some (.cells #[.slice a2 n2 c2, .int .i64 (ml' : Int)] 28 (0, 0)) ∧ RE wx a2 n2 c2 L' ∧ Same w6 wx ∧ (∀ j, At a2 j → At a' j ∨ w6.heap.size ≤ j) ∧ w6.heap.size ≤ g))
          case first =>
            obtain ⟨a0, a1, b0, b1, b2, b3, x0, x1, x2, x3, x4⟩ := HSX.out w6 (Only.refl _ _)
            have lg6 := lt_of_heap HB6.out
            have lgb := Nat.lt_of_lt_of_le HBL.out.2 HS6.out.size
            have lgo := Nat.lt_of_lt_of_le HBL.out.1 HS6.out.size
            clear HR HO HBW HOK HLEN HI HRS HS4 HI0 HHB HS5 HL HBL HCX HML HD HHX HS6 HB6 hn60 hn2 hz4
            go_region_held3 (fun w' => w'.cell? ⟨hb, 0, none⟩ = some (.slice a' n' c') ∧ w'.cell? ⟨hb, 1, none⟩ = some (.int .i64 (ml : Int)) ∧ w'.cell? ⟨g6, 0, none⟩ = some (.int .i64 s.op) ∧ w'.cell? ⟨g6, 1, none⟩ = some (.int .i64 s.n) ∧ w'.cell? ⟨g6, 2, none⟩ = some (.int .i64 s.p) ∧ w'.cell? ⟨g6, 3, none⟩ = some (.slice s.a s.m s.cap) ∧ w'.cell? ⟨bo, off2 + k * 5, none⟩ = some (.bool x.is) ∧ w'.cell? ⟨bo, off2 + k * 5 + 1, none⟩ = some (.int .i64 x.ent) ∧ w'.cell? ⟨bo, off2 + k * 5 + 2, none⟩ = some (.int .i64 x.p) ∧ w'.cell? ⟨bo, off2 + k * 5 + 3, none⟩ = some (.int .i64 (q : Int)) ∧ w'.cell? ⟨bo, off2 + k * 5 + 4, none⟩ = some (.bool em))
              (first
              | (with_reducible exact HSX.out _ (Only.drew (Only.refl _ _)))
              | (with_reducible exact HSX.out _ (Only.drew (Only.alloc (Only.refl _ _) _)))
              | (with_reducible exact HSX.out _ HX7.out.2.1)
              | (with_reducible exact HSX.out _ (Only.alloc HX7.out.2.1 _))
              | (with_reducible exact HSB.out _ HX7.out.2.1 _ _)
              | fail)
              (first
              | (go_at_call 9; (with_reducible refine (HD6.out _ (Only.drew (Only.refl _ _))).mono ?_); rintro e w7 ⟨a7, n7, c7, rfl, hr7, hs7, hn7⟩; have HX7 : Hid (RE w7 a7 n7 c7 L' ∧ Same w6 w7 ∧ ∀ j, At a7 j → At a' j ∨ w6.heap.size ≤ j) := Lib.hid ⟨hr7, (Only.drew (Only.refl (fun _ => False) w6)).trans hs7 (fun _ _ h => h), hn7⟩; clear hr7 hs7 hn7)
              | (go_at_call 9; (with_reducible refine (HD6.out _ (Only.drew (Only.alloc (Only.refl _ _) _))).mono ?_); rintro e w7 ⟨a7, n7, c7, rfl, hr7, hs7, hn7⟩; have HX7 : Hid (RE w7 a7 n7 c7 L' ∧ Same w6 w7 ∧ ∀ j, At a7 j → At a' j ∨ w6.heap.size + 1 ≤ j) := Lib.hid ⟨hr7, (Only.drew (Only.alloc (Only.refl (fun _ => False) w6) _)).trans hs7 (fun _ _ h => h), fun j hj => (hn7 j hj).imp id (fun h => by simpa using h)⟩; have HN7 := Lib.hid (HNB.out w7 (Only.undrew hs7)); clear hr7 hs7 hn7; have n0 : w7.cell? ⟨w6.heap.size, 0, none⟩ = some (.slice none 0 0) := block_cell HN7.out rfl; have n1 : w7.cell? ⟨w6.heap.size, 1, none⟩ = some (.int .i64 0) := block_cell HN7.out rfl; have n2 : ∀ i, w7.frozen? ⟨w6.heap.size, i, none⟩ = false := fun i => block_free HN7.out; have n3 : w6.heap.size < w7.heap.size := lt_of_heap HN7.out)
              | fail)
            all_goals
              go_wp2_with fail
              go_meet
              first
              | exact ⟨rfl, w7.heap.size, a7, n7, c7, rfl, Lib.hid ⟨heap_alloc_new _ _, HX7.out.1.still ((Only.refl _ _).alloc _), HX7.out.2.1.alloc _, HX7.out.2.2, HX7.out.2.1.size⟩⟩
              | exact ⟨rfl, w6.heap.size, a7, n7, c7, rfl, Lib.hid ⟨setCell_heap (setCell_heap HN7.out 0 _) 1 _, RE_keep0 HX7.out.1 (Only.setCell (Only.setCell (Only.refl (fun k => k = w6.heap.size) w7) ⟨w6.heap.size, 0, none⟩ _ (fun _ => rfl)) ⟨w6.heap.size, 1, none⟩ _ (fun _ => rfl)) (fun h0 j hj e => RE_not HX7.out.1 h0 HN7.out j hj e), Only.setCell (Only.setCell HX7.out.2.1 ⟨w6.heap.size, 0, none⟩ _ (fun h => absurd h (Nat.lt_irrefl _))) ⟨w6.heap.size, 1, none⟩ _ (fun h => absurd h (Nat.lt_irrefl _)), fun j hj => (HX7.out.2.2 j hj).imp id (fun h => by omega), Nat.le_refl _⟩⟩
          case rest =>
            obtain ⟨rfl, g7, a7, n7, c7, rfl, HF⟩ := hcut
            obtain ⟨w8, hw8⟩ : ∃ w8, w8 = wc := ⟨_, rfl⟩
            rw [← hw8] at HF ⊢
            have HH8 := Lib.hid (HHX.out w8 (HS6.out.trans HF.out.2.2.1))
            have d0 : w8.cell? ⟨g7, 0, none⟩ = some (.slice a7 n7 c7) := block_cell HF.out.1 rfl
            have d1 : w8.cell? ⟨g7, 1, none⟩ = some (.int .i64 (ml' : Int)) := block_cell HF.out.1 rfl
            have e0 : w8.cell? ⟨hb, 0, none⟩ = some (.slice a' n' c') := block_cell HH8.out rfl
            have e1 : w8.cell? ⟨hb, 1, none⟩ = some (.int .i64 (ml : Int)) := block_cell HH8.out rfl
            have e2 : ∀ i, w8.frozen? ⟨hb, i, none⟩ = false := fun i => block_free HH8.out
            have e3 : hb < w8.heap.size := lt_of_heap HH8.out
            have hlow : ∀ j, At a7 j → j ≠ hb := fun j hj e => by
              rcases HF.out.2.2.2.1 j hj with h | h
              · exact HL.out.off j h e
              · have := HBL.out.2; have := HS6.out.size; omega
            have HLOW := Lib.hid hlow
            clear hw8 hlow
            go_wp2_with fail
            go_roundw
            case rel =>
              refine ⟨k + 1, a7, n7, c7, by go_num, by omega, Lib.hid ?_⟩
              have ho : Only (fun k => k = hb) w8 ((w8.setCell ⟨hb, 0, none⟩ (.slice a7 n7 c7)).setCell ⟨hb, 1, none⟩ (.int .i64 (ml' : Int))) := Only.setCell (Only.setCell (Only.refl (fun k => k = hb) w8) ⟨hb, 0, none⟩ _ (fun _ => rfl)) ⟨hb, 1, none⟩ _ (fun _ => rfl)
              refine ⟨HL.out.only.trans (((HS6.out.trans HF.out.2.2.1).mono (fun _ _ f => f.elim)).trans ho (fun _ _ h => h)) (fun _ _ h => h), ?_, ?_, HLOW.out⟩
              · rw [HML.out.1]; exact setCell_heap (setCell_heap HH8.out 0 _) 1 _
              · rw [HML.out.2]; exact HF.out.2.1.keep ho (fun j hj e => HLOW.out j hj e)
            case measure => simp [intOf]; omega
        · have hlt' : ¬ (k : Int) < (n : Int) := by omega
          go_wp2_with fail
          go_ret
          have h1 : Only (fun k => k = hb) w wr := Only.trans (HS4.out.mono (fun _ _ f => f.elim)) (Only.trans (S := fun k => k = hb) (HS5.out.mono (fun _ _ f => f.elim)) HL.out.only (fun _ _ h => h)) (fun _ _ h => h)
          exact ⟨rfl, Only.below h1 (Nat.le_refl _) (fun j hj e => by have := HS4.out.size; have := HHB.out; have e' : j = hb := e; omega)⟩
theorem walk (W : World) (v0 : Value) (r0 : Reads Try.prog W 22 v0) :
    Calls Try.prog 3 #[v0] W fun e w' => e = .returned (.bool true) ∧ Below W.heap.size W w' := by
  obtain ⟨a, n, cap, l, rfl, h, hs⟩ := read_steps r0
  exact main a n cap l W h hs
end Go.Proofs.Ytpddddjfjmipfaa.walkFnFHRuns
