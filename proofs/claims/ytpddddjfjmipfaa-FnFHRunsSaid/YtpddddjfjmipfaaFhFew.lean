/-
  fhFew, zzFits9; steps that are read.
-/
import Derived.Test.YtpddddjfjmipfaaFhPri
namespace Go.Proofs.Ytpddddjfjmipfaa.fh
open Go.ChangeShapes Go.WideShapes Go.ChangeAt Go.RowKit Go.Proofs.Ytpddddjfjmipfaa.base Go.Proofs.Ytpddddjfjmipfaa.heap Go.Proofs.Ytpddddjfjmipfaa.rows Go.Proofs.Ytpddddjfjmipfaa.flt
set_option linter.unusedVariables false

/-- the lists of the steps -/
def Oth (W : World) (l : List Stp) : Prop := ∀ s ∈ l, RL iv W s.a s.m s.cap s.L
set_option maxRecDepth 100000 in
theorem read_steps {W : World} {v : Value} (h : Reads Try.prog W 22 v) : ∃ (a : Option Addr) (n cap : Nat) (l : List Stp), v = .slice a n cap ∧ RS stc 4 W a n cap l ∧ Oth W l := by
  obtain ⟨a, n, cap, l, rfl, h, hs⟩ := T.slice (c := stc) (K := 4) (fun s : Stp => RL iv W s.a s.m s.cap s.L) stc_len stc_one (by omega) Try.underlying22 (by kernel_rfl) (fun cs hl ht => by
    match cs, hl with
    | [v0, v1, v2, v3], _ =>
      have h0 := ht.field Try.underlying31 0 _ rfl
      have h1 := ht.field Try.underlying31 1 _ rfl
      have h2 := ht.field Try.underlying31 2 _ rfl
      have h3 := ht.field Try.underlying31 3 _ rfl
      obtain ⟨k0, rfl, _⟩ := T.int (v := v0) h0 Try.underlying3
      obtain ⟨k1, rfl, _⟩ := T.int (v := v1) h1 Try.underlying3
      obtain ⟨k2, rfl, _⟩ := T.int (v := v2) h2 Try.underlying3
      obtain ⟨a, n, cap, M, rfl, hM⟩ := read_ints' (v := v3) h3
      exact ⟨⟨k0, k1, k2, a, n, cap, M⟩, rfl, hM⟩) (reads_t h Try.underlying22)
  exact ⟨a, n, cap, l, rfl, h, hs⟩
/-- said of a test that changes nothing -/
def BoolP (w : World) (p : Prop) (e : Ending) (w' : World) : Prop := ∃ b : Bool, e = .returned (.bool b) ∧ Same w w' ∧ (b = true → p)
set_option maxRecDepth 100000 in
theorem fits10 (s : Stp) (w : World) : Calls Try.prog 14 #[.agg #[.int .i64 s.op, .int .i64 s.n, .int .i64 s.p, .slice s.a s.m s.cap]] w (BoolP w True) := by
  by_cases h0 : (2147483647 : Int) < (s.m : Int)
  · go_enter Try.func14, Try.ntmps14
    go_wp2_with fail
    go_ret
    exact ⟨false, rfl, (Only.refl _ _).alloc _, fun h => trivial⟩
  · go_enter Try.func14, Try.ntmps14
    go_wp2_with fail
    go_ret
    exact ⟨true, rfl, (Only.refl _ _).alloc _, fun h => trivial⟩
set_option maxRecDepth 100000 in
set_option maxHeartbeats 1600000 in
theorem fits9 (a : Option Addr) (n cap : Nat) (l : List Stp) (w : World) (h : RS stc 4 w a n cap l) : Calls Try.prog 6 #[.slice a n cap] w (BoolP w (n ≤ 2147483647)) := by
  have HR := Lib.hid h
  have hbd := h.bound
  clear h
  by_cases h0 : (2147483647 : Int) < (n : Int)
  · go_enter Try.func6, Try.ntmps6
    go_wp2_with fail
    go_ret
    exact ⟨false, rfl, Only.refl _ _, fun e => by cases e⟩
  · go_enter Try.func6, Try.ntmps6
    go_wp2_with fail
    go_loopw [10] (fun i wr => ∃ j : Nat, i = .int .i64 (j : Int) ∧ j ≤ n ∧ Hid (Same w wr)) (fun i _ => n - (intOf i).toNat)
    case atStart => exact ⟨0, rfl, Nat.zero_le _, Lib.hid (Only.refl _ _)⟩
    case round =>
      obtain ⟨j, rfl, hj, HP⟩ := hrel
      by_cases hlt : j < n
      · have hlt' : (j : Int) < (n : Int) := by omega
        obtain ⟨s, hs⟩ := HR.out.get hlt
        obtain ⟨b, off, ha, hb, hc⟩ := (HR.out.still HP.out).at stc_len (by omega)
        have hc2 := hc j s hs
        have c0 : wr.cell? ⟨b, off + j * 4, none⟩ = some (.int .i64 s.op) := hc2 0 _ rfl
        have c1 : wr.cell? ⟨b, off + j * 4 + 1, none⟩ = some (.int .i64 s.n) := hc2 1 _ rfl
        have c2 : wr.cell? ⟨b, off + j * 4 + 2, none⟩ = some (.int .i64 s.p) := hc2 2 _ rfl
        have c3 : wr.cell? ⟨b, off + j * 4 + 3, none⟩ = some (.slice s.a s.m s.cap) := hc2 3 _ rfl
        subst ha
        have HF : Hid (∀ wx, Calls Try.prog 14 #[.agg #[.int .i64 s.op, .int .i64 s.n, .int .i64 s.p, .slice s.a s.m s.cap]] wx (BoolP wx True)) := Lib.hid (fun wx => fits10 s wx)
        clear hc hc2 hs
        go_wp2_with fail
        refine (HF.out _).mono ?_
        rintro e w3 ⟨b3, rfl, hs3, _⟩
        have HS3 : Hid (Same w w3) := Lib.hid (HP.out.trans (((Only.refl (fun _ => False) wr).alloc _).trans hs3 (fun _ _ h => h)))
        clear hs3
        cases b3 with
        | false =>
          go_wp2_with fail
          go_ret
          exact ⟨false, rfl, HS3.out, fun e => by cases e⟩
        | true =>
          go_wp2_with fail
          go_roundw
          case rel => exact ⟨j + 1, by go_num, by omega, HS3⟩
          case measure => simp [intOf]; omega
      · have hlt' : ¬ (j : Int) < (n : Int) := by omega
        obtain rfl : j = n := by omega
        go_wp2_with fail
        go_ret
        exact ⟨true, rfl, HP.out, fun _ => by omega⟩
/-- a step that may be done -/
structure Fine (s : Stp) : Prop where
  op : 1 ≤ s.op ∧ s.op ≤ 6
  p : -1099511627776 ≤ s.p ∧ s.p ≤ 1099511627776
  m : s.m ≤ 10
  L : ∀ p ∈ s.L, -1099511627776 ≤ p ∧ p ≤ 1099511627776
set_option maxRecDepth 100000 in
set_option maxHeartbeats 3200000 in
theorem few (a : Option Addr) (n cap : Nat) (l : List Stp) (w : World) (h : RS stc 4 w a n cap l) (ho : Oth w l) : Calls Try.prog 7 #[.slice a n cap] w (BoolP w (n ≤ 60 ∧ ∀ s ∈ l, Fine s)) := by
  have HR := Lib.hid h
  have HO := Lib.hid ho
  have hbd := h.bound
  clear h ho
  go_enter Try.func7, Try.ntmps7
  go_wp2_with fail
  go_loopw [7] (fun i wr => ∃ j : Nat, i = .int .i64 (j : Int) ∧ j ≤ n ∧ Hid (Same w wr ∧ ∀ s ∈ l.take j, Fine s)) (fun i _ => n - (intOf i).toNat)
  case atStart => exact ⟨0, rfl, Nat.zero_le _, Lib.hid ⟨Only.refl _ _, fun s hs => by simp at hs⟩⟩
  case round =>
    obtain ⟨j, rfl, hj, HP⟩ := hrel
    by_cases hlt : j < n
    · have hlt' : (j : Int) < (n : Int) := by omega
      obtain ⟨s, hs⟩ := HR.out.get hlt
      obtain ⟨b, off, ha, hb, hc⟩ := (HR.out.still HP.out.1).at stc_len (by omega)
      have hc2 := hc j s hs
      have c0 : wr.cell? ⟨b, off + j * 4, none⟩ = some (.int .i64 s.op) := hc2 0 _ rfl
      have c1 : wr.cell? ⟨b, off + j * 4 + 1, none⟩ = some (.int .i64 s.n) := hc2 1 _ rfl
      have c2 : wr.cell? ⟨b, off + j * 4 + 2, none⟩ = some (.int .i64 s.p) := hc2 2 _ rfl
      have c3 : wr.cell? ⟨b, off + j * 4 + 3, none⟩ = some (.slice s.a s.m s.cap) := hc2 3 _ rfl
      have HSJ := Lib.hid hs
      have HL := Lib.hid (HO.out s (List.mem_of_getElem? hs))
      have hbs := HL.out.bound
      subst ha
      clear hc hc2 hs
      by_cases o1 : s.op < 1
      · go_wp2_with fail
        go_ret
        exact ⟨false, rfl, HP.out.1.alloc _, fun e => by cases e⟩
      by_cases o2 : 6 < s.op
      · go_wp2_with fail
        go_ret
        exact ⟨false, rfl, HP.out.1.alloc _, fun e => by cases e⟩
      have HP1 : Hid (∀ (wx : World) (a : Option Addr) (n cap : Nat) (L : List Int), RL iv wx a n cap L → Calls Try.prog 10 #[.slice a n cap, .int .i64 (-1099511627776)] wx fun e w' => e = .returned (.bool (prioOk L (-1099511627776))) ∧ wx = w') := Lib.hid (fun wx a n cap L hL => prio a n cap L _ wx hL)
      go_wp2_with fail
      obtain ⟨w2, hw2⟩ : ∃ w2, ((wr.alloc (.cells #[.int .i64 s.op, .int .i64 s.n, .int .i64 s.p, .slice s.a s.m s.cap] 31)).alloc (.cells #[.int .i64 s.p] 3)) = w2 := ⟨_, rfl⟩
      have HS2 : Hid (Same wr w2) := Lib.hid (by rw [← hw2]; exact ((Only.refl _ _).alloc _).alloc _)
      have HR2 : Hid (RL iv w2 (some ⟨wr.heap.size + 1, 0, none⟩) 1 1 [s.p]) := Lib.hid (by
        have hb : w2.heap[wr.heap.size + 1]? = some (.cells #[.int .i64 s.p] 3 (0, 0)) := by rw [← hw2]; exact heap_alloc_new' _ _ _ (by simp)
        exact ⟨(Own.of_block (size := 1) hb 1 1 (by omega) (by simp [maxLen]) rfl (fun u hu => by simp at hu; subst hu; rfl)).rd, rfl⟩)
      have HB2 : Hid (w2.heap[wr.heap.size]? = some (.cells #[.int .i64 s.op, .int .i64 s.n, .int .i64 s.p, .slice s.a s.m s.cap] 31 (0, 0))) := Lib.hid (by rw [← hw2]; exact ((Only.refl (fun _ => False) _).alloc _).obj (heap_alloc_new _ _) id)
      obtain ⟨g, hg⟩ : ∃ g, wr.heap.size = g := ⟨_, rfl⟩
      have b3 : w2.cell? ⟨g, 3, none⟩ = some (.slice s.a s.m s.cap) := by rw [← hg]; exact block_cell HB2.out rfl
      have lg : g < w2.heap.size := by rw [← hg]; exact lt_of_heap HB2.out
      rw [hg] at HR2
      rw [hw2]
      simp only [hg]
      clear hw2 hg HB2 c0 c1 c2 c3
      refine (HP1.out _ _ _ _ _ HR2.out).mono ?_
      rintro e w3 ⟨rfl, rfl⟩
      cases h1 : prioOk [s.p] (-1099511627776) with
      | false =>
        clear h1
        go_wp2_with fail
        go_ret
        exact ⟨false, rfl, HP.out.1.trans HS2.out, fun e => by cases e⟩
      | true =>
        have H1 := Lib.hid h1
        clear h1
        by_cases hm : (10 : Int) < (s.m : Int)
        · go_wp2_with fail
          go_ret
          exact ⟨false, rfl, HP.out.1.trans HS2.out, fun e => by cases e⟩
        · go_wp2_with fail
          refine (HP1.out _ _ _ _ _ ((HL.out.still HP.out.1).still HS2.out)).mono ?_
          rintro e w3 ⟨rfl, rfl⟩
          cases h2 : prioOk s.L (-1099511627776) with
          | false =>
            clear h2
            go_wp2_with fail
            go_ret
            exact ⟨false, rfl, HP.out.1.trans HS2.out, fun e => by cases e⟩
          | true =>
            have HP2 : Hid (Same w w2 ∧ ∀ s ∈ l.take (j + 1), Fine s) := Lib.hid ⟨HP.out.1.trans HS2.out, by
              rw [take_snoc l j s HSJ.out]
              intro u hu
              rcases List.mem_append.1 hu with hu | hu
              · exact HP.out.2 u hu
              · simp at hu; subst hu
                exact ⟨⟨by omega, by omega⟩, prio_mem H1.out _ (by simp), by omega, prio_mem h2⟩⟩
            clear h2
            go_wp2_with fail
            go_roundw
            case rel => exact ⟨j + 1, by go_num, by omega, HP2⟩
            case measure => simp [intOf]; omega
    · have hlt' : ¬ (j : Int) < (n : Int) := by omega
      obtain rfl : j = n := by omega
      have HF : Hid (∀ s ∈ l, Fine s) := Lib.hid (by
        have := HP.out.2
        rwa [List.take_of_length_le (by rw [HR.out.2]; exact Nat.le_refl _)] at this)
      by_cases h6 : (j : Int) ≤ 60
      · go_wp2_with fail
        go_ret
        exact ⟨_, rfl, HP.out.1, fun _ => ⟨by omega, HF.out⟩⟩
      · go_wp2_with fail
        go_ret
        exact ⟨_, rfl, HP.out.1, fun e => by simp at e⟩
end Go.Proofs.Ytpddddjfjmipfaa.fh
