/-
  FnSTRuns: the walk. A set has what was added and not removed, each value once.
-/
import Derived.Test.YtpccodjmjgfloaaStRun2
import Derived.Test.YtpccodjmjgfloaaStSays
import Derived.Deep.SlicePairs
namespace Go.Proofs.Ytpccodjmjgfloaa.walkFnSTRuns
open Go.ChangeShapes Go.WideShapes Go.ChangeAt Go.RowKit Go.Proofs.Ytpccodjmjgfloaa.base Go.Proofs.Ytpccodjmjgfloaa.heap Go.Proofs.Ytpccodjmjgfloaa.rows Go.Proofs.Ytpccodjmjgfloaa.mapi Go.Proofs.Ytpccodjmjgfloaa.st
set_option linter.unusedVariables false

theorem ints_rl {w : World} {a : Option Addr} {len cap : Nat} {zs : List Int} (h : IsRow .i64 w a len cap zs) : RL iv w a len cap (zs.take len) := by
  have hle := h.le
  refine ⟨⟨by rw [List.length_map, List.length_take]; omega, hle.1, by unfold maxLen; omega, fun u hu => ?_, fun hp => ?_, fun ha => ?_⟩, by rw [List.length_take]; omega⟩
  · obtain ⟨x, _, rfl⟩ := List.mem_map.1 hu; rfl
  · obtain ⟨b, off, rfl, _, hb, hc⟩ := h.cells hp
    refine ⟨b, off, rfl, hb, fun j v hj => ?_⟩
    rw [List.getElem?_map, List.getElem?_take] at hj
    split at hj
    · have hz : j < zs.length := by omega
      rw [List.getElem?_eq_getElem hz] at hj
      simp at hj
      rw [hc j hz, ← hj]
      simp [hz]
    · simp at hj
  · subst ha
    rcases h with ⟨_, _, hc, _⟩ | ⟨x, hx, _⟩
    · exact hc
    · cases hx

theorem list_of (n : Nat) (p : Nat → St → Prop) (h : ∀ i, i < n → ∃ s, p i s) : ∃ l : List St, l.length = n ∧ ∀ i s, l[i]? = some s → p i s := by
  induction n with
  | zero => exact ⟨[], rfl, fun i s h => by simp at h⟩
  | succ n ih =>
    obtain ⟨l, hl, hp⟩ := ih (fun i hi => h i (by omega))
    obtain ⟨s, hs⟩ := h n (by omega)
    refine ⟨l ++ [s], by simp [hl], fun i t ht => ?_⟩
    by_cases hi : i < n
    · rw [List.getElem?_append_left (by omega)] at ht
      exact hp i t ht
    · rw [List.getElem?_append_right (by omega)] at ht
      by_cases e : i = n
      · subst e
        rw [hl, Nat.sub_self] at ht
        simp at ht
        subst ht
        exact hs
      · rw [List.getElem?_eq_none (by simp; omega)] at ht
        cases ht

set_option maxRecDepth 100000 in
theorem read_steps {W : World} {v : Value} (h : Reads Try.prog W 23 v) : ∃ (a : Option Addr) (n cap : Nat) (l : List St), v = .slice a n cap ∧ RS W a n cap l ∧ (∀ s ∈ l, s.n ≤ s.cap ∧ s.cap ≤ 9223372036854775807) ∧ ∀ s ∈ l, ∀ wx, Same W wx → RL iv wx s.a s.n s.cap s.d := by
  obtain ⟨base, H, enc, d, ps, hv, fuel, hf⟩ := h
  obtain ⟨a, n, cap, rfl⟩ := okWide_slice Try.underlying23 hv
  rcases Go.Deep.open_slice_pairs Try.underlying23 Try.underlying30 (by kernel_rfl) rfl rfl (by kernel_rfl) (by kernel_rfl) (by simpa [Value.cells] using hf) with ⟨hcs, _⟩ | ⟨x, len, c, m, k, V0, V1, D0, D1, P0, P1, hcs, _, hl, hm, hmm, _, hall⟩
  · simp at hcs
    obtain ⟨rfl, rfl, rfl⟩ := hcs
    exact ⟨none, 0, 0, [], rfl, ⟨Rd.nil W 2, rfl⟩, fun s hs => (nomatch hs), fun s hs => (nomatch hs)⟩
  · simp at hcs
    obtain ⟨rfl, rfl, rfl⟩ := hcs
    have hlm : n ≤ m := by rw [hmm]; split <;> omega
    obtain ⟨l, hll, hp⟩ := list_of n (fun i s => W.cell? (x.add (i * 2)) = some (.int .i64 s.op) ∧ W.cell? (x.add (i * 2 + 1)) = some (.slice s.a s.n s.cap) ∧ (s.n ≤ s.cap ∧ s.cap ≤ 9223372036854775807) ∧ RL iv W s.a s.n s.cap s.d) (fun i hi => by
      obtain ⟨h0, h1, t0, t1⟩ := hall i (by omega)
      obtain ⟨z, hz, _, _⟩ := DataW.trod_int Try.underlying3 t0
      simp at hz
      obtain ⟨a', n', c', zs, hv1, hrow⟩ : ∃ a' n' c' zs, V1 i = .slice a' n' c' ∧ IsRow .i64 W a' n' c' zs := by
        rcases open_ints Try.underlying22 Try.underlying3 (by kernel_rfl) t1 with ⟨hcs, _⟩ | ⟨y, l', c', zs, hcs, _, hl', hm', hz', _, hcell, hwz⟩
        · simp at hcs
          exact ⟨none, 0, 0, [], hcs, .inl ⟨rfl, rfl, rfl, rfl⟩⟩
        · simp at hcs
          exact ⟨some y, l', c', zs, hcs, .inr ⟨y, rfl, hl', hm', by simpa using hz', hcell, hwz⟩⟩
      have hry := ints_rl hrow
      refine ⟨⟨z, a', n', c', zs.take n'⟩, by rw [h0, hz], by rw [h1, hv1], hry.bound, hry⟩)
    refine ⟨some x, n, cap, l, rfl, ⟨⟨by rw [stCells_len, hll], hl, hm, stCells_one l, fun h0 => ?_, fun h => by cases h⟩, hll⟩, fun s hs => ?_, fun s hs wx hx => ?_⟩
    · obtain ⟨b, off, spot⟩ := x
      obtain ⟨s0, hs0⟩ : ∃ s, l[0]? = some s := ⟨l[0]'(by omega), List.getElem?_eq_getElem _⟩
      have h1 := (hp 0 s0 hs0).1
      have hsp : spot = none := by simpa [Addr.add] using World.cell?_spot h1
      subst hsp
      have h2 : W.cell? ⟨b, off, none⟩ = some (.int .i64 s0.op) := by simpa [Addr.add] using h1
      refine ⟨b, off, rfl, World.block_lt_of_cell? W _ h2, fun j v hj => ?_⟩
      have hjl : j < (stCells l).length := (List.getElem?_eq_some_iff.1 hj).1
      rw [stCells_len] at hjl
      obtain ⟨s, hs⟩ : ∃ s, l[j / 2]? = some s := ⟨l[j / 2]'(by omega), List.getElem?_eq_getElem _⟩
      obtain ⟨q1, q2⟩ := stCells_get l (j / 2) s hs
      obtain ⟨p1, p2, _⟩ := hp (j / 2) s hs
      rw [Addr.add_lit] at p1 p2
      rcases (show j = j / 2 * 2 ∨ j = j / 2 * 2 + 1 by omega) with e | e
      · rw [e, q1] at hj
        cases hj
        rw [e, p1]
      · rw [e, q2] at hj
        cases hj
        rw [e, p2]
    · obtain ⟨i, hi⟩ := List.mem_iff_getElem?.1 hs
      exact (hp i s hi).2.2.1
    · obtain ⟨i, hi⟩ := List.mem_iff_getElem?.1 hs
      exact (hp i s hi).2.2.2.still hx

theorem sdc_get (L : List Sd) : ∀ (k : Nat) (s : Sd), L[k]? = some s → ∀ j, j < 4 → (L.flatMap sdc)[k * 4 + j]? = (sdc s)[j]? := by
  induction L with
  | nil => intro k s h; simp at h
  | cons t L ih =>
    intro k s h j hj
    rw [List.flatMap_cons]
    cases k with
    | zero =>
      simp at h
      subst h
      rw [List.getElem?_append_left (by simp [sdc]; omega)]
      simp
    | succ k =>
      rw [List.getElem?_append_right (by simp [sdc]; omega)]
      have e : (k + 1) * 4 + j - (sdc t).length = k * 4 + j := by simp [sdc]; omega
      rw [e]
      exact ih k s (by simpa using h) j hj

set_option maxRecDepth 100000 in
set_option maxHeartbeats 6400000 in
theorem main (fa : Option Addr) (m fc : Nat) (first : List Int) (a : Option Addr) (n cap : Nat) (l : List St) (w : World) (hf : RL iv w fa m fc first) (h : RS w a n cap l) (hs : ∀ s ∈ l, s.n ≤ s.cap ∧ s.cap ≤ 9223372036854775807)
    (hd : ∀ s ∈ l, ∀ wx, Same w wx → RL iv wx s.a s.n s.cap s.d) (hm : m ≤ 2147483647) :
    Calls Try.prog 3 #[.slice fa m fc, .slice a n cap] w fun e w' => e = .returned (.bool true) ∧ Below w.heap.size w w' := by
  have hbd := h.1.bound
  have hbf := hf.bound
  have HFT := Lib.hid (fits15 a n cap l w h hs)
  have HFEW : Hid (∀ wx, Same w wx → Calls Try.prog 6 #[.slice fa m fc, .slice a n cap] wx (FFew wx n m l)) := Lib.hid (fun wx hx => stFew fa m fc a n cap l wx (h.keep hx (fun _ _ => id)) hs hbf)
  have HRUN : Hid (∀ wx, Same w wx → m ≤ 20 → n ≤ 40 → (∀ s ∈ l, 1 ≤ s.op ∧ s.op ≤ 4 ∧ s.n ≤ 20) → Calls Try.prog 7 #[.slice fa m fc, .slice a n cap] wx (FRun first l n wx)) := Lib.hid (fun wx hx h1 h2 h3 => stRun fa m fc first a n cap l wx (hf.still hx) (h.keep hx (fun _ _ => id)) (fun s hs' wy hy => hd s hs' wy (hx.trans hy)) h1 h2 h3)
  have HF := Lib.hid hf
  have HR : Hid (∀ wx, Same w wx → RS wx a n cap l) := Lib.hid (fun wx hx => h.keep hx (fun _ _ => id))
  have HD := Lib.hid hd
  have HL := Lib.hid h.2
  have hm' : ¬ (2147483647 : Int) < (m : Int) := by omega
  clear h hs hd hf
  go_enter Try.func3, Try.ntmps3
  go_wp2_with fail
  refine HFT.out.mono ?_
  rintro e w0 ⟨t, rfl, hfit, hO0⟩
  have HO0 := Lib.hid hO0
  have HFIT := Lib.hid hfit
  clear hfit hO0
  cases t with
  | false =>
    go_wp2_with fail
    go_ret
    exact ⟨rfl, Only.below HO0.out (Nat.le_refl _) (fun _ _ => id)⟩
  | true =>
    go_wp2_with fail
    refine (HFEW.out w0 HO0.out).mono ?_
    rintro e w1 ⟨t, rfl, hfew, hO1⟩
    have HO1 := Lib.hid (HO0.out.trans hO1)
    have HFW := Lib.hid hfew
    clear hfew hO1
    cases t with
    | false =>
      go_wp2_with fail
      go_ret
      exact ⟨rfl, Only.below HO1.out (Nat.le_refl _) (fun _ _ => id)⟩
    | true =>
      obtain ⟨hn, hm20, hst⟩ := HFW.out rfl
      have HST := Lib.hid hst
      have HKS : Hid (∀ k, k ≤ n → (ksAt first l k).length ≤ 20 + 20 * k) := Lib.hid (fun k hk => (ksAt_ok first l (by rw [HF.out.2]; exact hm20) (fun s hs' => by
        have h1 := (HD.out s hs' w (Only.refl _ _)).2
        have h2 := (hst s hs').2.2
        omega) k (by rw [HL.out]; exact hk)).2)
      clear hst HFW HFEW HFT HFIT
      go_wp2_with fail
      refine (HRUN.out w1 HO1.out hm20 hn HST.out).mono ?_
      rintro e w2 ⟨oa, oc, L, rfl, hrd, hLl, hsaid, hO2⟩
      have hbo := hrd.bound
      have HO2 := Lib.hid (HO1.out.trans hO2)
      have HRD := Lib.hid hrd
      have HLL := Lib.hid hLl
      have HSAID := Lib.hid hsaid
      have HW : Hid (Calls Try.prog 8 #[.slice none 0 0, .slice fa m fc] w2 (FNew (withL [] first) w2)) := Lib.hid (stWith none 0 0 [] fa m fc first w2 (RL.nil _ _) (HF.out.still HO2.out) (by omega) (by omega))
      clear hO2 hrd hLl hsaid HRUN
      go_wp2_with fail
      refine HW.out.mono ?_
      rintro e w3 ⟨la, ln, lc, rfl, hown, hO3, _⟩
      have hbl := hown.bound
      have HW3 := Lib.hid hown.rl
      have HO23 := Lib.hid hO3
      clear hown hO3 HW
      go_wp2_with fail
      go_loopw [6, 7, 34] (fun lv fv i wr => ∃ (k : Nat) (la : Option Addr) (ln lc : Nat), k ≤ n ∧ i = .int .i64 (k : Int) ∧ lv = .slice la ln lc ∧ fv = .bool (flAt l k) ∧ RL iv wr la ln lc (ksAt first l k) ∧ Same w2 wr) (fun _ _ i _ => n - (intOf i).toNat)
      case atStart => exact ⟨0, la, ln, lc, Nat.zero_le _, rfl, rfl, rfl, HW3.out, HO23.out⟩
      case round =>
        clear HW3 HO23 hbl
        obtain ⟨k, la, ln, lc, hk, rfl, rfl, rfl, hrl, hO⟩ := hrel
        have hbl := hrl.bound
        have hlen := HKS.out k hk
        have hln : ln ≤ 1000000 := by have := hrl.2; omega
        have HRL := Lib.hid hrl
        have HO := Lib.hid hO
        clear hrl hO hlen
        by_cases hlt : k < n
        · have hlt' : (k : Int) < (n : Int) := by omega
          obtain ⟨b, off, rfl, hb, hc⟩ := (HR.out wr (HO2.out.trans HO.out)).at (by omega)
          obtain ⟨s, hsk⟩ : ∃ s, l[k]? = some s := ⟨l[k]'(by rw [HL.out]; omega), List.getElem?_eq_getElem _⟩
          obtain ⟨c0, c1⟩ := hc k s hsk
          obtain ⟨g1, g2, g3⟩ := HST.out s (List.mem_of_getElem? hsk)
          obtain ⟨sd, hsd⟩ : ∃ sd, L[k]? = some sd := ⟨L[k]'(by rw [HLL.out]; omega), List.getElem?_eq_getElem _⟩
          have HSK := Lib.hid hsk
          have HSD := Lib.hid hsd
          have HDD : Hid (∀ wx, Same w wx → RL iv wx s.a s.n s.cap s.d) := Lib.hid (HD.out s (List.mem_of_getElem? hsk))
          have hsc := (HDD.out w (Only.refl _ _)).bound
          have HK1 : Hid (ksAt first l (k + 1) = stepL (ksAt first l k) s) := Lib.hid (ksAt_succ first l k s hsk)
          have HF1 : Hid (flAt l (k + 1) = stepF (flAt l k) s) := Lib.hid (flAt_succ l k s hsk)
          clear hc hsk hsd
          obtain ⟨W1, hW1⟩ : ∃ W1, W1 = wr.alloc (.cells #[.int .i64 s.op, .slice s.a s.n s.cap] 30) := ⟨_, rfl⟩
          obtain ⟨sb, hsb⟩ : ∃ sb, sb = wr.heap.size := ⟨_, rfl⟩
          have HS1 : Hid (Same wr W1) := Lib.hid (by rw [hW1]; exact (Only.refl _ _).alloc _)
          have HB1 : Hid (W1.heap[sb]? = some (.cells #[.int .i64 s.op, .slice s.a s.n s.cap] 30 (0, 0))) := Lib.hid (by rw [hW1, hsb]; exact heap_alloc_new _ _)
          have e0 : W1.cell? ⟨sb, 0, none⟩ = some (.int .i64 s.op) := block_cell HB1.out rfl
          have e1 : W1.cell? ⟨sb, 1, none⟩ = some (.slice s.a s.n s.cap) := block_cell HB1.out rfl
          have HSTEP : Hid (Calls Try.prog 9 #[.slice la ln lc, .agg #[.int .i64 s.op, .slice s.a s.n s.cap]] W1 fun e w' => ∃ a' n' c', e = .returned (.slice a' n' c') ∧ RL iv w' a' n' c' (stepL (ksAt first l k) s) ∧ Same W1 w') := Lib.hid (stStep la ln lc (ksAt first l k) s W1 (HRL.out.still HS1.out) (HDD.out W1 (HO2.out.trans (HO.out.trans HS1.out))) hln ⟨g1, g2, g3⟩)
          go_upto_region 12 with fail
          rw [← hW1, ← hsb]
          clear hW1 hsb c0 c1
          go_wp2_with fail
          refine HSTEP.out.mono ?_
          rintro e w4 ⟨a4, n4, c4, rfl, hr4, hS4⟩
          have hb4 := hr4.bound
          have HR4 : Hid (RL iv w4 a4 n4 c4 (ksAt first l (k + 1))) := Lib.hid (by rw [HK1.out]; exact hr4)
          have hn4 : n4 ≤ 1000000 := by have h1 := HR4.out.2; have h2 := HKS.out (k + 1) (by omega); omega
          have HB4 := Lib.hid (heap_still hS4 HB1.out)
          have HS24 : Hid (Same w2 w4) := Lib.hid (HO.out.trans (HS1.out.trans hS4))
          have z0 : w4.cell? ⟨sb, 0, none⟩ = some (.int .i64 s.op) := block_cell HB4.out rfl
          have z1 : w4.cell? ⟨sb, 1, none⟩ = some (.slice s.a s.n s.cap) := block_cell HB4.out rfl
          clear hr4 hS4 HSTEP e0 e1 HS1 HB1 HRL HK1
          go_upto_region 13 with fail
          go_cut [7] (fun v wx => v = .bool (flAt l (k + 1)) ∧ wx = w4)
          case first =>
            generalize flAt l k = f at *
            generalize flAt l (k + 1) = f2 at *
            by_cases hop : s.op = 3
            · have HE : Hid (f2 = false) := Lib.hid (by rw [HF1.out]; simp [stepF, hop])
              rw [hop] at z0
              go_wp2_with fail
              go_meet
              exact ⟨by rw [HE.out], rfl⟩
            · cases f with
              | true =>
                have HE : Hid (f2 = true) := Lib.hid (by rw [HF1.out]; simp [stepF, hop])
                have hne : (s.op != 3) = true := by simpa using hop
                clear hop
                go_wp2_with fail
                go_meet
                exact ⟨by rw [HE.out], rfl⟩
              | false =>
                have hne : (s.op != 3) = true := by simpa using hop
                clear hop
                by_cases h3 : s.op < 3
                · by_cases h0 : (0 : Int) < (s.n : Int)
                  · have HE : Hid (f2 = true) := Lib.hid (by
                      have h0' : 0 < s.n := by omega
                      rw [HF1.out]
                      have : s.op ≠ 3 := by omega
                      simp [stepF, h3, h0', this])
                    have HN : Hid (decide (0 < s.n) = true) := Lib.hid (decide_eq_true (by omega))
                    go_wp2_with fail
                    go_meet
                    exact ⟨by rw [HE.out]; first | rfl | rw [HN.out], rfl⟩
                  · have HE : Hid (f2 = false) := Lib.hid (by
                      have h0' : ¬ 0 < s.n := by omega
                      rw [HF1.out]
                      have : s.op ≠ 3 := by omega
                      simp [stepF, h3, this]; omega)
                    have HN : Hid (decide (0 < s.n) = false) := Lib.hid (decide_eq_false (by omega))
                    go_wp2_with fail
                    go_meet
                    exact ⟨by rw [HE.out]; first | rfl | rw [HN.out], rfl⟩
                · have HE : Hid (f2 = false) := Lib.hid (by
                    rw [HF1.out]
                    simp [stepF]
                    omega)
                  go_wp2_with fail
                  go_meet
                  exact ⟨by rw [HE.out], rfl⟩
          case rest =>
            obtain ⟨rfl, rfl⟩ := hcut
            obtain ⟨w4, rfl⟩ : ∃ w4, w4 = wc := ⟨_, rfl⟩
            obtain ⟨ob, oo, rfl, hob, hoc⟩ := (HRD.out.keep HS24.out (fun _ _ => id)).cells (by omega)
            have HOC : Hid (∀ wx, Same w4 wx → ∀ j v, (sdc sd)[j]? = some v → j < 4 → wx.cell? ⟨ob, oo + (k * 4 + j), none⟩ = some v) := Lib.hid (fun wx hx j v hv hj => (hx.cell hob id).trans (hoc (k * 4 + j) v (by rw [sdc_get L k sd HSD.out j hj]; exact hv)))
            have HKC : Hid (∀ wx, Same w4 wx → wx.cell? ⟨sb, 1, none⟩ = some (.slice s.a s.n s.cap) ∧ wx.cell? ⟨ob, oo + k * 4, none⟩ = some (.int .i64 (sd.len : Int)) ∧ wx.cell? ⟨ob, oo + k * 4 + 1, none⟩ = some (.slice sd.fa sd.fn sd.fc) ∧ wx.cell? ⟨ob, oo + k * 4 + 2, none⟩ = some (.bool sd.all) ∧ wx.cell? ⟨ob, oo + k * 4 + 3, none⟩ = some (.slice sd.ea sd.en sd.ec)) := Lib.hid (fun wx hx =>
              ⟨block_cell (heap_still hx HB4.out) rfl, HOC.out wx hx 0 _ rfl (by omega), HOC.out wx hx 1 _ rfl (by omega), HOC.out wx hx 2 _ rfl (by omega), HOC.out wx hx 3 _ rfl (by omega)⟩)
            have HSAYS : Hid (∀ wx, Same w4 wx → Calls Try.prog 10 #[.slice a4 n4 c4, .slice s.a s.n s.cap, .agg #[.int .i64 (sd.len : Int), .slice sd.fa sd.fn sd.fc, .bool sd.all, .slice sd.ea sd.en sd.ec], .bool (flAt l (k + 1))] wx (FV w4 (.bool true))) := Lib.hid (fun wx hx => fv hx (stSays a4 n4 c4 (ksAt first l (k + 1)) s.a s.n s.cap s.d sd (flAt l (k + 1)) wx (HR4.out.still hx) (HDD.out wx (HO2.out.trans (HS24.out.trans hx))) hn4 (by omega) ((HSAID.out k sd s HSD.out HSK.out).keep (HS24.out.trans hx) (fun _ _ => id))))
            obtain ⟨y1, y2, y3, y4, y5⟩ := HKC.out w4 (Only.refl _ _)
            clear hoc HOC z0
            go_wp2_with fail
            go_region_held3 (fun w' => w'.cell? ⟨sb, 1, none⟩ = some (.slice s.a s.n s.cap) ∧ w'.cell? ⟨ob, oo + k * 4, none⟩ = some (.int .i64 (sd.len : Int)) ∧ w'.cell? ⟨ob, oo + k * 4 + 1, none⟩ = some (.slice sd.fa sd.fn sd.fc) ∧ w'.cell? ⟨ob, oo + k * 4 + 2, none⟩ = some (.bool sd.all) ∧ w'.cell? ⟨ob, oo + k * 4 + 3, none⟩ = some (.slice sd.ea sd.en sd.ec))
              (exact HKC.out _ (by with_reducible repeat (first | assumption | exact Only.refl _ _ | apply Only.alloc | apply Only.drew)))
              ((go_at_call 10; (with_reducible refine (HSAYS.out _ (by with_reducible repeat (first | assumption | exact Only.refl _ _ | apply Only.alloc | apply Only.drew))).mono ?_); rintro e w5 ⟨rfl, hS5⟩))
            have HO5 : Hid (Same w2 w5) := Lib.hid (HS24.out.trans hS5)
            have HR5 : Hid (RL iv w5 a4 n4 c4 (ksAt first l (k + 1))) := Lib.hid (HR4.out.still hS5)
            clear hS5 y1 y2 y3 y4 y5
            go_wp2_with fail
            go_roundw
            case rel => exact ⟨k + 1, a4, n4, c4, by omega, by go_num, rfl, rfl, HR5.out, HO5.out⟩
            case measure => simp [intOf]; omega
        · obtain rfl : k = n := by omega
          go_wp2_with fail
          go_ret
          exact ⟨rfl, Only.below (HO2.out.trans HO.out) (Nat.le_refl _) (fun _ _ => id)⟩

theorem walk (W : World) (v0 v1 : Value) (r0 : Reads Try.prog W 22 v0) (r1 : Reads Try.prog W 23 v1) :
    Calls Try.prog 3 #[v0, v1] W fun e w' => e = .returned (.bool true) ∧ Below W.heap.size W w' := by
  obtain ⟨fa, m, fc, zs, rfl, hr⟩ := r0.ints Try.underlying22 Try.underlying3 (by kernel_rfl)
  obtain ⟨a, n, cap, l, rfl, h, hs, hd⟩ := read_steps r1
  by_cases hm : m ≤ 2147483647
  · exact main fa m fc (zs.take m) a n cap l W (ints_rl hr) h hs hd hm
  · have hm' : (2147483647 : Int) < (m : Int) := by omega
    clear r0 r1 hr h hs hd
    go_enter Try.func3, Try.ntmps3
    go_wp2_with fail
    go_ret
    exact ⟨rfl, Below.refl _ _⟩
end Go.Proofs.Ytpccodjmjgfloaa.walkFnSTRuns
