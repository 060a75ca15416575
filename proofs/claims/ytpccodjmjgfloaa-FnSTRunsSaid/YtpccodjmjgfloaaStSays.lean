/-
  STSame, STStep of the specification, stSays of the law.
-/
import Derived.Test.YtpccodjmjgfloaaStRun
namespace Go.Proofs.Ytpccodjmjgfloaa.st
open Go.RowKit Go.Proofs.Ytpccodjmjgfloaa.base Go.Proofs.Ytpccodjmjgfloaa.heap Go.Proofs.Ytpccodjmjgfloaa.rows Go.Proofs.Ytpccodjmjgfloaa.mapi
set_option linter.unusedVariables false

theorem without_perm {l of : List Int} (h : l.Perm of) : withoutL of l = [] ∧ withoutL l of = [] := by
  constructor
  · apply List.filter_eq_nil_iff.2
    intro x hx
    simp [h.mem_iff.2 hx]
  · apply List.filter_eq_nil_iff.2
    intro x hx
    simp [h.mem_iff.1 hx]

set_option maxRecDepth 100000 in
set_option maxHeartbeats 1600000 in
/-- a list and one of its orders -/
theorem stSame (a : Option Addr) (n cap : Nat) (l : List Int) (a2 : Option Addr) (m c2 : Nat) (of : List Int) (w : World) (h : RL iv w a n cap l) (h2 : RL iv w a2 m c2 of) (hn : n ≤ 1000000) (hm : m ≤ 1000000) (hp : l.Perm of) :
    Calls Try.prog 25 #[.slice a n cap, .slice a2 m c2] w (FV w (.bool true)) := by
  have hbd := h.bound
  have hbd2 := h2.bound
  have hnm : n = m := by rw [← h.2, ← h2.2]; exact hp.length_eq
  subst hnm
  obtain ⟨e1, e2⟩ := without_perm hp
  have H1 : Hid (∀ wx, Same w wx → Calls Try.prog 24 #[.slice a2 n c2, .slice a n cap] wx fun e w' => ∃ b c, e = .returned (.slice b 0 c) ∧ Same w w') := Lib.hid (fun wx hx => (stWithout a2 n c2 of a n cap l wx (h2.still hx) (h.still hx) hm).mono fun e w' ⟨b, k, c, he, ho, hS, _⟩ => by
    rw [e1] at ho
    have : k = 0 := ho.2.symm
    subst this
    exact ⟨b, c, he, hx.trans hS⟩)
  have H2 : Hid (∀ wx, Same w wx → Calls Try.prog 24 #[.slice a n cap, .slice a2 n c2] wx fun e w' => ∃ b c, e = .returned (.slice b 0 c) ∧ Same w w') := Lib.hid (fun wx hx => (stWithout a n cap l a2 n c2 of wx (h.still hx) (h2.still hx) hn).mono fun e w' ⟨b, k, c, he, ho, hS, _⟩ => by
    rw [e2] at ho
    have : k = 0 := ho.2.symm
    subst this
    exact ⟨b, c, he, hx.trans hS⟩)
  clear h h2 hp e1 e2
  go_enter Try.func25, Try.ntmps25
  go_wp2_with fail
  refine (H1.out w (Only.refl _ _)).mono ?_
  rintro e w1 ⟨b1, c1, rfl, hS1⟩
  go_wp2_with fail
  refine (H2.out w1 hS1).mono ?_
  rintro e w2 ⟨b2, c2', rfl, hS2⟩
  go_wp2_with fail
  go_ret
  exact ⟨rfl, hS2⟩

set_option maxRecDepth 100000 in
set_option maxHeartbeats 1600000 in
theorem stStep (a : Option Addr) (n cap : Nat) (l : List Int) (s : St) (w : World) (h : RL iv w a n cap l) (hd : RL iv w s.a s.n s.cap s.d) (hn : n ≤ 1000000) (hs : 1 ≤ s.op ∧ s.op ≤ 4 ∧ s.n ≤ 20) :
    Calls Try.prog 9 #[.slice a n cap, .agg #[.int .i64 s.op, .slice s.a s.n s.cap]] w fun e w' => ∃ a' n' c', e = .returned (.slice a' n' c') ∧ RL iv w' a' n' c' (stepL l s) ∧ Same w w' := by
  have hbd := h.bound
  have hbd2 := hd.bound
  have HR := Lib.hid h
  have H1 : Hid (∀ wx, Same w wx → Calls Try.prog 8 #[.slice a n cap, .slice s.a s.n s.cap] wx fun e w' => ∃ a' n' c', e = .returned (.slice a' n' c') ∧ RL iv w' a' n' c' (withL l s.d) ∧ Same w w') := Lib.hid (fun wx hx => (stWith a n cap l s.a s.n s.cap s.d wx (h.still hx) (hd.still hx) hn (by omega)).mono fun e w' ⟨b, k, c, he, ho, hS, _⟩ => ⟨b, k, c, he, ho.rl, hx.trans hS⟩)
  have H2 : Hid (∀ wx, Same w wx → Calls Try.prog 24 #[.slice a n cap, .slice s.a s.n s.cap] wx fun e w' => ∃ a' n' c', e = .returned (.slice a' n' c') ∧ RL iv w' a' n' c' (withoutL l s.d) ∧ Same w w') := Lib.hid (fun wx hx => (stWithout a n cap l s.a s.n s.cap s.d wx (h.still hx) (hd.still hx) hn).mono fun e w' ⟨b, k, c, he, ho, hS, _⟩ => ⟨b, k, c, he, ho.rl, hx.trans hS⟩)
  obtain ⟨s1, s4, s20⟩ := hs
  clear h hd
  have hop : s.op = 1 ∨ s.op = 2 ∨ s.op = 3 ∨ s.op = 4 := by omega
  rcases hop with hop | hop | hop | hop
  · have HE : Hid (stepL l s = withL l s.d) := Lib.hid (by unfold stepL; rw [if_pos hop])
    rw [hop]
    go_enter Try.func9, Try.ntmps9
    go_wp2_with fail
    refine (H1.out _ ((Only.refl _ _).alloc _)).mono ?_
    rintro e w1 ⟨b, k, c, rfl, hr, hS⟩
    have HR1 := Lib.hid hr
    have HS1 := Lib.hid hS
    clear hr hS
    go_wp2_with fail
    go_ret
    exact ⟨b, k, c, rfl, by rw [HE.out]; exact HR1.out, HS1.out⟩
  · have HE : Hid (stepL l s = withoutL l s.d) := Lib.hid (by unfold stepL; rw [if_neg (by omega), if_pos hop])
    rw [hop]
    go_enter Try.func9, Try.ntmps9
    go_wp2_with fail
    refine (H2.out _ ((Only.refl _ _).alloc _)).mono ?_
    rintro e w1 ⟨b, k, c, rfl, hr, hS⟩
    have HR1 := Lib.hid hr
    have HS1 := Lib.hid hS
    clear hr hS
    go_wp2_with fail
    go_ret
    exact ⟨b, k, c, rfl, by rw [HE.out]; exact HR1.out, HS1.out⟩
  · have HE : Hid (stepL l s = []) := Lib.hid (by unfold stepL; rw [if_neg (by omega), if_neg (by omega), if_pos hop])
    rw [hop]
    go_enter Try.func9, Try.ntmps9
    go_wp2_with fail
    go_ret
    exact ⟨none, 0, 0, rfl, by rw [HE.out]; exact RL.nil _ _, (Only.refl _ _).alloc _⟩
  · have HE : Hid (stepL l s = l) := Lib.hid (by unfold stepL; rw [if_neg (by omega), if_neg (by omega), if_neg (by omega)])
    rw [hop]
    go_enter Try.func9, Try.ntmps9
    go_wp2_with fail
    go_ret
    exact ⟨a, n, cap, rfl, by rw [HE.out]; exact HR.out.still ((Only.refl _ _).alloc _), (Only.refl _ _).alloc _⟩

set_option maxRecDepth 100000 in
set_option maxHeartbeats 3200000 in
theorem stSays (a : Option Addr) (n cap : Nat) (ks : List Int) (sa : Option Addr) (sn sc : Nat) (d : List Int) (s : Sd) (f : Bool) (w : World) (h : RL iv w a n cap ks) (hd : RL iv w sa sn sc d) (hn : n ≤ 1000000) (hsn : sn ≤ 1000000) (hs : Sok w s ks d f) :
    Calls Try.prog 10 #[.slice a n cap, .slice sa sn sc, .agg #[.int .i64 (s.len : Int), .slice s.fa s.fn s.fc, .bool s.all, .slice s.ea s.en s.ec], .bool f] w (FV w (.bool true)) := by
  have hbd := h.bound
  have hbd2 := hd.bound
  obtain ⟨hlen, hall, hex, F, hF, hfp⟩ := hs
  have hbe := hex.bound
  have hbf := hF.bound
  have hen : s.en = sn := by rw [← hex.2, List.length_map, hd.2]
  have hln : s.len = n := by rw [hlen, h.2]
  rw [hen, hln]
  rw [hen] at hex hbe
  have HR := Lib.hid h
  have HD := Lib.hid hd
  have HEX := Lib.hid hex.rl
  have HALL := Lib.hid hall
  have HSM : Hid (∀ w0 wx, f = true → Same w wx → Same w0 wx → Calls Try.prog 25 #[.slice s.fa s.fn s.fc, .slice a n cap] wx (FV w0 (.bool true))) := Lib.hid (fun w0 wx hf hx h0 => fv h0 (stSame s.fa s.fn s.fc F a n cap ks wx (hF.rl.still hx) (h.still hx) (by have := (hfp hf).length_eq; have := hF.2; have := h.2; omega) hn (hfp hf)))
  have HHAS : Hid (∀ x wx, Same w wx → Calls Try.prog 23 #[.slice a n cap, .int .i64 x] wx fun e w' => e = .returned (.bool (decide (x ∈ ks))) ∧ wx = w') := Lib.hid (fun x wx hx => stHas a n cap ks x wx (h.still hx))
  clear h hd hlen hall hex hF hfp hen hln
  generalize s.len = z1 at *
  generalize s.fa = fa at *
  generalize s.fn = fn at *
  generalize s.fc = fc at *
  generalize s.all = all at *
  generalize s.ea = ea at *
  generalize s.en = en at *
  generalize s.ec = ec at *
  clear s
  obtain ⟨w1, hw1⟩ : ∃ w1, w1 = w.alloc (.cells #[.int .i64 (n : Int), .slice fa fn fc, .bool all, .slice ea sn ec] 35) := ⟨_, rfl⟩
  obtain ⟨g, hg⟩ : ∃ g, g = w.heap.size := ⟨_, rfl⟩
  have HS1 : Hid (Same w w1) := Lib.hid (by rw [hw1]; exact (Only.refl _ _).alloc _)
  have HB1 : Hid (w1.heap[g]? = some (.cells #[.int .i64 (n : Int), .slice fa fn fc, .bool all, .slice ea sn ec] 35 (0, 0))) := Lib.hid (by rw [hw1, hg]; exact heap_alloc_new _ _)
  have c0 : w1.cell? ⟨g, 0, none⟩ = some (.int .i64 (n : Int)) := block_cell HB1.out rfl
  have c1 : w1.cell? ⟨g, 1, none⟩ = some (.slice fa fn fc) := block_cell HB1.out rfl
  have c2 : w1.cell? ⟨g, 2, none⟩ = some (.bool all) := block_cell HB1.out rfl
  have c3 : w1.cell? ⟨g, 3, none⟩ = some (.slice ea sn ec) := block_cell HB1.out rfl
  go_enter Try.func10, Try.ntmps10
  go_upto_region 2 with fail
  rw [← hw1, ← hg]
  clear hw1 hg
  go_wp2_with fail
  go_loop [9, 21] (fun al i => ∃ k : Nat, k ≤ sn ∧ i = .int .i64 (k : Int) ∧ al = .bool ((d.take k).all fun x => decide (x ∈ ks))) (fun _ i => sn - (intOf i).toNat)
  case atStart => exact ⟨0, Nat.zero_le _, rfl, by simp⟩
  case round =>
    obtain ⟨k, hk, rfl, rfl⟩ := hrel
    by_cases hlt : k < sn
    · have hlt' : (k : Int) < (sn : Int) := by omega
      obtain ⟨b, off, rfl, hb, hc⟩ := (HD.out.still HS1.out).at (by omega)
      obtain ⟨x, hx⟩ := HD.out.get hlt
      have d0 := hc k x hx
      obtain ⟨b2, off2, rfl, hb2, hc2⟩ := (HEX.out.still HS1.out).at (by omega)
      have d1 := hc2 k (decide (x ∈ ks)) (by rw [List.getElem?_map, hx]; rfl)
      have HH := Lib.hid (HHAS.out x w1 HS1.out)
      have HX := Lib.hid hx
      clear hc hc2 hx
      by_cases hm : x ∈ ks
      · rw [decide_eq_true hm] at HH d1
        have HD1 : Hid (((d.take (k + 1)).all fun x => decide (x ∈ ks)) = (d.take k).all fun x => decide (x ∈ ks)) := Lib.hid (by
          rw [take_snoc d k x HX.out, List.all_append, List.all_cons, List.all_nil, decide_eq_true hm, Bool.and_true, Bool.and_true])
        clear hm
        generalize ((d.take k).all fun x => decide (x ∈ ks)) = tt at *
        cases tt with
        | true =>
          go_wp2_with fail
          refine HH.out.mono ?_
          rintro e w2 ⟨rfl, rfl⟩
          go_wp2_with fail
          go_round
          case rel => exact ⟨k + 1, by omega, by go_num, by rw [HD1.out]⟩
          case measure => simp [intOf]; omega
        | false =>
          go_wp2_with fail
          refine HH.out.mono ?_
          rintro e w2 ⟨rfl, rfl⟩
          go_wp2_with fail
          go_round
          case rel => exact ⟨k + 1, by omega, by go_num, by rw [HD1.out]⟩
          case measure => simp [intOf]; omega
      · rw [decide_eq_false hm] at HH d1
        have HD1 : Hid (((d.take (k + 1)).all fun x => decide (x ∈ ks)) = false) := Lib.hid (by
          rw [take_snoc d k x HX.out, List.all_append, List.all_cons, List.all_nil, decide_eq_false hm, Bool.and_true, Bool.and_false])
        clear hm
        generalize ((d.take k).all fun x => decide (x ∈ ks)) = tt at *
        cases tt with
        | true =>
          go_wp2_with fail
          refine HH.out.mono ?_
          rintro e w2 ⟨rfl, rfl⟩
          go_wp2_with fail
          go_round
          case rel => exact ⟨k + 1, by omega, by go_num, by rw [HD1.out]⟩
          case measure => simp [intOf]; omega
        | false =>
          go_wp2_with fail
          refine HH.out.mono ?_
          rintro e w2 ⟨rfl, rfl⟩
          go_wp2_with fail
          go_round
          case rel => exact ⟨k + 1, by omega, by go_num, by rw [HD1.out]⟩
          case measure => simp [intOf]; omega
    · obtain rfl : k = sn := by omega
      have HE : Hid (((d.take k).all fun x => decide (x ∈ ks)) = all) := Lib.hid (by
        rw [HALL.out, List.take_of_length_le (by rw [HD.out.2]; exact Nat.le_refl _), Bool.eq_iff_iff, List.all_eq_true]
        simp)
      rw [HE.out]
      clear HE HALL
      cases f with
      | true =>
        have HS3 : Hid (Calls Try.prog 25 #[.slice fa fn fc, .slice a n cap] w1 (FV w1 (.bool true))) := Lib.hid (HSM.out w1 w1 (by trivial) HS1.out (Only.refl _ _))
        cases all with
        | true =>
          go_wp2_with fail
          refine HS3.out.mono ?_
          rintro e w2 ⟨rfl, hS2⟩
          have c4 : w2.cell? ⟨g, 2, none⟩ = some (.bool true) := block_cell (heap_still hS2 HB1.out) rfl
          have HSF : Hid (Same w w2) := Lib.hid (HS1.out.trans hS2)
          clear hS2
          go_wp2_with fail
          go_ret
          exact ⟨rfl, HSF.out⟩
        | false =>
          go_wp2_with fail
          refine HS3.out.mono ?_
          rintro e w2 ⟨rfl, hS2⟩
          have c4 : w2.cell? ⟨g, 2, none⟩ = some (.bool false) := block_cell (heap_still hS2 HB1.out) rfl
          have HSF : Hid (Same w w2) := Lib.hid (HS1.out.trans hS2)
          clear hS2
          go_wp2_with fail
          go_ret
          exact ⟨rfl, HSF.out⟩
      | false =>
        cases all with
        | true =>
          go_wp2_with fail
          go_ret
          exact ⟨rfl, HS1.out⟩
        | false =>
          go_wp2_with fail
          go_ret
          exact ⟨rfl, HS1.out⟩
end Go.Proofs.Ytpccodjmjgfloaa.st
