/-
  Or of two dense arrays, by their bits; spec.BAOr.
-/
import Derived.Test.YtacjkbljokjdkaaGreatMH
namespace Go.Proofs.YtacjkbljokjdkaaGreat.ba
open Go.RowKit Go.Proofs.YtacjkbljokjdkaaGreat.base Go.Proofs.YtacjkbljokjdkaaGreat.heap Go.Proofs.YtacjkbljokjdkaaGreat.rows Go.Proofs.YtacjkbljokjdkaaGreat.bit Go.Proofs.YtacjkbljokjdkaaGreat.bs
set_option linter.unusedVariables false
theorem any_nil {ws l : List Nat} {lo hi : Nat} (h : Rep (wf ws) l) (he : Ends ws lo hi false) : l = [] := by
  have := any_set h he
  cases l with
  | nil => rfl
  | cons x l => simp at this
theorem any_cons {ws l : List Nat} {lo hi : Nat} (h : Rep (wf ws) l) (he : Ends ws lo hi true) : l ≠ [] ∧ ws.length ≠ 0 := by
  refine ⟨fun e => ?_, fun e => ?_⟩
  · have := any_set h he
    rw [e] at this; cases this
  · have h1 := (he.2.2.2 rfl).1.1
    rw [bit_far ws lo (by omega)] at h1; cases h1
section
variable {w : World} {p1 c1 lo1 hi1 p2 c2 lo2 hi2 : Nat} {a1 a2 : Option Addr} {ws1 ws2 l1 l2 : List Nat} {any1 any2 : Bool}
set_option maxRecDepth 100000 in
set_option maxHeartbeats 1600000 in
theorem orDD (h1 : Dn w p1 a1 c1 ws1 lo1 hi1 any1) (h2 : Dn w p2 a2 c2 ws2 lo2 hi2 any2) (e1 : Ends ws1 lo1 hi1 any1) (e2 : Ends ws2 lo2 hi2 any2) (r1 : Rep (wf ws1) l1) (r2 : Rep (wf ws2) l2) :
    Calls Tryz.prog 82 #[.pointer (some ⟨p1, 0, none⟩), .pointer (some ⟨p2, 0, none⟩)] w (NewA ⟨true, orWords l1 l2 ws1.length ws2.length, orL l1 l2⟩ w) := by
  have HC1 : Hid (Calls Tryz.prog 57 #[.pointer (some ⟨p1, 0, none⟩)] w fun e w' => e = .returned (.int .u64 ((64 * ws1.length : Nat) : Int)) ∧ w = w') := Lib.hid ((capD h1).mono fun e w' h => ⟨h.1, h.2.symm⟩)
  have HC2 : Hid (Calls Tryz.prog 57 #[.pointer (some ⟨p2, 0, none⟩)] w fun e w' => e = .returned (.int .u64 ((64 * ws2.length : Nat) : Int)) ∧ w = w') := Lib.hid ((capD h2).mono fun e w' h => ⟨h.1, h.2.symm⟩)
  cases any1 with
  | false =>
    have hn := any_nil r1 e1
    have HCP : Hid (Calls Tryz.prog 95 #[.pointer (some ⟨p2, 0, none⟩)] w (NewA ⟨true, orWords l1 l2 ws1.length ws2.length, orL l1 l2⟩ w)) := Lib.hid (by
      have := copyD h2 e2 r2
      rw [hn, orL_nil r2.1]; exact this)
    obtain ⟨b, ha, _, _, _, _, _, c3, _, _, _⟩ := h1.facts
    generalize (⟨true, orWords l1 l2 ws1.length ws2.length, orL l1 l2⟩ : BA) = D at *
    by_cases hz : 64 * ws1.length = 0
    · rw [hz] at HC1
      clear h1 h2 e1 e2 r1 r2 hn HC2 hz
      go_enter Tryz.func82, Tryz.ntmps82
      go_wp2_with (go_at_call 57; refine HC1.out.mono ?_)
      rintro e w' ⟨rfl, rfl⟩
      go_wp2_with (go_at_call 95; refine HCP.out.mono ?_)
      intro e w1 hR
      have HR := Lib.hid hR
      obtain ⟨t, u, F, rfl, _⟩ := hR
      go_wp2_with fail
      go_ret
      exact HR.out
    · have hz1 : (((64 * ws1.length : Nat) : Int) == 0) = false := by rw [beq_eq_false_iff_ne]; omega
      generalize 64 * ws1.length = m1 at *
      clear h1 h2 e1 e2 r1 r2 hn HC2 hz
      go_enter Tryz.func82, Tryz.ntmps82
      go_wp2_with (go_at_call 57; refine HC1.out.mono ?_)
      rintro e w' ⟨rfl, rfl⟩
      go_wp2_with (go_at_call 95; refine HCP.out.mono ?_)
      intro e w1 hR
      have HR := Lib.hid hR
      obtain ⟨t, u, F, rfl, _⟩ := hR
      go_wp2_with fail
      go_ret
      exact HR.out
  | true =>
    obtain ⟨hn1, hn2⟩ := any_cons r1 e1
    obtain ⟨b, ha, _, _, _, _, _, c3, _, _, _⟩ := h1.facts
    have hz1 : (((64 * ws1.length : Nat) : Int) == 0) = false := by rw [beq_eq_false_iff_ne]; omega
    cases any2 with
    | false =>
      have hn := any_nil r2 e2
      have HCP : Hid (Calls Tryz.prog 95 #[.pointer (some ⟨p1, 0, none⟩)] w (NewA ⟨true, orWords l1 l2 ws1.length ws2.length, orL l1 l2⟩ w)) := Lib.hid (by
        have := copyD h1 e1 r1
        have e : orWords l1 l2 ws1.length ws2.length = ws1.length := by unfold orWords; rw [if_neg hn1, if_pos hn]
        rw [e, hn]; exact this)
      obtain ⟨b2, ha2, _, _, _, _, _, c32, _, _, _⟩ := h2.facts
      generalize (⟨true, orWords l1 l2 ws1.length ws2.length, orL l1 l2⟩ : BA) = D at *
      generalize 64 * ws1.length = m1 at *
      by_cases hz : 64 * ws2.length = 0
      · rw [hz] at HC2
        clear h1 h2 e1 e2 r1 r2 hn hz hn1 hn2
        go_enter Tryz.func82, Tryz.ntmps82
        go_wp2_with (go_at_call 57; refine HC1.out.mono ?_)
        rintro e w' ⟨rfl, rfl⟩
        go_wp2_with (go_at_call 57; refine HC2.out.mono ?_)
        rintro e w' ⟨rfl, rfl⟩
        go_wp2_with (go_at_call 95; refine HCP.out.mono ?_)
        intro e w1 hR
        have HR := Lib.hid hR
        obtain ⟨t, u, F, rfl, _⟩ := hR
        go_wp2_with fail
        go_ret
        exact HR.out
      · have hz2 : (((64 * ws2.length : Nat) : Int) == 0) = false := by rw [beq_eq_false_iff_ne]; omega
        generalize 64 * ws2.length = m2 at *
        clear h1 h2 e1 e2 r1 r2 hn hz hn1 hn2
        go_enter Tryz.func82, Tryz.ntmps82
        go_wp2_with (go_at_call 57; refine HC1.out.mono ?_)
        rintro e w' ⟨rfl, rfl⟩
        go_wp2_with (go_at_call 57; refine HC2.out.mono ?_)
        rintro e w' ⟨rfl, rfl⟩
        go_wp2_with (go_at_call 95; refine HCP.out.mono ?_)
        intro e w1 hR
        have HR := Lib.hid hR
        obtain ⟨t, u, F, rfl, _⟩ := hR
        go_wp2_with fail
        go_ret
        exact HR.out
    | true =>
      obtain ⟨hm1, hm2⟩ := any_cons r2 e2
      have hs := orL_spec l2 r1.1
      have hr : Rep (wf (tab (orW_ ws1 ws2) (max ws1.length ws2.length) (max ws1.length ws2.length))) (orL l1 l2) := (rep_or r1 r2 hs.1 hs.2).congr (fun j => by
        rw [wf_tab]
        split
        · rfl
        · show ws1.getD j 0 ||| ws2.getD j 0 = 0
          rw [getD_far ws1 j (by omega), getD_far ws2 j (by omega)]; rfl)
      refine (orBoth h1 h2 hn2 hm2).mono fun e w' h => ?_
      have := h.arr hr
      rw [tab_len] at this
      have e : orWords l1 l2 ws1.length ws2.length = max ws1.length ws2.length := by unfold orWords; rw [if_neg hn1, if_neg hm1]
      rw [e]; exact this
set_option maxRecDepth 100000 in
set_option maxHeartbeats 1600000 in
theorem orD (h1 : Dn w p1 a1 c1 ws1 lo1 hi1 any1) (h2 : Dn w p2 a2 c2 ws2 lo2 hi2 any2) (e1 : Ends ws1 lo1 hi1 any1) (e2 : Ends ws2 lo2 hi2 any2) (r1 : Rep (wf ws1) l1) (r2 : Rep (wf ws2) l2) :
    Calls Tryz.prog 66 #[.pointer (some ⟨p1, 0, none⟩), .iface 80 (.pointer (some ⟨p2, 0, none⟩))] w (NewA ⟨true, orWords l1 l2 ws1.length ws2.length, orL l1 l2⟩ w) := by
  have HN := Lib.hid (orDD h1 h2 e1 e2 r1 r2)
  have hta := isDense p2
  generalize (⟨true, orWords l1 l2 ws1.length ws2.length, orL l1 l2⟩ : BA) = D at *
  clear h1 h2 e1 e2 r1 r2
  go_enter Tryz.func66, Tryz.ntmps66
  go_wp2_with fail
  refine HN.out.mono ?_
  intro e w1 hR
  have HR := Lib.hid hR
  obtain ⟨t, u, F, rfl, _⟩ := hR
  clear HN
  go_wp2_with fail
  go_ret
  exact HR.out
end
theorem does_orD {s : List BA} {i j : Nat} {d e : BA} (hd : s[i]? = some d) (hdd : d.dense = true) (he : s[j]? = some e) (hed : e.dense = true) : Does s { op := 11, on := i, by_ := j } (s ++ [⟨true, orWords d.set e.set d.words e.words, orL d.set e.set⟩]) {} := by
  intro w q c a l h hs hl
  obtain ⟨p, ab, cb, ws, lo, hi, any, hx, h1, h2, h3, h4⟩ := dense_at hd hdd h hs
  obtain ⟨p', ab', cb', ws', lo', hi', any', hx', h1', h2', h3', h4'⟩ := dense_at he hed h hs
  refine (stepOr h (by omega) i j p d ⟨true, orWords d.set e.set d.words e.words, orL d.set e.set⟩ _ hx _ hx' (Lib.hid (fun wx hS => ?_))).mono fun e w' hp => does_more h hs {} rfl hp
  rw [h1, h1']
  exact orD (h2.still hS) (h2'.still hS) h4 h4' h3 h3'
theorem orL_snoc (A B : List Nat) (k x : Nat) (h : B[k]? = some x) : orL A (B.take (k + 1)) = put (orL A (B.take k)) x := by
  unfold orL; rw [take_snoc B k x h, List.foldl_append]; rfl
theorem orL_len : ∀ B : List Nat, ∀ A, (orL A B).length ≤ A.length + B.length := by
  intro B
  induction B with
  | nil => intro A; simp [orL]
  | cons x B ih =>
    intro A
    have h1 := ih (put A x)
    have h2 := put_len A x
    show (orL (put A x) B).length ≤ _
    rw [List.length_cons]; omega
set_option maxRecDepth 100000 in
set_option maxHeartbeats 1600000 in
theorem baOr {w : World} {a b : Option Addr} {n ca m cb : Nat} {A B : List Nat} (h1 : OU w a n ca A) (h2 : OU w b m cb B) (hA : Asc A) (hn : n + m ≤ 1000) : Calls Tryz.prog 19 #[.slice a n ca, .slice b m cb] w (MkP (orL A B) w) := by
  have H1 := Lib.hid h1
  have H2 := Lib.hid h2
  have HA := Lib.hid hA
  have HLA : Hid (A.length = n ∧ B.length = m) := Lib.hid ⟨h1.2, h2.2⟩
  have hbd := h2.bound
  clear h1 h2 hA
  go_enter Tryz.func19, Tryz.ntmps19
  go_wp2_with fail
  go_loopw [0, 5] (fun s i wr => ∃ (k j : Nat) (a' : Option Addr) (c' : Nat), k ≤ m ∧ i = .int .i64 (k : Int) ∧ s = .slice a' j c' ∧ Hid (OU wr a' j c' (orL A (B.take k)) ∧ Same w wr)) (fun _ i _ => m - (intOf i).toNat)
  case atStart => exact ⟨0, n, a, ca, Nat.zero_le _, rfl, rfl, Lib.hid ⟨H1.out, Only.refl _ _⟩⟩
  case round =>
    obtain ⟨k, j, a', c', hk, rfl, rfl, HO⟩ := hrel
    by_cases hlt : k < m
    · have hlt' : (k : Int) < (m : Int) := by omega
      have hk0 : (0 : Int) ≤ (k : Int) := by omega
      obtain ⟨b1, o1, ha1, hb1, hc1⟩ := (H2.out.rl.still HO.out.2).at (by omega)
      obtain ⟨x, hx⟩ := H2.out.rl.get hlt
      have c1 := hc1 k x hx
      have HX := Lib.hid hx
      have HP := Lib.hid (baPut HO.out.1 (orL_spec (B.take k) HA.out).1 x (by
        have h1 := orL_len (B.take k) A
        have h2 := HO.out.1.2
        have h3 := HLA.out
        rw [List.length_take] at h1
        omega))
      subst ha1
      unfold uv at HP c1
      clear hx hc1
      go_wp2_with fail
      refine HP.out.mono ?_
      rintro e w2 ⟨a2, c2, rfl, hO, hS, _⟩
      have HO2 : Hid (OU w2 a2 (put (orL A (B.take k)) x).length c2 (orL A (B.take (k + 1))) ∧ Same w w2) := Lib.hid ⟨by rw [orL_snoc A B k x HX.out]; exact hO, Same.trans HO.out.2 hS⟩
      clear hO hS HP
      go_wp2_with fail
      go_roundw
      case rel => exact ⟨k + 1, _, a2, c2, by omega, by go_num, rfl, HO2⟩
      case measure => simp [intOf]; omega
    · have hlt' : ¬ (k : Int) < (m : Int) := by omega
      obtain rfl : k = m := by omega
      have HF : Hid (B.take k = B) := Lib.hid (List.take_of_length_le (by have := HLA.out; omega))
      rw [HF.out] at HO
      go_wp2_with fail
      go_ret
      exact ⟨a', c', by rw [HO.out.1.2]; rfl, by rw [HO.out.1.2]; exact HO.out.1, HO.out.2⟩
theorem makesOr {A B : List Nat} (hA : Asc A) (hn : A.length + B.length ≤ 1000) : MakesC 19 A B (orL A B) :=
  fun sa sc sb scb wx h1 h2 => baOr h1 h2 hA hn
end Go.Proofs.YtacjkbljokjdkaaGreat.ba
