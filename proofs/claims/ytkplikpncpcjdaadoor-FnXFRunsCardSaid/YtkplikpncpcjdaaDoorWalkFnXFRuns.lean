/-
  FnXFRuns: the walk.
-/
import Derived.Test.YtkplikpncpcjdaaDoorXfTru
namespace Go.Proofs.YtkplikpncpcjdaaDoor.walkFnXFRuns
open Go.ChangeShapes Go.WideShapes Go.ChangeAt Go.RowKit Go.Proofs.YtkplikpncpcjdaaDoor.base Go.Proofs.YtkplikpncpcjdaaDoor.heap Go.Proofs.YtkplikpncpcjdaaDoor.rows Go.Proofs.YtkplikpncpcjdaaDoor.xf
set_option linter.unusedVariables false

theorem read_list {W : World} {v : Value} (h : T Tryd.prog W 22 [v]) : ∃ (a : Option Addr) (n cap : Nat) (l : List It), v = .slice a n cap ∧ RS itc 2 W a n cap l ∧ ∀ y ∈ l, y.1 < 2 ^ 64 := by
  obtain ⟨a, n, cap, l, rfl, h, hs⟩ := T.slice (c := itc) (K := 2) (fun y : It => y.1 < 2 ^ 64) itc_len itc_one (by omega) Tryd.underlying22 (by kernel_rfl) (fun cs hl ht => by
    match cs, hl with
    | [v0, v1], _ =>
      have h0 := ht.field Tryd.underlying28 0 _ rfl
      have h1 := ht.field Tryd.underlying28 1 _ rfl
      obtain ⟨k0, rfl, hk⟩ := T.int (v := v0) h0 Tryd.underlying25
      obtain ⟨k1, rfl, _⟩ := T.int (v := v1) h1 Tryd.underlying3
      have hk' := wf_u64 hk
      obtain ⟨K, rfl⟩ := Int.eq_ofNat_of_zero_le hk'.1
      exact ⟨(K, k1), rfl, by have := hk'.2; show K < 2 ^ 64; omega⟩) h
  exact ⟨a, n, cap, l, rfl, h, hs⟩
theorem read_keys {W : World} {v : Value} (h : T Tryd.prog W 34 [v]) : ∃ (a : Option Addr) (n cap : Nat) (l : List Nat), v = .slice a n cap ∧ RL uv W a n cap l ∧ ∀ y ∈ l, y < 2 ^ 64 := by
  obtain ⟨a, n, cap, l, rfl, h, hs⟩ := T.slice (c := fun k : Nat => [uv k]) (K := 1) (fun y : Nat => y < 2 ^ 64) (fun _ => rfl) (fun x u hu => by simp at hu; subst hu; rfl) (by omega) Tryd.underlying34 (by kernel_rfl) (fun cs hl ht => by
    match cs, hl with
    | [v0], _ =>
      obtain ⟨k0, rfl, hk⟩ := T.int (v := v0) ht Tryd.underlying25
      have hk' := wf_u64 hk
      obtain ⟨K, rfl⟩ := Int.eq_ofNat_of_zero_le hk'.1
      exact ⟨K, rfl, by have := hk'.2; show K < 2 ^ 64; omega⟩) h
  exact ⟨a, n, cap, l, rfl, h.rl, hs⟩
theorem read_steps {W : World} {v : Value} (h : Reads Tryd.prog W 32 v) : ∃ (a : Option Addr) (n cap : Nat) (l : List Stp), v = .slice a n cap ∧ RS stc 3 W a n cap l ∧ Has W l := by
  obtain ⟨a, n, cap, l, rfl, h, hs⟩ := T.slice (c := stc) (K := 3) (fun s : Stp => StIn W s ∧ (∀ y ∈ s.I, y.1 < 2 ^ 64) ∧ ∀ k ∈ s.K, k < 2 ^ 64) stc_len stc_one (by omega) Tryd.underlying32 (by kernel_rfl) (fun cs hl ht => by
    match cs, hl with
    | [v0, v1, v2], _ =>
      have h0 := ht.field Tryd.underlying36 0 _ rfl
      have h1 := ht.field Tryd.underlying36 1 _ rfl
      have h2 := ht.field Tryd.underlying36 2 _ rfl
      obtain ⟨k0, rfl, _⟩ := T.int (v := v0) h0 Tryd.underlying3
      obtain ⟨ia, im, ic, I, rfl, hI, hI2⟩ := read_list (v := v1) h1
      obtain ⟨ka, km, kc, K, rfl, hK, hK2⟩ := read_keys (v := v2) h2
      exact ⟨⟨k0, ia, im, ic, I, ka, km, kc, K⟩, rfl, ⟨hI, hK⟩, hI2, hK2⟩) (reads_t h Tryd.underlying32)
  exact ⟨a, n, cap, l, rfl, h, hs⟩
theorem ran_same {l : List Stp} {A B : List An} (ha : Ran l A) (hb : Ran l B) : ∀ (i : Nat) (x y : An), A[i]? = some x → B[i]? = some y → SameAn x y := fun i x y hx hy => by
  have hi : i < A.length := (List.getElem?_eq_some_iff.1 hx).1
  obtain ⟨s, hs⟩ : ∃ s, l[i]? = some s := ⟨l[i]'(by rw [← ha.1]; exact hi), List.getElem?_eq_getElem _⟩
  obtain ⟨x1, x2, x3⟩ := ha.2 i s x hs hx
  obtain ⟨y1, y2, y3⟩ := hb.2 i s y hs hy
  exact ⟨x1.trans y1.symm, x2.trans y2.symm, x3.trans y3.symm⟩
set_option maxRecDepth 100000 in
set_option maxHeartbeats 1600000 in
theorem main (sz : Nat) (hsz : sz < 256) (a : Option Addr) (n cap : Nat) (l0 : List Stp) (w : World) (h : RS stc 3 w a n cap l0) (hH : Has w l0) (hT : Tabs w) :
    Calls Tryd.prog 4 #[.int .u8 (sz : Int), .slice a n cap] w fun e w' => e = .returned (.bool true) ∧ Below w.heap.size w w' := by
  have HR := Lib.hid h
  have HH := Lib.hid hH
  have HT := Lib.hid hT
  have HFT := Lib.hid (fits17 a n cap l0 w h)
  have HB : Hid (∀ wx, Calls Tryd.prog 5 #[.int .u8 (sz : Int)] wx (fun e w' => ∃ m, Bits m ∧ e = .returned (.int .i64 (m : Int)) ∧ Same wx w')) := Lib.hid (fun wx => trBits_of sz wx hsz)
  clear h hH hT
  go_enter Tryd.func4, Tryd.ntmps4
  go_wp2_with fail
  refine HFT.out.mono ?_
  rintro e w1 ⟨fit, rfl, hs1, _⟩
  have HS1 := Lib.hid hs1
  clear hs1 HFT
  cases fit with
  | false =>
    go_wp2_with fail
    go_ret
    exact ⟨rfl, HS1.out.below (Nat.le_refl _) (fun _ _ h => h)⟩
  | true =>
    go_wp2_with fail
    refine (HB.out w1).mono ?_
    rintro e w2 ⟨m, hm, rfl, hs2⟩
    have HM := Lib.hid hm
    have HS2 := Lib.hid (HS1.out.trans hs2)
    have HK := Lib.hid (trMask_of m w2 hm)
    clear hm hs2 HB HS1
    go_wp2_with fail
    refine HK.out.mono ?_
    rintro e w3 ⟨rfl, hs3⟩
    have HS3 := Lib.hid (HS2.out.trans hs3)
    clear hs3 HK HS2
    have HST := Lib.hid (trSteps_of w3 a n cap m l0 (HR.out.still HS3.out) (fun s hs => ⟨(HH.out s hs).1.still HS3.out, (HH.out s hs).2⟩) HM.out)
    go_wp2_with fail
    refine HST.out.mono ?_
    rintro e w4 ⟨a4, n4, c4, S, rfl, h60, hS⟩
    have HS4 := Lib.hid (HS3.out.trans hS.row.same)
    have HP := Lib.hid hS
    have HXR := Lib.hid (xfRun m HM.out a4 n4 c4 S w4 hS.row.row.rs (by omega) (fun s hs => ⟨(hS.okay s hs).1, (hS.ins s hs).1⟩) (HT.out.still HS4.out))
    clear hS HST
    go_wp2_with fail
    refine HXR.out.mono ?_
    rintro e w5 ⟨xa, xc, As, rfl, hr5, hin5, hran5, hs5⟩
    have HX5 := Lib.hid (And.intro hr5 (And.intro hin5 hran5))
    have HS5 := Lib.hid (HS4.out.trans hs5)
    have HTR := Lib.hid (trRun_of w5 m a4 n4 c4 S (HP.out.row.row.rs.still hs5) (by omega) (fun s hs => ⟨(HP.out.okay s hs).1, (HP.out.okay s hs).2, (HP.out.ins s hs).1.still hs5⟩))
    clear hr5 hin5 hran5 hs5 HXR
    go_wp2_with fail
    refine HTR.out.mono ?_
    rintro e w6 ⟨ta, tc, Bs, rfl, hr6, hin6, hran6, hs6⟩
    have HS6 := Lib.hid (HS5.out.trans hs6)
    have HSM := Lib.hid (trSame_of w6 xa ta n4 xc tc As Bs (HX5.out.1.still hs6) hr6 (fun x hx => (HX5.out.2.1 x hx).still hs6) hin6 (ran_same HX5.out.2.2 hran6))
    clear hr6 hin6 hran6 hs6 HTR
    go_wp2_with fail
    refine HSM.out.mono ?_
    rintro e w7 ⟨rfl, hs7⟩
    have HS7 := Lib.hid (HS6.out.trans hs7)
    clear hs7
    go_wp2_with fail
    go_ret
    exact ⟨rfl, HS7.out.below (Nat.le_refl _) (fun _ _ h => h)⟩
theorem walk (W : World) (v0 v1 : Value) (r0 : Reads Tryd.prog W 5 v0) (r1 : Reads Tryd.prog W 32 v1) (hT : Tabs W) :
    Calls Tryd.prog 4 #[v0, v1] W fun e w' => e = .returned (.bool true) ∧ Below W.heap.size W w' := by
  obtain ⟨q, rfl, hq⟩ := r0.int Tryd.underlying5
  have hq' := wf_u8 hq
  obtain ⟨Q, rfl⟩ := Int.eq_ofNat_of_zero_le hq'.1
  obtain ⟨a, n, cap, l, rfl, h, hl⟩ := read_steps r1
  exact main Q (by omega) a n cap l W h hl hT
end Go.Proofs.YtkplikpncpcjdaaDoor.walkFnXFRuns
