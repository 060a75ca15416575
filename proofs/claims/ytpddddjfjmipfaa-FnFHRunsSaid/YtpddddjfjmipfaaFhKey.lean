/-
  DecreaseKey.
-/
import Derived.Test.YtpddddjfjmipfaaFhDec
namespace Go.Proofs.Ytpddddjfjmipfaa.fh
open Go.RowKit Go.Proofs.Ytpddddjfjmipfaa.base Go.Proofs.Ytpddddjfjmipfaa.heap Go.Proofs.Ytpddddjfjmipfaa.rows Go.Proofs.Ytpddddjfjmipfaa.flt
set_option linter.unusedVariables false

/-- a value that is an error -/
def IsErr (v : Value) : Prop := ∃ t x, v = .iface t x
set_option maxRecDepth 100000 in
theorem errNew (s : ByteArray) (w : World) : Calls Try.prog 41 #[.string s] w fun e w' => ∃ er, e = .returned er ∧ IsErr er ∧ Same w w' := by
  go_enter Try.func41, Try.ntmps41
  go_wp2_with fail
  go_ret
  exact ⟨_, rfl, ⟨_, _, rfl⟩, (Only.refl _ _).alloc _⟩
/-- what DecreaseKey hands back -/
def DkP (hb x v : Nat) (A : List Nat) (pr : Nat → Nat) (w : World) (e : Ending) (w' : World) : Prop :=
  (fval (pr x) ≤ fval v ∧ Same w w' ∧ ∃ er, IsErr er ∧ e = .returned (.tuple #[.pointer none, er])) ∨
  (fval v < fval (pr x) ∧ e = .returned (.tuple #[pp x, .nilIface]) ∧ HpX w' hb A (put pr x v) ∧ Only (Fp hb A) w w')
set_option maxRecDepth 100000 in
set_option maxHeartbeats 1600000 in
theorem decreaseKey (hb x v : Nat) (A : List Nat) (pr : Nat → Nat) (w : World) (h : HpX w hb A pr) (hx : x ∈ A) (hv : FinW v) (hsz : A.length < 1000000) :
    Calls Try.prog 29 #[pp hb, pp x, .float .f64 v] w (DkP hb x v A pr w) := by
  obtain ⟨F, G, mn, hp, hpr⟩ := id h
  have hn : (A.length == 0) = false := by
    cases A with
    | nil => cases hx
    | cons a l => rfl
  have HE := Lib.hid (isEmpty w hb A.length mn hp.obj)
  rw [hn] at HE
  have c0 := hp.mem.pr hx
  rw [hpr x hx] at c0
  have hfx : FinW (pr x) := by rw [← hpr x hx]; exact hp.fo.fin x hx
  have HGE := Lib.hid (ge_words hv hfx)
  have HH := Lib.hid h
  obtain ⟨px, hpx⟩ : ∃ px, pr x = px := ⟨_, rfl⟩
  have HPX := Lib.hid hpx
  rw [hpx] at c0 HGE
  clear hp hpr hn h hfx hpx
  by_cases hc : fval px ≤ fval v
  · have hg : (FloatKind.f64.format.order v px == some .gt || FloatKind.f64.format.order v px == some .eq) = true := by rw [HGE.out]; exact decide_eq_true hc
    have HC := Lib.hid hc
    have HER := Lib.hid (fun s => errNew s w)
    clear hc HGE
    go_enter Try.func29, Try.ntmps29
    go_wp2_with (first | (go_at_call 18; (with_reducible refine HE.out.mono ?_); rintro e w1 ⟨rfl, rfl⟩) | (go_at_call 41; (with_reducible refine (HER.out _).mono ?_); rintro e w2 ⟨er, rfl, her, hs⟩))
    go_ret2
    exact .inl ⟨by rw [HPX.out]; exact HC.out, hs, er, her, rfl⟩
  · have hg : (FloatKind.f64.format.order v px == some .gt || FloatKind.f64.format.order v px == some .eq) = false := by rw [HGE.out]; exact decide_eq_false hc
    have HC : Hid (fval v < fval px) := Lib.hid (by omega)
    have HD := Lib.hid (dku hb x v A pr w HH.out hx hv (by rw [HPX.out]; have := HC.out; omega) hsz)
    clear hc HGE
    go_enter Try.func29, Try.ntmps29
    go_wp2_with (first | (go_at_call 18; (with_reducible refine HE.out.mono ?_); rintro e w1 ⟨rfl, rfl⟩) | (go_at_call 42; with_reducible refine HD.out.mono ?_))
    rintro e w2 ⟨rfl, h1, h2⟩
    have HF := Lib.hid (And.intro h1 h2)
    clear h1 h2
    go_wp2_with fail
    go_ret2
    exact .inr ⟨by rw [HPX.out]; exact HC.out, rfl, HF.out⟩
end Go.Proofs.Ytpddddjfjmipfaa.fh
