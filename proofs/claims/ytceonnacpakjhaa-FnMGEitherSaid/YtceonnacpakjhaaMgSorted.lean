/-
  slices.Clone, slices.SortStableFunc; mgSorted: a copy of a list, sorted by the keys. slices.EqualFunc by the keys.
-/
import Derived.Test.YtceonnacpakjhaaMgStab
import Derived.WalkSpells
namespace Go.Proofs.Ytceonnacpakjhaa.mg
open Go.RowKit Go.Proofs.Ytceonnacpakjhaa.base Go.Proofs.Ytceonnacpakjhaa.heap Go.Proofs.Ytceonnacpakjhaa.rows Go.Proofs.Ytceonnacpakjhaa.pq
set_option linter.unusedVariables false

set_option maxRecDepth 100000 in
theorem insertion0 (w : World) : Calls Try.prog 19 #[.slice none 0 0, .int .i64 0, .int .i64 0, cmpV] w fun e w' => e = .returned (.tuple #[]) ∧ w = w' := by
  go_enter Try.func19, Try.ntmps19
  go_wp2_with fail
  go_loopw [8] (fun i wr => i = .int .i64 1 ∧ wr = w) (fun _ _ => 0)
  case atStart => exact ⟨rfl, rfl⟩
  case round =>
    obtain ⟨rfl, hw⟩ := hrel
    subst hw
    go_wp2_with fail
    go_end0
    exact ⟨rfl, rfl⟩
set_option maxRecDepth 100000 in
theorem stable0 (w : World) : Calls Try.prog 14 #[.slice none 0 0, .int .i64 0, cmpV] w fun e w' => e = .returned (.tuple #[]) ∧ w = w' := by
  have HC := Lib.hid (fun wx => insertion0 wx)
  go_enter Try.func14, Try.ntmps14
  go_wp2_with fail
  go_loopw [7, 8] (fun i j wr => i = .int .i64 0 ∧ j = .int .i64 20 ∧ wr = w) (fun _ _ _ => 0)
  case atStart => exact ⟨rfl, rfl, rfl⟩
  case round =>
    obtain ⟨rfl, rfl, hw⟩ := hrel
    subst hw
    go_wp2_with (go_at_call 19; (with_reducible refine (HC.out _).mono ?_); rintro e w1 ⟨rfl, rfl⟩)
    go_loopw [6] (fun i wx => i = .int .i64 20 ∧ wx = wr) (fun _ _ => 0)
    case atStart => exact ⟨rfl, rfl⟩
    case round =>
      obtain ⟨rfl, hw⟩ := hrel
      subst hw
      go_wp2_with fail
      go_end0
      exact ⟨rfl, rfl⟩
/-- a new sorted list of the elements is handed back: its place -/
def ClP (n : Nat) (L : List It) (w : World) (e : Ending) (w' : World) : Prop :=
  (n = 0 ∧ e = .returned (.slice none 0 0) ∧ w = w') ∨ ∃ g cap, e = .returned (.slice (some ⟨g, 0, none⟩) n cap) ∧ Mi w' g n cap L ∧ Same w w' ∧ w.heap.size ≤ g
set_option maxRecDepth 100000 in
theorem clone (a : Option Addr) (n cap : Nat) (L : List It) (w : World) (h : RS itc 2 w a n cap L) (hn : n < 100000) :
    Calls Try.prog 8 #[.slice a n cap] w (ClP n L w) := by
  have hq : ∀ wx, (binOp .eql 22 (.slice a n cap) (.slice none 0 0)).run Try.prog wx = .ok (.bool a.isNone) wx := fun wx => Lib.run_eql_slice_nil wx _ _ a n cap 0 0 Try.underlying22
  have hbd := h.bound
  cases a with
  | none =>
    have hc : cap = 0 := h.1.nilcap rfl
    have hn0 : n = 0 := by have := h.1.le; omega
    subst hc
    subst hn0
    clear h
    go_enter Try.func8, Try.ntmps8
    go_wp2_with fail
    go_ret
    exact .inl ⟨rfl, rfl, rfl⟩
  | some ad =>
    have HR := Lib.hid h
    have HL := Lib.hid h.2
    clear h
    go_enter Try.func8, Try.ntmps8
    go_wp2_with (at_builtin; refine wpList_append n (L.flatMap itc) rfl _ _ _ _ rfl slIt rfl (Own.made 25 2 w #[] 0 0 (Nat.le_refl _) (by unfold maxLen; omega) rfl (by simp)) rfl ((HR.out.keep (S := fun _ => False) ((Only.refl _ _).alloc _) (fun _ _ => id)).1.src Try.underlying22) (Nat.zero_add _) rfl (by unfold maxLen; omega) (by omega) ?_)
    intro a2 cap2 w2 hG
    obtain ⟨g2, rfl, hg2⟩ := grew_some hG
    have HF : Hid (Mi w2 g2 n cap2 L ∧ Same w w2 ∧ w.heap.size ≤ g2) := Lib.hid ⟨⟨hG.own, HL.out⟩, new_only ((Only.refl _ w).alloc _) hG.only (fun k hk => by have h' : w.heap.size = k := hk; omega), by
      rcases hg2 with h | h
      · omega
      · have h3 : w.heap.size + 1 ≤ g2 := by simpa using h
        omega⟩
    clear hG hg2
    go_wp2_with fail
    go_ret
    exact .inr ⟨g2, cap2, rfl, HF.out⟩

/-- a sorted list of the elements is handed back -/
def SoP (L : List It) (w : World) (e : Ending) (w' : World) : Prop :=
  ∃ a cap L', e = .returned (.slice a L'.length cap) ∧ RS itc 2 w' a L'.length cap L' ∧ Sorted L' ∧ L'.Perm L ∧ Same w w'
set_option maxRecDepth 100000 in
theorem sortStable0 (w : World) : Calls Try.prog 9 #[.slice none 0 0, cmpV] w fun e w' => e = .returned (.tuple #[]) ∧ w = w' := by
  have HC := Lib.hid (fun wx => stable0 wx)
  go_enter Try.func9, Try.ntmps9
  go_wp2_with (go_at_call 14; (with_reducible refine (HC.out _).mono ?_); rintro e w1 ⟨rfl, rfl⟩)
  go_end0
  exact ⟨rfl, rfl⟩
set_option maxRecDepth 100000 in
theorem sortStable (g n cap : Nat) (L : List It) (w : World) (h : Mi w g n cap L) (hsz : n < 100000) : Calls Try.prog 9 #[.slice (some ⟨g, 0, none⟩) n cap, cmpV] w (InP 0 n g n cap L w) := by
  have HC := Lib.hid (stable g n cap L w h hsz)
  clear h
  go_enter Try.func9, Try.ntmps9
  go_wp2_with (go_at_call 14; with_reducible refine HC.out.mono ?_)
  rintro e w1 h3
  have HI : Hid (InP 0 n g n cap L w e w1) := Lib.hid h3
  have he : e = .returned (.tuple #[]) := h3.1
  subst he
  clear h3
  go_wp2_with fail
  go_end0
  exact HI.out
set_option maxRecDepth 100000 in
theorem mgSorted (a : Option Addr) (n cap : Nat) (L : List It) (w : World) (h : RS itc 2 w a n cap L) (hn : n < 100000) :
    Calls Try.prog 4 #[.slice a n cap] w (SoP L w) := by
  have HC := Lib.hid (clone a n cap L w h hn)
  have hl := h.2
  have HL := Lib.hid hl
  clear h hl
  go_enter Try.func4, Try.ntmps4
  go_wp2_with (go_at_call 8; with_reducible refine HC.out.mono ?_)
  rintro e w1 h3
  rcases h3 with ⟨rfl, rfl, rfl⟩ | ⟨g, c, rfl, h4⟩
  · have hL : L = [] := List.eq_nil_of_length_eq_zero HL.out
    subst hL
    have HC := Lib.hid (fun wx => sortStable0 wx)
    go_wp2_with (go_at_call 9; (with_reducible refine (HC.out _).mono ?_); rintro e w1 ⟨rfl, rfl⟩)
    go_ret
    exact ⟨none, 0, [], rfl, RS.nil _ _ _, List.Pairwise.nil, .refl _, Only.refl _ _⟩
  · have H4 := Lib.hid h4
    have HS := Lib.hid (sortStable g n c L w1 h4.1 hn)
    clear h4
    go_wp2_with (go_at_call 9; with_reducible refine HS.out.mono ?_)
    rintro e w2 h3
    obtain ⟨rfl, L2, mv2, so2, hr2, hO2⟩ : e = .returned (.tuple #[]) ∧ ∃ L2, Mv 0 n L L2 ∧ Srt 0 n L2 ∧ Mi w2 g n c L2 ∧ Only (At (some ⟨g, 0, none⟩)) w1 w2 := h3
    have HF : Hid (SoP L w (.returned (.slice (some ⟨g, 0, none⟩) n c)) w2) := Lib.hid (by
      have hl2 := hr2.2
      exact ⟨_, c, L2, by rw [hl2], by rw [hl2]; exact hr2.rs, srt_to (by rw [hl2]; exact so2), mv2.perm, new_only H4.out.2.1 hO2 (fun k hk => by have h' : g = k := hk; have := H4.out.2.2; omega)⟩)
    clear mv2 so2 hr2 hO2 HS
    go_wp2_with fail
    go_ret
    exact HF.out

/-- the same key -/
theorem sameKey (k t k' t' : Int) (w : World) : Calls Try.prog 5 #[itb k t, itb k' t'] w fun e w' => e = .returned (.bool (k == k')) ∧ Same w w' := by
  go_enter Try.func5, Try.ntmps5
  go_wp2_with fail
  go_ret
  exact ⟨rfl, ((Only.refl _ _).alloc _).alloc _⟩
abbrev keyV : Value := .func (Fn.func 5) #[] #[]
set_option maxRecDepth 100000 in
set_option maxHeartbeats 1600000 in
theorem equalFunc (a a' : Option Addr) (n cap cap' : Nat) (L L' : List It) (w : World) (h : RS itc 2 w a n cap L) (h' : RS itc 2 w a' n cap' L') (hn : n < 100000) (he : ∀ i, i < n → kAt L i = kAt L' i) :
    Calls Try.prog 7 #[.slice a n cap, .slice a' n cap', keyV] w fun e w' => e = .returned (.bool true) ∧ Same w w' := by
  have HR := Lib.hid (And.intro h h')
  have HE := Lib.hid he
  have hbd := h.bound
  clear h h' he
  go_enter Try.func7, Try.ntmps7
  go_wp2_with fail
  go_loopw [17] (fun i wr => ∃ j : Nat, i = .int .i64 (j : Int) ∧ j ≤ n ∧ Hid (Same w wr)) (fun i _ => n - (intOf i).toNat)
  case atStart => exact ⟨0, rfl, Nat.zero_le _, Lib.hid (Only.refl _ _)⟩
  case round =>
    obtain ⟨j, rfl, hj, HI⟩ := hrel
    by_cases hlt : j < n
    · have hlt' : (j : Int) < (n : Int) := by omega
      have j0 : (0 : Int) ≤ (j : Int) := by omega
      obtain ⟨b, off, ha, hb, hc⟩ := (HR.out.1.still HI.out).at itc_len (by omega)
      obtain ⟨b', off', ha', hb', hc'⟩ := (HR.out.2.still HI.out).at itc_len (by omega)
      obtain ⟨⟨kx, tx⟩, hx⟩ := HR.out.1.get hlt
      obtain ⟨⟨ky, ty⟩, hy⟩ := HR.out.2.get hlt
      have c0 : wr.cell? ⟨b, off + j * 2, none⟩ = some (.int .i64 kx) := hc j _ hx 0 _ rfl
      have c1 : wr.cell? ⟨b, off + j * 2 + 1, none⟩ = some (.int .i64 tx) := hc j _ hx 1 _ rfl
      have c2 : wr.cell? ⟨b', off' + j * 2, none⟩ = some (.int .i64 ky) := hc' j _ hy 0 _ rfl
      have c3 : wr.cell? ⟨b', off' + j * 2 + 1, none⟩ = some (.int .i64 ty) := hc' j _ hy 1 _ rfl
      have hk : ky = kx := by
        have := HE.out j hlt
        rw [kAt_eq hx, kAt_eq hy] at this
        exact this.symm
      subst hk
      have HC : Hid (∀ wx, Calls Try.prog 5 #[itb ky tx, itb ky ty] wx fun e w' => e = .returned (.bool true) ∧ Same wx w') := Lib.hid (fun wx => by
        have := sameKey ky tx ky ty wx
        rwa [show (ky == ky) = true by simp] at this)
      clear hc hc' hx hy
      subst ha
      subst ha'
      go_wp2_with (go_at_call 5; with_reducible refine (HC.out _).mono ?_)
      rintro e w4 ⟨rfl, hs4⟩
      have HI2 : Hid (Same w w4) := Lib.hid ((HI.out.trans (Only.alloc (Only.alloc (Only.refl _ _) _) _)).trans hs4)
      clear hs4
      go_wp2_with fail
      go_roundw
      case rel => exact ⟨j + 1, by go_num, by omega, HI2⟩
      case measure => simp [intOf]; omega
    · have hlt' : ¬ (j : Int) < (n : Int) := by omega
      go_wp2_with fail
      go_ret
      exact ⟨rfl, HI.out⟩
end Go.Proofs.Ytceonnacpakjhaa.mg
