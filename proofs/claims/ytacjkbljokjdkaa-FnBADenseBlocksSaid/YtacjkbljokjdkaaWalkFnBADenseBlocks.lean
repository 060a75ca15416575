/-
  FnBADenseBlocks: the walk. The blocks of a dense array ascend, and those that are not 0 are the words of its bits.
-/
import Derived.Test.YtacjkbljokjdkaaBaWords
import Derived.Test.YtacjkbljokjdkaaArr2
namespace Go.Proofs.Ytacjkbljokjdkaa.walkFnBADenseBlocks
open Go.RowKit Go.Proofs.Ytacjkbljokjdkaa.base Go.Proofs.Ytacjkbljokjdkaa.heap Go.Proofs.Ytacjkbljokjdkaa.rows Go.Proofs.Ytacjkbljokjdkaa.bit Go.Proofs.Ytacjkbljokjdkaa.bs Go.Proofs.Ytacjkbljokjdkaa.ba
set_option linter.unusedVariables false
theorem madeS_ne {x : Bool} {q : Nat} : ∀ (L : List Nat), L ≠ [] → madeS x q L ≠ [] := by
  intro L hL
  unfold madeS
  suffices h : ∀ (L : List Nat) (s : List Nat), s ≠ [] ∨ L ≠ [] → L.foldl (fun s y => put s (cutB x q y)) s ≠ [] from h L [] (.inr hL)
  intro L
  induction L with
  | nil => intro s h; exact h.elim id (fun h => absurd rfl h)
  | cons y L ih =>
    intro s _
    refine ih _ (.inl (fun e => ?_))
    have : cutB x q y ∈ put s (cutB x q y) := put_mem.2 (.inl rfl)
    have e2 : put s (cutB x q y) = [] := e
    rw [e2] at this; cases this
set_option maxRecDepth 100000 in
theorem words0 (s1 : Nat) (a : Option Addr) (ca : Nat) (w : World) : Calls Try.prog 9 #[.bool true, .int .u16 (s1 : Int), .slice a 0 ca] w (FV w (.bool true)) := by
  go_enter Try.func9, Try.ntmps9
  go_wp2_with fail
  go_ret
  exact ⟨rfl, Only.refl _ _⟩
theorem words (s1 : Nat) (hs1 : s1 < 65536) (a : Option Addr) (n ca : Nat) (l1 : List Nat) (w : World) (h1 : RL uv w a n ca l1) :
    Calls Try.prog 9 #[.bool true, .int .u16 (s1 : Int), .slice a n ca] w (FV w (.bool true)) := by
  rcases Nat.eq_zero_or_pos n with rfl | hn0
  · exact words0 s1 a ca w
  · have hL : (l1.take 40).length ≤ 40 := by rw [List.length_take]; omega
    have hne : l1.take 40 ≠ [] := fun e => by
      have := congrArg List.length e
      rw [List.length_take, h1.2] at this
      simp at this; omega
    have hq : 1 ≤ (1 + s1 % 512 + 63) / 64 ∧ (1 + s1 % 512 + 63) / 64 ≤ 9 := by omega
    have hNe := madeS_ne (x := true) (q := (1 + s1 % 512 + 63) / 64) _ hne
    have g1 : MadeG true (1 + s1 % 512) ((1 + s1 % 512 + 63) / 64) := .inl ⟨rfl, by omega, rfl, hq.1⟩
    refine baWordsG true s1 a n ca l1 (l1.take 40) (1 + s1 % 512) ((1 + s1 % 512 + 63) / 64) w h1 hn0 (fun wx h => baMadeD s1 0 a n ca l1 wx h hs1 (by omega)) hL (madeS_asc _ _ _) (fun k hk => by have := madeS_lt60 true _ _ k hk; omega) hNe
      (madeS_mem (p := fun k => k < 64000000) (fun y => by have := cutB_lt (x := y) hq.1; omega) _) ?_
    obtain ⟨Y1, e1, r1⟩ := goes_made g1 [] 0 (l1.take 40) rfl (by omega) hL
    refine ⟨Y1, e1, r1.runs ?_⟩
    exact ⟨by simp, _, _, _, does_blocksD (i := 0) rfl rfl hNe, rfl, by simp, _, _, _, does_count_ (i := 0) rfl (fine_made _ _ _ hL), rfl, rfl⟩
set_option maxRecDepth 100000 in
theorem main (s1 : Nat) (hs1 : s1 < 65536) (a : Option Addr) (n ca : Nat) (l1 : List Nat) (w : World) (h1 : RL uv w a n ca l1) :
    Calls Try.prog 4 #[.int .u16 (s1 : Int), .slice a n ca] w (FV w (.bool true)) := by
  have hb1 := h1.bound
  have HW := Lib.hid (words s1 hs1 a n ca l1 w h1)
  clear h1
  by_cases hn : (2147483647 : Int) < (n : Int)
  · go_enter Try.func4, Try.ntmps4
    go_wp2_with fail
    go_ret
    exact ⟨rfl, Only.refl _ _⟩
  · go_enter Try.func4, Try.ntmps4
    go_wp2_with (go_at_call 9; refine HW.out.mono ?_)
    rintro e w9 ⟨rfl, hS9⟩
    have HS9 := Lib.hid hS9
    clear hS9
    go_wp2_with fail
    go_ret
    exact ⟨rfl, HS9.out⟩
theorem walk (W : World) (v0 v1 : Value) (r0 : Reads Try.prog W 22 v0) (r1 : Reads Try.prog W 23 v1) :
    Calls Try.prog 4 #[v0, v1] W fun e w' => e = .returned (.bool true) ∧ Below W.heap.size W w' := by
  obtain ⟨s1, rfl, w1⟩ := r0.int Try.underlying22
  obtain ⟨a, n, ca, l1, rfl, h1, _⟩ := reads_nums r1 Try.underlying23 Try.underlying24 (by kernel_rfl) (fun n h => (wf_u64 h).1)
  have b1 := wf_u16 w1
  obtain ⟨t1, rfl⟩ : ∃ t : Nat, s1 = (t : Int) := ⟨s1.toNat, by omega⟩
  exact (main t1 (by omega) a n ca l1 W h1).mono fun e w' ⟨he, hS⟩ => ⟨he, Only.below hS (Nat.le_refl _) (fun _ _ => id)⟩
end Go.Proofs.Ytacjkbljokjdkaa.walkFnBADenseBlocks
