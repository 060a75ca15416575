/-
  FnISInserts: the walk. Insert puts a number that is not there at its place in a sorted list; one that is there is not put again.
-/
import Derived.Test.YtfkggjjnhjappaaIsIns
namespace Go.Proofs.Ytfkggjjnhjappaa.walkFnISInserts
open Go.RowKit Go.Proofs.Ytfkggjjnhjappaa.base Go.Proofs.Ytfkggjjnhjappaa.heap Go.Proofs.Ytfkggjjnhjappaa.isl Go.Proofs.Ytfkggjjnhjappaa.srt
set_option linter.unusedVariables false

theorem cut {w w' w'' : World} (h : Only (fun _ => False) w w') (h' : Only (fun _ => False) w' w'') : Only (fun _ => False) w w'' := h.trans h' (fun _ _ f => f)

set_option maxRecDepth 100000 in
set_option maxHeartbeats 1600000 in
theorem main (a : Option Addr) (n cap : Nat) (l : List Int) (x : Int) (w : World) (h : Rd 1 w a n cap (I l)) (h60 : n ≤ 60) :
    Calls Try.prog 3 #[.slice a n cap, .int .i64 x] w fun e w' => e = .returned (.bool true) ∧ Below w.heap.size w w' := by
  have hl : l.length = n := by simpa [I] using h.len
  have H := Lib.hid h
  have HL := Lib.hid hl
  clear h hl
  go_enter Try.func3, Try.ntmps3
  go_wp2_with fail
  refine (isSorted a n cap l _ H.out (by omega)).mono ?_
  rintro e w1 ⟨b, rfl, ho, hO⟩
  rw [HL.out] at ho
  rw [HL.out]
  have HSo : Hid (srt.Sorted (isort l)) := Lib.hid (isort_sorted l)
  have HSL : Hid ((isort l).length = n) := Lib.hid (by rw [isort_length, HL.out])
  generalize isort l = s at *
  have HOW := Lib.hid ho
  have HO := Lib.hid hO
  clear ho hO
  go_wp2_with fail
  refine (isInsert _ n n s x _ HOW.out.rd HSo.out (by omega)).mono ?_
  rintro e w2 ⟨p, a2, n2, cap2, hp, rfl, ho2, hO2⟩
  have HP := Lib.hid (place_sorted HSL.out HSo.out hp)
  have HOW2 := Lib.hid ho2
  have HO2 := Lib.hid (cut HO.out hO2)
  have HS2 := Lib.hid (HOW.out.keep hO2 (fun _ _ => id))
  have hpn := hp.1
  have hn2 : n2 ≤ 61 := by
    have h1 := ho2.len
    have h2 := HSL.out
    rw [I_len] at h1
    unfold ins at h1
    split at h1
    · omega
    · rw [List.length_append, List.length_cons, List.length_take, List.length_drop] at h1
      omega
  clear hp ho2 hO2
  go_wp2_with fail
  refine (contains _ n n s x _ HS2.out.rd (by omega)).mono ?_
  rintro e w3 ⟨rfl, rfl⟩
  by_cases hx : x ∈ s
  · have HI := HP.out.1 hx
    have HI := Lib.hid HI
    rw [decide_eq_true hx]
    have HOW3 : Hid (Own 2 1 w3 a2 n2 cap2 (I s)) := Lib.hid (by have := HOW2.out; rwa [HI.out] at this)
    clear hx
    go_wp2_with fail
    refine (equal_yes _ _ n2 n cap2 n s _ HOW3.out.rd HS2.out.rd (by omega)).mono ?_
    rintro e w4 ⟨rfl, m, rfl⟩
    go_wp2_with fail
    go_ret
    exact ⟨rfl, (HO2.out.drewN _).below (Nat.le_refl _) (fun _ _ => id)⟩
  · have HI := HP.out.2 hx
    have HI := Lib.hid HI
    rw [decide_eq_false hx]
    have HOW3 : Hid (Own 2 1 w3 a2 n2 cap2 (I (isort (s ++ [x])))) := Lib.hid (by have := HOW2.out; rwa [HI.out] at this)
    clear hx
    go_wp2_with (at_builtin; refine wpList_append n (I s) rfl _ _ _ _ rfl slInt rfl (Own.nil _ _ _) rfl (HS2.out.rd.src Try.underlying22) (Nat.zero_add n) rfl (by unfold maxLen; omega) (by omega) ?_)
    intro a4 cap4 w4 hG
    have HG := Lib.hid hG
    clear hG
    go_wp2_with (at_builtin; refine wpList_append (n + 1) (I (s ++ [x])) rfl _ _ _ _ rfl slInt rfl (HG.out.own.keep (S := fun _ => False) ((Only.refl _ _).alloc _) (fun _ _ => id)) rfl (Src.row (cs := #[.int .i64 x]) (t := 2) (fr := (0, 0)) Try.underlying22 (heap_alloc_new' _ _ _ (by simp)) 1 1 rfl (by simp [Value.oneCell'])) rfl (by rw [I_app]; rfl) (by unfold maxLen; omega) (by omega) ?_)
    intro a5 cap5 w5 hG5
    have HG5 := Lib.hid hG5
    clear hG5
    have HO5 : Hid (Only (fun _ => False) w3 w5) := Lib.hid (by
      refine (HG.out.only.mono (fun _ _ f => f.elim)).trans (((Only.refl (At a4) w4).alloc _).trans HG5.out.only (fun _ _ h => h)) (fun k hk h => ?_)
      rcases HG.out.fresh k h with f | f
      · exact f
      · omega)
    go_wp2_with fail
    refine (isSorted a5 (n + 1) cap5 (s ++ [x]) _ HG5.out.own.rd (by omega)).mono ?_
    rintro e w6 ⟨b6, rfl, ho6, hO6⟩
    have hlen : (s ++ [x]).length = n + 1 := by rw [List.length_append, HSL.out]; rfl
    rw [hlen] at ho6
    rw [hlen]
    have HEQ := Lib.hid (equal_yes _ _ n2 _ cap2 _ (isort (s ++ [x])) w6 (HOW3.out.keep (cut HO5.out hO6) (fun _ _ => id)).rd ho6.rd (by omega))
    have HOO := Lib.hid hO6
    clear ho6 hO6 hlen
    go_wp2_with fail
    refine HEQ.out.mono ?_
    rintro e w7 ⟨rfl, m, rfl⟩
    go_wp2_with fail
    go_ret
    exact ⟨rfl, ((cut HO2.out (cut HO5.out HOO.out)).drewN _).below (Nat.le_refl _) (fun _ _ => id)⟩

theorem walk (W : World) (v0 v1 : Value) (r0 : Reads Try.prog W 22 v0) (r1 : Reads Try.prog W 2 v1) :
    Calls Try.prog 3 #[v0, v1] W fun e w' => e = .returned (.bool true) ∧ Below W.heap.size W w' := by
  obtain ⟨a0, len0, cap0, z0, rfl, w0⟩ := r0.ints Try.underlying22 Try.underlying2 (by kernel_rfl)
  obtain ⟨x, rfl, hx⟩ := r1.int Try.underlying2
  have hrd := IsRow.rd w0
  have hle := w0.le
  by_cases h1 : 2147483647 < len0
  · clear hrd w0 r0 r1 hx
    go_enter Try.func3, Try.ntmps3
    go_wp2_with fail
    go_ret
    exact ⟨rfl, Below.refl _ _⟩
  · by_cases h3 : 60 < len0
    · clear hrd w0 r0 r1 hx
      go_enter Try.func3, Try.ntmps3
      go_wp2_with fail
      go_ret
      exact ⟨rfl, Below.refl _ _⟩
    · exact main a0 len0 cap0 _ x W hrd (by omega)
end Go.Proofs.Ytfkggjjnhjappaa.walkFnISInserts
