/-
  A step on a queue: pqStep, for the operations 1 to 5.
-/
import Derived.Test.YtpddddjfjmipfaaDoorPqPut
import Derived.Test.YtpddddjfjmipfaaDoorSt
namespace Go.Proofs.YtpddddjfjmipfaaDoor.pq
open Go.RowKit Go.Proofs.YtpddddjfjmipfaaDoor.base Go.Proofs.YtpddddjfjmipfaaDoor.heap Go.Proofs.YtpddddjfjmipfaaDoor.rows
set_option linter.unusedVariables false

def itc (x : It) : List Value := [.int .i64 x.key, .int .i64 x.tag]
theorem itc_len (x : It) : (itc x).length = 2 := rfl
theorem itc_one (x : It) : ∀ u ∈ itc x, u.oneCell' = true := by
  intro u hu
  simp only [itc, List.mem_cons, List.not_mem_nil, or_false] at hu
  rcases hu with rfl | rfl <;> rfl
/-- a step: its number, a number, where its elements lie and what they are -/
structure Stp where
  op : Int
  n : Int
  a : Option Addr
  m : Nat
  cap : Nat
  R : List It
def stc (s : Stp) : List Value := [.int .i64 s.op, .int .i64 s.n, .slice s.a s.m s.cap]
theorem stc_len (s : Stp) : (stc s).length = 3 := rfl
theorem stc_one (x : Stp) : ∀ u ∈ stc x, u.oneCell' = true := by
  intro u hu
  simp only [stc, List.mem_cons, List.not_mem_nil, or_false] at hu
  rcases hu with rfl | rfl | rfl <;> rfl
/-- an answer -/
structure An where
  a : Option Addr
  cap : Nat
  L : List It
  num : Int
  is : Bool
  err : Int
def anc (x : An) : List Value := [.slice x.a x.L.length x.cap, .int .i64 x.num, .bool x.is, .int .i64 x.err]
theorem anc_len (s : An) : (anc s).length = 4 := rfl
theorem anc_one (x : An) : ∀ u ∈ anc x, u.oneCell' = true := by
  intro u hu
  simp only [anc, List.mem_cons, List.not_mem_nil, or_false] at hu
  rcases hu with rfl | rfl | rfl | rfl <;> rfl
abbrev RIt := RS itc 2

/-- what a step says, and what the queue holds behind it -/
def Stepped (L : List It) (s : Stp) (x : An) (L' : List It) : Prop :=
  (s.op = 1 ∧ L'.Perm (L ++ s.R) ∧ Heap L' ∧ x.L = [] ∧ x.err = 0) ∨
  (s.op = 2 ∧ L.length = 0 ∧ L' = L ∧ x.L = [] ∧ x.err = -1) ∨
  (s.op = 2 ∧ 0 < L.length ∧ Got L x.L L' ∧ x.L.length = min s.n.toNat L.length ∧ x.err = 0) ∨
  (s.op = 3 ∧ L' = L ∧ x.L = L.take 1 ∧ x.err = 0) ∨
  (s.op = 4 ∧ L' = L ∧ x.L = [] ∧ x.num = (L.length : Int) ∧ x.err = 0) ∨
  (s.op = 5 ∧ L' = L ∧ x.L = [] ∧ x.is = decide (L.length = 0) ∧ x.err = 0)
def StepPost (w : World) (ob mb : Nat) (a : Option Addr) (L : List It) (s : Stp) (e : Ending) (w' : World) : Prop :=
  ∃ (x : An) (a' : Option Addr) (cap' : Nat) (L' : List It), e = .returned (.agg (anc x).toArray) ∧ Now w w' ob mb a a' cap' L' ∧ Stepped L s x L' ∧ RIt w' x.a x.L.length x.cap x.L ∧ ∀ j, At x.a j → w.heap.size ≤ j ∧ j < w'.heap.size ∧ ¬ Fp ob mb a' j

theorem Now.same {w w' : World} {ob mb : Nat} {a : Option Addr} {cap : Nat} {L : List It} (h : Q w ob mb a cap L) (hh : Heap L) (hs : Same w w') : Now w w' ob mb a a cap L :=
  ⟨h.still hs, hh, hs.mono (fun _ _ h => h.elim), fun k hk => .inl hk⟩

set_option maxRecDepth 100000 in
theorem err0 (w : World) : Calls Tryd.prog 15 #[.nilIface] w fun e w' => e = .returned (.int .i64 0) ∧ w = w' := by
  go_enter Tryd.func15, Tryd.ntmps15
  go_wp2
  go_ret
  exact ⟨rfl, rfl⟩

section
variable {w : World} {ob mb : Nat} {a : Option Addr} {cap : Nat} {L : List It}
set_option maxRecDepth 100000 in
set_option maxHeartbeats 1600000 in
theorem step4 (h : Q w ob mb a cap L) (hh : Heap L) (s : Stp) (hs : s.op = 4) : Calls Tryd.prog 8 #[.pointer (some ⟨ob, 0, none⟩), .agg #[.int .i64 4, .int .i64 s.n, .slice s.a s.m s.cap]] w (StepPost w ob mb a L s) := by
  have HQ := Lib.hid h
  have HH := Lib.hid hh
  have HS := Lib.hid hs
  clear h hh hs
  go_enter Tryd.func8, Tryd.ntmps8
  go_wp2_with fail
  refine (lenQ (HQ.out.still (((Only.refl _ _).alloc _).alloc _))).mono ?_
  rintro e w1 ⟨rfl, rfl⟩
  go_wp2_with fail
  refine bodyPost_ret (v := .agg #[.slice none 0 0, .int .i64 (L.length : Int), .bool false, .int .i64 0]) ?_ rfl ?_
  · simp [results, Tryd.results8, go_sem]
  have hs : Same w ((w.alloc (.cells #[.int .i64 4, .int .i64 s.n, .slice s.a s.m s.cap] 35)).alloc (.cells #[.slice none 0 0, .int .i64 (L.length : Int), .bool false, .int .i64 0] 41)) := ((Only.refl _ _).alloc _).alloc _
  exact ⟨⟨none, 0, [], L.length, false, 0⟩, a, cap, L, rfl, Now.same HQ.out HH.out hs, .inr (.inr (.inr (.inr (.inl ⟨HS.out, rfl, rfl, rfl, rfl⟩)))), RS.nil _ _ _, fun j hj => hj.elim⟩

set_option maxRecDepth 100000 in
set_option maxHeartbeats 1600000 in
theorem step5 (h : Q w ob mb a cap L) (hh : Heap L) (s : Stp) (hs : s.op = 5) : Calls Tryd.prog 8 #[.pointer (some ⟨ob, 0, none⟩), .agg #[.int .i64 5, .int .i64 s.n, .slice s.a s.m s.cap]] w (StepPost w ob mb a L s) := by
  have HQ := Lib.hid h
  have HH := Lib.hid hh
  have HS := Lib.hid hs
  clear h hh hs
  go_enter Tryd.func8, Tryd.ntmps8
  go_wp2_with fail
  refine (emptyQ (HQ.out.still (((Only.refl _ _).alloc _).alloc _))).mono ?_
  rintro e w1 ⟨rfl, rfl⟩
  obtain ⟨t, HT⟩ : ∃ t, Hid (decide (L.length = 0) = t) := ⟨_, Lib.hid rfl⟩
  rw [HT.out]
  go_wp2_with fail
  refine bodyPost_ret (v := .agg #[.slice none 0 0, .int .i64 0, .bool t, .int .i64 0]) ?_ rfl ?_
  · simp [results, Tryd.results8, go_sem]
  have hs : Same w ((w.alloc (.cells #[.int .i64 5, .int .i64 s.n, .slice s.a s.m s.cap] 35)).alloc (.cells #[.slice none 0 0, .int .i64 0, .bool t, .int .i64 0] 41)) := ((Only.refl _ _).alloc _).alloc _
  exact ⟨⟨none, 0, [], 0, t, 0⟩, a, cap, L, rfl, Now.same HQ.out HH.out hs, .inr (.inr (.inr (.inr (.inr ⟨HS.out, rfl, rfl, HT.out.symm, rfl⟩)))), RS.nil _ _ _, fun j hj => hj.elim⟩

theorem assertedOk (k t : Int) (w : World) : (Instr.typeAssert (iw k t) 77 69 true).run Tryd.prog w = .ok (.tuple #[itb k t, .bool true]) w := by
  simp [Instr.typeAssert, run_underlying Tryd.underlying69, Result.andThen]
theorem assertedNil (w : World) : (Instr.typeAssert .nilIface 77 69 true).run Tryd.prog w = .ok (.tuple #[itb 0 0, .bool false]) w := by kernel_rfl

set_option maxRecDepth 100000 in
set_option maxHeartbeats 1600000 in
theorem step3 (h : Q w ob mb a cap L) (hh : Heap L) (s : Stp) (hs : s.op = 3) : Calls Tryd.prog 8 #[.pointer (some ⟨ob, 0, none⟩), .agg #[.int .i64 3, .int .i64 s.n, .slice s.a s.m s.cap]] w (StepPost w ob mb a L s) := by
  have HQ := Lib.hid h
  have HH := Lib.hid hh
  have HS := Lib.hid hs
  clear h hh hs
  cases hL : L with
  | nil =>
    subst hL
    have ha := assertedNil
    go_enter Tryd.func8, Tryd.ntmps8
    go_wp2_with fail
    refine (peekNone (HQ.out.still (((Only.refl _ _).alloc _).alloc _))).mono ?_
    rintro e w1 ⟨rfl, rfl⟩
    go_wp2_with fail
    refine bodyPost_ret (v := .agg #[.slice none 0 0, .int .i64 0, .bool false, .int .i64 0]) ?_ rfl ?_
    · simp [results, Tryd.results8, go_sem]
    exact ⟨⟨none, 0, [], 0, false, 0⟩, a, cap, [], rfl, Now.same HQ.out HH.out ((((Only.refl _ _).alloc _).alloc _).alloc _), .inr (.inr (.inr (.inl ⟨HS.out, rfl, rfl, rfl⟩))), RS.nil _ _ _, fun j hj => hj.elim⟩
  | cons x L' =>
    obtain ⟨kx, tx⟩ := x
    have ha := assertedOk kx tx
    have hx : L[0]? = some ⟨kx, tx⟩ := by rw [hL]; rfl
    have HX := Lib.hid hx
    have HL := Lib.hid hL
    rw [← hL]
    clear hx hL
    have HP : Hid (∀ wx, Same w wx → Calls Tryd.prog 20 #[.pointer (some ⟨ob, 0, none⟩)] wx fun e w' => e = .returned (iw kx tx) ∧ wx = w') := Lib.hid (fun wx hs => peekQ (HQ.out.still hs) HX.out)
    go_enter Tryd.func8, Tryd.ntmps8
    go_wp2_with fail
    refine (HP.out _ (((Only.refl _ _).alloc _).alloc _)).mono ?_
    rintro e w1 ⟨rfl, rfl⟩
    go_wp2_with fail
    refine bodyPost_ret (v := .agg #[.slice (some ⟨w.heap.size + 1 + 1 + 1, 0, none⟩) 1 1, .int .i64 0, .bool false, .int .i64 0]) ?_ rfl ?_
    · simp [results, Tryd.results8, go_sem]
    refine ⟨⟨some ⟨w.heap.size + 1 + 1 + 1, 0, none⟩, 1, [⟨kx, tx⟩], 0, false, 0⟩, a, cap, L, rfl, Now.same HQ.out HH.out (((((Only.refl _ _).alloc _).alloc _).alloc _).alloc _), .inr (.inr (.inr (.inl ⟨HS.out, rfl, by rw [HL.out]; rfl, rfl⟩))), ⟨?_, rfl⟩, fun j hj => ?_⟩
    · exact (Own.of_block (e := 28) (size := 2) (cur := #[.int .i64 kx, .int .i64 tx]) (heap_alloc_new' _ _ _ (by simp)) 1 1 (by omega) (by unfold maxLen; omega) rfl (by simp [Value.oneCell'])).rd
    · have hj : w.heap.size + 1 + 1 + 1 = j := hj
      exact ⟨by omega, by rw [← hj]; simp, fun hf => by have := HQ.out.lt j hf; omega⟩
end
end Go.Proofs.YtpddddjfjmipfaaDoor.pq
