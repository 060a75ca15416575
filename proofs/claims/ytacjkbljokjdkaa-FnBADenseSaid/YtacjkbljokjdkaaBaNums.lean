/-
  toNums: the bits of a block are put behind a list of numbers in a variable.
-/
import Derived.Test.YtacjkbljokjdkaaBaFind
namespace Go.Proofs.Ytacjkbljokjdkaa.ba
open Go.RowKit Go.Proofs.Ytacjkbljokjdkaa.base Go.Proofs.Ytacjkbljokjdkaa.heap Go.Proofs.Ytacjkbljokjdkaa.rows Go.Proofs.Ytacjkbljokjdkaa.bit Go.Proofs.Ytacjkbljokjdkaa.bs
set_option linter.unusedVariables false

/-- a variable that holds a list of numbers of its own -/
structure NV (w : World) (vb : Nat) (a : Option Addr) (cap : Nat) (L : List Nat) : Prop where
  obj : w.heap[vb]? = some (.cells #[.slice a L.length cap] 23 (0, 0))
  row : Own 24 1 w a L.length cap (U L)
  nap : ¬ At a vb
def NV.foot (vb : Nat) (a : Option Addr) (k : Nat) : Prop := k = vb ∨ At a k
theorem NV.keep {w w' : World} {vb cap : Nat} {a : Option Addr} {L : List Nat} {S : Nat → Prop} (h : NV w vb a cap L) (ho : Only S w w') (hn : ∀ k, NV.foot vb a k → ¬ S k) : NV w' vb a cap L :=
  ⟨ho.obj h.obj (hn _ (.inl rfl)), h.row.keep ho (fun k hk => hn k (.inr hk)), h.nap⟩
theorem NV.app {w w1 w2 : World} {vb cap cap2 x : Nat} {a a2 : Option Addr} {L : List Nat} (h : NV w vb a cap L) (hs : Same w w1) (hG : Grew 24 1 w1 w2 a a2 1 (L.length + 1) cap cap2 (U L ++ U [x])) :
    NV (w2.setCell ⟨vb, 0, none⟩ (.slice a2 (L.length + 1) cap2)) vb a2 cap2 (L ++ [x]) ∧ Only (NV.foot vb a) w (w2.setCell ⟨vb, 0, none⟩ (.slice a2 (L.length + 1) cap2)) ∧ w2.cell? ⟨vb, 0, none⟩ = some (.slice a L.length cap) ∧ w2.frozen? ⟨vb, 0, none⟩ = false ∧ ∀ k, At a2 k → At a k ∨ w.heap.size ≤ k := by
  have hO : Only (At a) w w2 := Only.trans (S := At a) (hs.mono (fun _ _ h => h.elim)) hG.only (fun _ _ h => h)
  have hob := hO.obj h.obj h.nap
  have hfr : ∀ k, At a2 k → At a k ∨ w.heap.size ≤ k := fun k hk => (hG.fresh k hk).imp id (fun h' => Nat.le_trans hs.size h')
  have nap : ¬ At a2 vb := fun e => (hfr _ e).elim h.nap (fun h' => by have := lt_of_heap h.obj; omega)
  have hO2 : Only (fun k => k = vb) w2 (w2.setCell ⟨vb, 0, none⟩ (.slice a2 (L.length + 1) cap2)) := (Only.refl _ _).setCell _ _ (fun _ => rfl)
  refine ⟨⟨?_, ?_, nap⟩, (hO.mono (fun k _ hk => .inr hk)).trans hO2 (fun k _ e => .inl e), block_cell hob rfl, block_free hob, hfr⟩
  · rw [List.length_append]
    have := setCell_heap hob 0 (.slice a2 (L.length + 1) cap2)
    simpa using this
  · rw [List.length_append]
    have := hG.own.keep hO2 (fun k hk e => nap (by rw [← e]; exact hk))
    rw [U_app] at this
    exact this
/-- the variable has grown -/
structure NVs (w w' : World) (vb : Nat) (a a' : Option Addr) (cap' : Nat) (L' : List Nat) : Prop where
  nv : NV w' vb a' cap' L'
  only : Only (NV.foot vb a) w w'
  fresh : ∀ k, At a' k → At a k ∨ w.heap.size ≤ k
theorem NVs.trans {w w1 w2 : World} {vb cap cap2 : Nat} {a a1 a2 : Option Addr} {L1 L2 : List Nat} (h : NVs w w1 vb a a1 cap L1) (h' : NVs w1 w2 vb a1 a2 cap2 L2) : NVs w w2 vb a a2 cap2 L2 :=
  ⟨h'.nv, h.only.trans h'.only (fun k hk hf => by
    rcases hf with e | e
    · exact .inl e
    · rcases h.fresh k e with h1 | h1
      · exact .inr h1
      · omega), fun k hk => by
    rcases h'.fresh k hk with h1 | h1
    · exact h.fresh k h1
    · exact .inr (Nat.le_trans h.only.size h1)⟩

set_option maxRecDepth 100000 in
set_option maxHeartbeats 1600000 in
theorem toNumsW (x off vb : Nat) (a : Option Addr) (cap : Nat) (L : List Nat) (w : World) (hx : Lt64 x) (ho : off < 4611686018427387904) (hl : L.length < 1000000000) (h : NV w vb a cap L) :
    Calls Try.prog 80 #[.int .u64 (x : Int), .int .u64 (off : Int), .pointer (some ⟨vb, 0, none⟩)] w fun e w' => e = .returned (.tuple #[]) ∧ ∃ a' cap', NVs w w' vb a a' cap' (L ++ wbits off x 64) := by
  have HX := Lib.hid hx
  have H := Lib.hid h
  clear hx h
  go_enter Try.func80, Try.ntmps80
  go_wp2_with fail
  go_loopw [6] (fun i wr => ∃ (k : Nat) (a' : Option Addr) (cap' : Nat), k ≤ 64 ∧ i = .int .u64 (k : Int) ∧ Hid (NVs w wr vb a a' cap' (L ++ wbits off x k))) (fun i _ => 64 - (intOf i).toNat)
  case atStart => exact ⟨0, a, cap, by omega, rfl, Lib.hid ⟨by rw [wbits_zero, List.append_nil]; exact H.out, Only.refl _ _, fun k hk => .inl hk⟩⟩
  case round =>
    obtain ⟨k, a', cap', hk, rfl, HI⟩ := hrel
    by_cases hlt : k < 64
    · have hk' : (k : Int) < 64 := by omega
      have e0 := wrap_pow hlt
      have e1 := and_nat HX.out (lt64_pow hlt)
      have HS : Hid ((x &&& 2 ^ k = 0) ↔ x.testBit k = false) := Lib.hid (and_test HX.out hlt)
      generalize x &&& 2 ^ k = z at *
      generalize 2 ^ k = y at *
      have hbl : (L ++ wbits off x k).length < 1000000100 := by
        rw [List.length_append]; have := wbits_len off x k; omega
      obtain ⟨n, HN⟩ : ∃ n, Hid ((L ++ wbits off x k).length = n) := ⟨_, Lib.hid rfl⟩
      rw [HN.out] at hbl
      have hob := HI.out.nv.obj
      rw [HN.out] at hob
      have v0 : wr.cell? ⟨vb, 0, none⟩ = some (.slice a' n cap') := block_cell hob rfl
      clear hob
      have HROW : Hid (Own 24 1 wr a' n cap' (U (L ++ wbits off x k))) := Lib.hid (by have := HI.out.nv.row; rw [HN.out] at this; exact this)
      have hbo := HROW.out.bound
      cases ht : x.testBit k with
      | false =>
        have hz : z = 0 := HS.out.2 ht
        subst hz
        have HI2 : Hid (NVs w wr vb a a' cap' (L ++ wbits off x (k + 1))) := Lib.hid (by rw [wbits_succ, ht]; simpa using HI.out)
        clear ht
        go_wp2_with fail
        go_roundw
        case rel => exact ⟨k + 1, a', cap', by omega, by go_num, HI2⟩
        case measure => simp [intOf]; omega
      | true =>
        have hz : (0 : Int) < (z : Int) := by
          have : ¬ z = 0 := fun e => by have := HS.out.1 e; rw [ht] at this; cases this
          omega
        have HT := Lib.hid ht
        have hko : IntKind.u64.wrap ((k : Int) + (off : Int)) = ((off + k : Nat) : Int) := by rw [IntKind.wrap_u64]; omega
        clear ht
        go_wp2_with (at_builtin; refine wpList_append (n + 1) (U (L ++ wbits off x k) ++ U [off + k]) rfl _ _ _ _ rfl slWord rfl (HROW.out.keep (S := fun _ => False) (by repeat (first | exact Only.refl _ _ | apply Only.alloc | apply Only.drew)) (fun _ _ => id)) rfl (Src.row (size := 1) (cs := #[.int .u64 ((off + k : Nat) : Int)]) (t := 24) (fr := (0, 0)) Try.underlying23 (by exact heap_alloc_new _ _) 1 1 rfl (by simp [Value.oneCell'])) rfl rfl (by unfold maxLen; omega) (by omega) ?_)
        intro a2 cap2 w2 hG
        have hG' : Grew 24 1 (wr.alloc (.cells #[.int .u64 ((off + k : Nat) : Int)] 24)) w2 a' a2 1 ((L ++ wbits off x k).length + 1) cap' cap2 (U (L ++ wbits off x k) ++ U [off + k]) := by
          rw [HN.out]; simpa using hG
        obtain ⟨g1, g2, g3, g4, g5⟩ := HI.out.nv.app ((Only.refl _ _).alloc _) hG'
        rw [HN.out] at g1 g2 g3
        have HI2 : Hid (NVs w (w2.setCell ⟨vb, 0, none⟩ (.slice a2 (n + 1) cap2)) vb a a2 cap2 (L ++ wbits off x (k + 1))) := Lib.hid (by
          refine HI.out.trans ⟨?_, g2, g5⟩
          rw [wbits_succ, HT.out, if_pos rfl, ← List.append_assoc]
          exact g1)
        clear hG hG' g1 g2 g5
        go_wp2_with fail
        go_roundw
        case rel => exact ⟨k + 1, a2, cap2, by omega, by go_num, HI2⟩
        case measure => simp [intOf]; omega
    · have hlt' : ¬ (k : Int) < 64 := by omega
      obtain rfl : k = 64 := by omega
      go_wp2_with fail
      go_end0
      exact ⟨rfl, a', cap', HI.out⟩
end Go.Proofs.Ytacjkbljokjdkaa.ba
