/-
  laws.trAsks; the last answers.
-/
import Derived.Test.YtcjifjfcjimefaaDoorZXfOnes
namespace Go.Proofs.YtcjifjfcjimefaaDoor.xf
open Go.ChangeShapes Go.WideShapes Go.ChangeAt Go.RowKit Go.Proofs.YtcjifjfcjimefaaDoor.base Go.Proofs.YtcjifjfcjimefaaDoor.heap Go.Proofs.YtcjifjfcjimefaaDoor.rows Go.Proofs.YtcjifjfcjimefaaDoor.mapn
set_option linter.unusedVariables false

/-- steps that ask: no entries, a row of its own for the key -/
structure Asks (w wr : World) (m : Nat) (oa : Option Addr) (n cap : Nat) (S : List Stp) : Prop where
  row : New 34 stc 3 w wr oa n cap S
  ok : ∀ s ∈ S, Okay m s ∧ s.km = 1 ∧ (s.op = 3 ∨ s.op = 5)
  ins : ∀ s ∈ S, StIn wr s ∧ ∀ k, At s.ia k ∨ At s.ka k → w.heap.size ≤ k ∧ k < wr.heap.size ∧ ¬ At oa k
theorem Asks.nil (w : World) (m : Nat) : Asks w w m none 0 0 [] := ⟨New.nil _ _ _ _, fun s h => absurd h List.not_mem_nil, fun s h => absurd h List.not_mem_nil⟩
theorem Asks.step {w wr w8 : World} {m : Nat} {oa oa2 : Option Addr} {j oc oc2 K : Nat} {q : Int} {S : List Stp} {o : Obj} (h : Asks w wr m oa j oc S) (hq : q = 3 ∨ q = 5) (hK : K < 2 ^ m)
    (hG : Grew 34 3 ((wr.alloc (.cells #[.int .u64 (K : Int)] 25)).alloc o) w8 oa oa2 1 (j + 1) oc oc2 (S.flatMap stc ++ stc ⟨q, none, 0, 0, [], some ⟨wr.heap.size, 0, none⟩, 1, 1, [K]⟩)) :
    Asks w w8 m oa2 (j + 1) oc2 (S ++ [⟨q, none, 0, 0, [], some ⟨wr.heap.size, 0, none⟩, 1, 1, [K]⟩]) := by
  have hs1 : Same wr (wr.alloc (.cells #[.int .u64 (K : Int)] 25)) := (Only.refl _ _).alloc _
  have hs2 : Same (wr.alloc (.cells #[.int .u64 (K : Int)] 25)) ((wr.alloc (.cells #[.int .u64 (K : Int)] 25)).alloc o) := (Only.refl _ _).alloc _
  have hs := hs1.trans hs2
  have z0 := h.row.same.size
  have z1 : (wr.alloc (.cells #[.int .u64 (K : Int)] 25)).heap.size = wr.heap.size + 1 := by simp
  have z2 := hs2.size
  have z3 := hG.only.size
  have hoa : ∀ k, At oa k → k < wr.heap.size := h.row.row.1.lt
  have hfr : ∀ k, At oa2 k → At oa k ∨ wr.heap.size + 1 ≤ k := fun k hk => (hG.fresh k hk).imp id (fun h' => by omega)
  refine ⟨h.row.step hs hG, fun u hu => ?_, fun u hu => ?_⟩
  · rcases List.mem_append.1 hu with hu | hu
    · exact h.ok u hu
    · rw [List.mem_singleton] at hu; subst hu
      exact ⟨⟨by show q = 1 ∨ q = 3 ∨ q = 4 ∨ q = 5 ∨ q = 6 ∨ q = 7; omega, Nat.zero_le _, fun y hy => absurd hy List.not_mem_nil, hK⟩, rfl, hq⟩
  · rcases List.mem_append.1 hu with hu | hu
    · obtain ⟨g1, g2⟩ := h.ins u hu
      have g3 := g1.still hs
      refine ⟨⟨g3.1.keep hG.only (fun k hk => (g2 k (.inl hk)).2.2), g3.2.keep hG.only (fun k hk => (g2 k (.inr hk)).2.2)⟩, fun k hk => ⟨(g2 k hk).1, by have := (g2 k hk).2.1; omega, fun hk' => ?_⟩⟩
      rcases hfr k hk' with h' | h'
      · exact (g2 k hk).2.2 h'
      · have := (g2 k hk).2.1; omega
    · rw [List.mem_singleton] at hu
      subst hu
      have hO := Go.Proofs.YtcjifjfcjimefaaDoor.heap.Own.made 25 1 wr #[.int .u64 (K : Int)] 1 1 (Nat.le_refl _) (by unfold maxLen; omega) rfl (by simp [Value.oneCell'])
      have hRL : RL uv (wr.alloc (.cells #[.int .u64 (K : Int)] 25)) (some ⟨wr.heap.size, 0, none⟩) 1 1 [K] := ⟨hO.rd, rfl⟩
      refine ⟨⟨RS.nil _ _ _, (hRL.still hs2).keep hG.only (fun k hk ha => ?_)⟩, fun k hk => ?_⟩
      · have e : wr.heap.size = k := hk
        have := hoa k ha; omega
      · have e : wr.heap.size = k := hk.resolve_left (fun h => h.elim)
        refine ⟨by omega, by omega, fun hk' => ?_⟩
        rcases hfr k hk' with h' | h'
        · have := hoa k h'; omega
        · omega
set_option maxRecDepth 100000 in
set_option maxHeartbeats 1600000 in
theorem trAsks_of (w : World) (m : Nat) (a : Option Addr) (n cap : Nat) (l : List It) (hR : RS itc 2 w a n cap l) (hn : n ≤ 60) (hl : ∀ y ∈ l, y.1 < 2 ^ m) : Calls Tryd.prog 8 #[.slice a n cap] w (fun e w' => ∃ a' c' S, e = .returned (.slice a' (n + 1) c') ∧ Asks w w' m a' (n + 1) c' S) := by
  have HR := Lib.hid hR
  have HL := Lib.hid hl
  have HZ : Hid ((0 : Nat) < 2 ^ m) := Lib.hid (Nat.two_pow_pos m)
  have bd := hR.bound
  have HN0 := Lib.hid (Asks.nil w m)
  clear hR hl
  go_enter Tryd.func8, Tryd.ntmps8
  go_wp2_with fail
  go_loopw [3, 4] (fun o i wr => ∃ (j : Nat) (oa : Option Addr) (oc : Nat) (S : List Stp), o = .slice oa j oc ∧ i = .int .i64 (j : Int) ∧ j ≤ n ∧ Hid (Asks w wr m oa j oc S)) (fun _ i _ => n - (intOf i).toNat)
  case atStart => exact ⟨0, none, 0, [], rfl, rfl, Nat.zero_le _, HN0⟩
  case round =>
    clear HN0
    obtain ⟨j, oa, oc, S, rfl, rfl, hj, HG⟩ := hrel
    have hbo := HG.out.row.row.bound
    by_cases hlt : j < n
    · have hlt' : (j : Int) < (n : Int) := by omega
      obtain ⟨y, hy⟩ := HR.out.get hlt
      obtain ⟨b, off, ha, hb, hc⟩ := (HR.out.still HG.out.row.same).at itc_len (by omega)
      have c0 : wr.cell? ⟨b, off + j * 2, none⟩ = some (.int .u64 (y.1 : Int)) := hc j y hy 0 _ rfl
      have HY := Lib.hid (HL.out y (List.mem_of_getElem? hy))
      subst ha
      clear hc hy
      go_wp2_with (at_builtin; refine wpList_append (j + 1) (S.flatMap stc ++ stc ⟨3, none, 0, 0, [], some ⟨wr.heap.size, 0, none⟩, 1, 1, [y.1]⟩) rfl _ _ _ _ rfl slSt rfl (HG.out.row.row.1.keep (S := fun _ => False) (by repeat (first | exact Only.refl _ _ | apply Only.alloc | apply Only.drew)) (fun _ _ => id)) rfl (Src.row (size := 3) (cs := #[.int .i64 3, .slice none 0 0, .slice (some ⟨wr.heap.size, 0, none⟩) 1 1]) (t := 34) (fr := (0, 0)) Tryd.underlying27 (by exact heap_alloc_new' _ _ _ (by simp)) 1 1 rfl (by simp [Value.oneCell'])) rfl rfl (by unfold maxLen; omega) (by omega) ?_)
      intro oa2 oc2 w8 hG
      have HG2 := Lib.hid (HG.out.step (.inl rfl) HY.out hG)
      clear hG HG
      go_wp2_with fail
      go_roundw
      case rel => exact ⟨j + 1, oa2, oc2, _, rfl, by go_num, by omega, HG2⟩
      case measure => simp [intOf]; omega
    · have hlt' : ¬ (j : Int) < (n : Int) := by omega
      obtain rfl : j = n := by omega
      go_wp2_with (at_builtin; refine wpList_append (j + 1) (S.flatMap stc ++ stc ⟨5, none, 0, 0, [], some ⟨wr.heap.size, 0, none⟩, 1, 1, [0]⟩) rfl _ _ _ _ rfl slSt rfl (HG.out.row.row.1.keep (S := fun _ => False) (by repeat (first | exact Only.refl _ _ | apply Only.alloc | apply Only.drew)) (fun _ _ => id)) rfl (Src.row (size := 3) (cs := #[.int .i64 5, .slice none 0 0, .slice (some ⟨wr.heap.size, 0, none⟩) 1 1]) (t := 34) (fr := (0, 0)) Tryd.underlying27 (by exact heap_alloc_new' _ _ _ (by simp)) 1 1 rfl (by simp [Value.oneCell'])) rfl rfl (by unfold maxLen; omega) (by omega) ?_)
      intro oa2 oc2 w8 hG
      have HG2 := Lib.hid (HG.out.step (K := 0) (.inr rfl) HZ.out hG)
      clear hG HG
      go_wp2_with fail
      go_ret
      exact ⟨oa2, oc2, _, rfl, HG2.out⟩
set_option maxRecDepth 100000 in
/-- the last answers, so many -/
theorem trTail_at (w : World) (b off N n cap : Nat) (hn : n ≤ N) (h1 : 1 ≤ n) (hc : N ≤ cap) (hm : cap ≤ 9223372036854775807) (hn2 : N ≤ 1000) : Calls Tryd.prog 9 #[.slice (some ⟨b, off, none⟩) N cap, .int .i64 (n : Int)] w (SayP (.slice (some ⟨b, off + (N - n) * 3, none⟩) n (cap - (N - n))) w) := by
  have h2 : ¬ (N : Int) < (n : Int) := by omega
  obtain ⟨k, rfl⟩ : ∃ k, N = k + n := ⟨N - n, by omega⟩
  have h3 : ((k + n : Nat) : Int) - (n : Int) = (k : Int) := by omega
  rw [Nat.add_sub_cancel]
  have h5 : ¬ cap = k := by omega
  have h6 : (k : Int) ≤ ((k + n : Nat) : Int) := by omega
  go_enter Tryd.func9, Tryd.ntmps9
  go_wp2_with fail
  go_ret
  exact ⟨rfl, Only.refl _ _⟩
end Go.Proofs.YtcjifjfcjimefaaDoor.xf
