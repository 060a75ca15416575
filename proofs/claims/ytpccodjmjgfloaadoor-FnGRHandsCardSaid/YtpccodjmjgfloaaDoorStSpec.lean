/-
  Sets as lists: the functions of the specification (STHas, STWith, STWithout, STSame).
-/
import Derived.Test.YtpccodjmjgfloaaDoorBase
import Derived.Test.YtpccodjmjgfloaaDoorRw
import Derived.Test.YtpccodjmjgfloaaDoorMapS
namespace Go.Proofs.YtpccodjmjgfloaaDoor.st
open Go.RowKit Go.Proofs.YtpccodjmjgfloaaDoor.base Go.Proofs.YtpccodjmjgfloaaDoor.heap Go.Proofs.YtpccodjmjgfloaaDoor.rows
set_option linter.unusedVariables false

theorem slI : SliceOf Tryd.prog 23 3 1 8 := SliceOf.mk (z := .int .i64 0) Tryd.underlying23 (by kernel_rfl) rfl

set_option maxHeartbeats 400000 in
theorem stHas (a : Option Addr) (n cap : Nat) (l : List Int) (x : Int) (w : World) (h : RL iv w a n cap l) :
    Calls Tryd.prog 24 #[.slice a n cap, .int .i64 x] w fun e w' => e = .returned (.bool (decide (x ∈ l))) ∧ w = w' := by
  have hbd := h.bound
  have HR := Lib.hid h
  have HL := Lib.hid h.2
  clear h
  go_enter Tryd.func24, Tryd.ntmps24
  go_wp2
  go_loop [6, 9] (fun _ i => ∃ k : Nat, k ≤ n ∧ i = .int .i64 (k : Int) ∧ Hid (x ∉ l.take k)) (fun _ i => n - (intOf i).toNat)
  case atStart => exact ⟨0, Nat.zero_le _, rfl, Lib.hid (by simp)⟩
  case round =>
    obtain ⟨k, hk, rfl, HN⟩ := hrel
    by_cases hlt : k < n
    · have hlt' : (k : Int) < (n : Int) := by omega
      obtain ⟨b, off, rfl, hb, hc⟩ := HR.out.at (by omega)
      obtain ⟨y, hy⟩ := HR.out.get hlt
      have c0 := hc k y hy
      have HY := Lib.hid hy
      clear hc hy
      by_cases hxy : x = y
      · subst hxy
        have HM : Hid (decide (x ∈ l) = true) := Lib.hid (decide_eq_true (List.mem_of_getElem? HY.out))
        go_wp2
        go_ret
        exact ⟨by rw [HM.out]; rfl, rfl⟩
      · have HN' : Hid (x ∉ l.take (k + 1)) := Lib.hid (by
          rw [take_snoc l k y HY.out, List.mem_append]
          rintro (h | h)
          · exact HN.out h
          · exact hxy (by simpa using h))
        go_wp2
        go_round
        case rel => exact ⟨k + 1, by omega, by go_num, HN'⟩
        case measure => simp [intOf]; omega
    · obtain rfl : k = n := by omega
      have HM : Hid (decide (x ∈ l) = false) := Lib.hid (decide_eq_false (by have := HN.out; rwa [List.take_of_length_le (by rw [HL.out]; exact Nat.le_refl _)] at this))
      go_wp2
      go_ret
      exact ⟨by rw [HM.out]; rfl, rfl⟩

/-- a list with values that are not in it -/
def withL (l more : List Int) : List Int := more.foldl (fun s x => if x ∈ s then s else s ++ [x]) l
def withoutL (l less : List Int) : List Int := l.filter (fun x => !decide (x ∈ less))
theorem withL_take (l more : List Int) (k : Nat) (x : Int) (h : more[k]? = some x) : withL l (more.take (k + 1)) = if x ∈ withL l (more.take k) then withL l (more.take k) else withL l (more.take k) ++ [x] := by
  rw [take_snoc more k x h, withL, List.foldl_append]; rfl
theorem withL_len (l more : List Int) : (withL l more).length ≤ l.length + more.length := by
  induction more generalizing l with
  | nil => simp [withL]
  | cons x more ih =>
    have := ih (if x ∈ l then l else l ++ [x])
    show (withL (if x ∈ l then l else l ++ [x]) more).length ≤ _
    split at this
    · rename_i h; rw [if_pos h]; simp only [List.length_cons]; omega
    · rename_i h; rw [if_neg h]; simp only [List.length_cons, List.length_append, List.length_nil] at *; omega
theorem withL_nodup (l more : List Int) (h : l.Nodup) : (withL l more).Nodup := by
  induction more generalizing l with
  | nil => exact h
  | cons x more ih =>
    show (withL (if x ∈ l then l else l ++ [x]) more).Nodup
    split
    · exact ih _ h
    · rename_i hx
      refine ih _ ?_
      rw [List.nodup_append]
      exact ⟨h, by simp, fun a ha b hb => by simp at hb; subst hb; exact fun e => hx (e ▸ ha)⟩
theorem withoutL_take (l less : List Int) (k : Nat) (x : Int) (h : l[k]? = some x) : withoutL (l.take (k + 1)) less = if x ∈ less then withoutL (l.take k) less else withoutL (l.take k) less ++ [x] := by
  rw [take_snoc l k x h]
  unfold withoutL
  rw [List.filter_append]
  by_cases hx : x ∈ less <;> simp [hx]

def FNew (l : List Int) (w : World) (en : Ending) (w' : World) : Prop :=
  ∃ a n cap, en = .returned (.slice a n cap) ∧ OL 3 iv w' a n cap l ∧ Same w w' ∧ ∀ k, At a k → w.heap.size ≤ k

set_option maxRecDepth 100000 in
set_option maxHeartbeats 1600000 in
theorem stWith (a : Option Addr) (n cap : Nat) (l : List Int) (a2 : Option Addr) (m c2 : Nat) (more : List Int) (w : World) (h : RL iv w a n cap l) (h2 : RL iv w a2 m c2 more) (hn : n ≤ 1000000) (hm : m ≤ 1000000) :
    Calls Tryd.prog 22 #[.slice a n cap, .slice a2 m c2] w (FNew (withL l more) w) := by
  have hbd := h.bound
  have hbd2 := h2.bound
  have HR := Lib.hid h
  have HR2 := Lib.hid h2
  clear h h2
  go_enter Tryd.func22, Tryd.ntmps22
  go_wp2_with (at_builtin; refine wpList_append n (l.map iv) rfl _ _ _ _ rfl slI rfl (Own.nil _ _ _) rfl (HR.out.1.src Tryd.underlying23) (Nat.zero_add n) rfl ?h63 ?hb ?_)
  case h63 => unfold maxLen; omega
  case hb => omega
  intro a' cap' w1 hG
  have HO1 : Hid (Same w w1) := Lib.hid (hG.only.mono (fun _ _ f => f))
  have HOWN1 : Hid (OL 3 iv w1 a' n cap' l) := Lib.hid ⟨hG.own, HR.out.2⟩
  have HF1 : Hid (∀ k, At a' k → w.heap.size ≤ k) := Lib.hid (fun k hk => (hG.fresh k hk).resolve_left id)
  clear hG
  go_wp2_with fail
  go_loopw [5, 7, 12] (fun out _ i wr => ∃ (k t : Nat) (oa : Option Addr) (oc : Nat), k ≤ m ∧ i = .int .i64 (k : Int) ∧ out = .slice oa t oc ∧ t ≤ n + k ∧ OL 3 iv wr oa t oc (withL l (more.take k)) ∧ Same w wr ∧ ∀ j, At oa j → w.heap.size ≤ j) (fun _ _ i _ => m - (intOf i).toNat)
  case atStart => exact ⟨0, n, a', cap', Nat.zero_le _, rfl, rfl, Nat.le_refl _, HOWN1.out, HO1.out, HF1.out⟩
  case round =>
    obtain ⟨k, t, oa, oc, hk, rfl, rfl, ht, hown, hO, hfr⟩ := hrel
    have hbo := hown.bound
    have HOWN := Lib.hid hown
    have HO := Lib.hid hO
    have HFR := Lib.hid hfr
    clear hown hO hfr
    by_cases hlt : k < m
    · have hlt' : (k : Int) < (m : Int) := by omega
      obtain ⟨b, off, rfl, hb, hc⟩ := (HR2.out.still HO.out).at (by omega)
      obtain ⟨x, hx⟩ := HR2.out.get hlt
      have c0 := hc k x hx
      have HT := Lib.hid (withL_take l more k x hx)
      have HHAS := Lib.hid (stHas oa t oc _ x wr HOWN.out.rl)
      clear hc hx
      generalize hg : withL l (more.take k) = g at *
      clear hg
      go_wp2_with fail
      refine HHAS.out.mono ?_
      rintro e w2 ⟨rfl, rfl⟩
      clear HHAS
      by_cases hmem : x ∈ g
      · have HT2 : Hid (withL l (more.take (k + 1)) = g) := Lib.hid (by rw [HT.out, if_pos hmem])
        rw [decide_eq_true hmem]
        clear hmem
        go_wp2_with fail
        go_roundw
        case rel => exact ⟨k + 1, t, oa, oc, by omega, by go_num, rfl, by omega, by rw [HT2.out]; exact HOWN.out, HO.out, HFR.out⟩
        case measure => simp [intOf]; omega
      · have HT2 : Hid (withL l (more.take (k + 1)) = g ++ [x]) := Lib.hid (by rw [HT.out, if_neg hmem])
        rw [decide_eq_false hmem]
        clear hmem
        go_wp2_with (at_builtin; refine wpList_append (t + 1) (g.map iv ++ [iv x]) rfl _ _ _ _ rfl slI rfl (HOWN.out.1.keep (S := fun j => j = wr.heap.size) (by repeat (first | exact Only.refl _ _ | apply Only.alloc | refine Only.setCell ?_ _ _ (fun _ => rfl))) (fun j hj e => by have := HOWN.out.1.lt j hj; omega)) rfl (Src.row (size := 1) (cs := #[.int .i64 x]) (t := 3) (fr := (0, 0)) Tryd.underlying23 (heap_alloc_new' _ _ _ (by simp)) 1 1 rfl (by simp [Value.oneCell'])) rfl rfl (by unfold maxLen; omega) (by omega) ?_)
        intro a'' cap'' w3 hG
        have HG : Hid (OL 3 iv w3 a'' (t + 1) cap'' (g ++ [x])) := Lib.hid ⟨by have := hG.own; rwa [List.map_append], by rw [List.length_append, HOWN.out.2]; rfl⟩
        have HO3 : Hid (Same w w3) := Lib.hid (Only.trans (S := fun _ => False) (T := At oa) (by repeat (first | exact HO.out | apply Only.alloc)) hG.only (fun j hj h => by have := HFR.out j h; omega))
        have HF3 : Hid (∀ j, At a'' j → w.heap.size ≤ j) := Lib.hid (fun j hj => by
          rcases hG.fresh j hj with h | h
          · exact HFR.out j h
          · have := HO.out.size; simp at h; omega)
        clear hG
        go_wp2_with fail
        go_roundw
        case rel => exact ⟨k + 1, t + 1, a'', cap'', by omega, by go_num, rfl, by omega, by rw [HT2.out]; exact HG.out, HO3.out, HF3.out⟩
        case measure => simp [intOf]; omega
    · obtain rfl : k = m := by omega
      have HE : Hid (more.take k = more) := Lib.hid (List.take_of_length_le (by rw [HR2.out.2]; exact Nat.le_refl _))
      rw [HE.out] at HOWN
      go_wp2_with fail
      go_ret
      exact ⟨oa, t, oc, rfl, HOWN.out, HO.out, HFR.out⟩

end Go.Proofs.YtpccodjmjgfloaaDoor.st
