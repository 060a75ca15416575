/-
  The reference's functions on truth values, further: BSGrow, BSPut, BSOf, BSLast, BLBits.
-/
import Derived.Test.YtgndpckcdageiaaBsSpecC
namespace Go.Proofs.Ytgndpckcdageiaa.bs
open Go.RowKit Go.Proofs.Ytgndpckcdageiaa.base Go.Proofs.Ytgndpckcdageiaa.heap Go.Proofs.Ytgndpckcdageiaa.bit
set_option linter.unusedVariables false

/-- an empty slice of the call's own -/
theorem own_empty (e : Nat) (w w' : World) (b : Nat) (hb : w'.heap[b]? = some (.cells #[] e (0, 0))) : Own e 1 w' (some ⟨b, 0, none⟩) 0 0 [] := by
  have := Own.of_block (size := 1) hb 0 0 (Nat.le_refl _) (by unfold maxLen; omega) rfl (by simp)
  simpa using this

def grow (b : List Bool) (t : Nat) : List Bool := b ++ List.replicate (t - b.length) false
theorem grow_len (b : List Bool) (t : Nat) : (grow b t).length = max b.length t := by simp [grow]; omega
theorem grow_get (b : List Bool) (t i : Nat) : (grow b t).getD i false = b.getD i false := by
  unfold grow
  simp only [List.getD_eq_getElem?_getD, List.getElem?_append, List.getElem?_replicate]
  by_cases h : i < b.length
  · simp [h]
  · rw [if_neg h, List.getElem?_eq_none (by omega)]
    split <;> rfl
theorem grow_of_le {b : List Bool} {t : Nat} (h : t ≤ b.length) : grow b t = b := by simp [grow, Nat.sub_eq_zero_of_le h]

/-- how many elements a slice value has -/
def lenOf : Value → Nat | .slice _ n _ => n | _ => 0
theorem grow_succ {b : List Bool} {k : Nat} (h : b.length ≤ k) : grow b (k + 1) = grow b k ++ [false] := by
  unfold grow
  rw [show k + 1 - b.length = (k - b.length) + 1 from by omega, List.replicate_succ', List.append_assoc]

set_option maxHeartbeats 1600000 in
/-- BSGrow: the bits with further ones that are not set -/
theorem bsGrow (a0 : Option Addr) (cap0 : Nat) (b : List Bool) (t : Nat) (w : World) (hrb : RB w a0 b.length cap0 b) (hn : b.length ≤ 1048576) (ht : t ≤ 1048576) :
    Calls Try.prog 35 #[.slice a0 b.length cap0, .int .i64 (t : Int)] w (RetBools (grow b t) w) := by
  have HRB := Lib.hid hrb
  clear hrb
  go_enter Try.func35, Try.ntmps35
  go_wp2_with (at_builtin; refine wpList_append b.length (B b) rfl _ _ _ _ rfl slBool rfl (own_empty _ w _ _ (heap_alloc_new' _ _ _ rfl)) rfl (Rd.src ((HRB.out.keep (S := fun _ => False) ((Only.refl _ w).alloc _) (fun _ _ => id)).1) Try.underlying29) (Nat.zero_add _) rfl (by unfold maxLen; omega) (by omega) ?_)
  intro a1 cap1 w1 hG
  have HC1 : Hid (Own 4 1 w1 a1 b.length cap1 (B b) ∧ Only (fun _ => False) w w1 ∧ ∀ j, At a1 j → w.heap.size ≤ j) := Lib.hid
    ⟨hG.own, ((Only.refl _ w).alloc _).trans hG.only (fun j hj h => by have : w.heap.size = j := h; omega), fun j hj => by
      rcases hG.fresh j hj with h | h
      · have : w.heap.size = j := h; omega
      · simp at h; omega⟩
  clear hG
  go_wp2_with fail
  go_loopw [5] (fun v wr => ∃ (k : Nat) (a : Option Addr) (cap : Nat), b.length ≤ k ∧ (k ≤ t ∨ k = b.length) ∧ v = .slice a k cap ∧ Own 4 1 wr a k cap (B (grow b k)) ∧ Only (fun _ => False) w wr ∧ ∀ j, At a j → w.heap.size ≤ j) (fun v _ => t - lenOf v)
  case atStart => exact ⟨b.length, a1, cap1, Nat.le_refl _, .inr rfl, rfl, by rw [grow_of_le (Nat.le_refl _)]; exact HC1.out.1, HC1.out.2.1, HC1.out.2.2⟩
  case round =>
    obtain ⟨k, a, cap, hk, hkt, rfl, hown, hO, hfr⟩ := hrel
    have HOW := Lib.hid hown
    have HO := Lib.hid hO
    have HFR := Lib.hid hfr
    have hbd := hown.bound
    clear hown hO hfr
    by_cases hlt : k < t
    · have hlt' : (k : Int) < (t : Int) := by omega
      go_wp2_with (at_builtin; refine wpList_append (k + 1) (B (grow b k) ++ [.bool false]) rfl _ _ _ _ rfl slBool rfl (HOW.out.keep (S := fun _ => False) (by repeat (first | exact Only.refl _ _ | apply Only.alloc | apply Only.drewN)) (fun _ _ => id)) rfl (Src.row (cs := #[.bool false]) (t := 4) (fr := (0, 0)) Try.underlying29 (heap_alloc_new' _ _ _ (by simp)) 1 1 rfl (by simp [Value.oneCell'])) rfl rfl (by unfold maxLen; omega) (by omega) ?_)
      intro a' cap' w2 hG
      have HG := Lib.hid hG
      clear hG
      go_wp2_with fail
      go_roundw
      case rel =>
        refine ⟨k + 1, a', cap', by omega, .inl (by omega), rfl, ?_, HO.out.trans (((Only.refl (At a) wr).alloc _).trans HG.out.only (fun _ _ h => h)) (fun j hj h => by have := HFR.out j h; omega), fun j hj => ?_⟩
        · rw [grow_succ hk, ← B_app]; exact HG.out.own
        · rcases HG.out.fresh j hj with h | h
          · exact HFR.out j h
          · have := HO.out.size; simp at h; omega
      case measure => simp [lenOf]; omega
    · have hge : ¬ (k : Int) < (t : Int) := by omega
      go_wp2_with fail
      go_ret
      have hk2 : (grow b t).length = k := by rw [grow_len]; omega
      have hk3 : grow b k = grow b t := by
        rcases hkt with h | h
        · rw [show k = t from by omega]
        · subst h; rw [grow_of_le (Nat.le_refl _), grow_of_le (by omega)]
      refine ⟨a, cap, by rw [hk2]; rfl, ⟨by rw [hk2, ← hk3]; exact HOW.out.rd, rfl⟩, HO.out, HFR.out⟩

/-- the bits from one place up to another one: how 0 not set, 1 set, 2 turned -/
def putL (b : List Bool) (f t how : Nat) : List Bool := (List.range b.length).map fun i => if f ≤ i ∧ i < t then (how == 1 || (how == 2 && !b.getD i false)) else b.getD i false
theorem putL_len (b : List Bool) (f t how : Nat) : (putL b f t how).length = b.length := by simp [putL]
theorem putL_get (b : List Bool) (f t how i : Nat) (hi : i < b.length) : (putL b f t how).getD i false = if f ≤ i ∧ i < t then (how == 1 || (how == 2 && !b.getD i false)) else b.getD i false := by
  unfold putL
  simp only [List.getD_eq_getElem?_getD, List.getElem?_map]
  rw [List.getElem?_range hi]
  simp
theorem putL_none (b : List Bool) (f how : Nat) : putL b f f how = b := by
  apply ext_getD
  · exact putL_len _ _ _ _
  · intro i hi
    rw [putL_len] at hi
    rw [putL_get _ _ _ _ _ hi, if_neg (by omega)]
theorem putL_succ (b : List Bool) (f k how : Nat) (hf : f ≤ k) (hk : k < b.length) : putL b f (k + 1) how = (putL b f k how).set k (how == 1 || (how == 2 && !b.getD k false)) := by
  apply ext_getD
  · simp [putL_len]
  · intro i hi
    rw [putL_len] at hi
    rw [putL_get _ _ _ _ _ hi]
    simp only [List.getD_eq_getElem?_getD, List.getElem?_set, putL_len]
    by_cases h : k = i
    · subst h; rw [if_pos ⟨hf, by omega⟩, if_pos rfl, if_pos hk]; simp
    · have h2 := putL_get b f k how i hi
      rw [List.getD_eq_getElem?_getD] at h2
      rw [if_neg h, h2]
      by_cases h3 : f ≤ i ∧ i < k
      · rw [if_pos h3, if_pos ⟨h3.1, by omega⟩]; simp
      · rw [if_neg h3, if_neg (by omega)]; simp
theorem putL_far (b : List Bool) (f t t' how : Nat) (h : b.length ≤ t) (h' : b.length ≤ t') : putL b f t how = putL b f t' how := by
  apply ext_getD
  · simp [putL_len]
  · intro i hi
    rw [putL_len] at hi
    rw [putL_get _ _ _ _ _ hi, putL_get _ _ _ _ _ hi]
    by_cases h3 : f ≤ i
    · rw [if_pos ⟨h3, by omega⟩, if_pos ⟨h3, by omega⟩]
    · rw [if_neg (fun hh => h3 hh.1), if_neg (fun hh => h3 hh.1)]
/-- what BSPut answers -/
def put (b : List Bool) (f t how : Nat) : List Bool := if t ≤ f then b else putL (if how = 0 then b else grow b t) f t how

set_option maxRecDepth 100000 in
set_option maxHeartbeats 1600000 in
theorem bsPut0 (a0 : Option Addr) (cap0 : Nat) (b : List Bool) (f t : Nat) (w : World) (hrb : RB w a0 b.length cap0 b) (hn : b.length ≤ 1048576) (ht : t ≤ 1048576) (hf : f ≤ 1048576) (hft : f < t) :
    Calls Try.prog 12 #[.slice a0 b.length cap0, .int .i64 (f : Int), .int .i64 (t : Int), .int .i64 0] w (RetBools (putL b f t 0) w) := by
  have hft' : ¬ (t : Int) ≤ (f : Int) := by omega
  have HRB0 := Lib.hid hrb
  clear hrb
  go_enter Try.func12, Try.ntmps12
  have HRB := HRB0
  have HO0 : Hid (Only (fun _ => False) w w) := Lib.hid (Only.refl _ _)

  go_wp2_with (at_builtin; refine wpList_append b.length (B b) rfl _ _ _ _ rfl slBool rfl (own_empty _ (default : World) _ _ (heap_alloc_new' _ _ _ rfl)) rfl (Rd.src ((HRB.out.keep (S := fun _ => False) (by repeat (first | exact Only.refl _ _ | apply Only.alloc)) (fun _ _ => id)).1) Try.underlying29) (Nat.zero_add _) rfl (by unfold maxLen; omega) (by omega) ?_)
  intro a1 cap1 w1 hG
  have HO1 : Hid (Only (fun _ => False) w w1) := Lib.hid (((Only.refl _ w).alloc _).trans hG.only (fun j hj h => by have : w.heap.size = j := h; omega))
  have HF1 : Hid (∀ j, At a1 j → w.heap.size ≤ j) := Lib.hid (fun j hj => by
    rcases hG.fresh j hj with h | h
    · have : w.heap.size = j := h; omega
    · simp at h; omega)
  have HOW1 := Lib.hid hG.own
  clear hG
  go_wp2_with fail
  go_loopw [10] (fun i wr => ∃ k : Nat, f ≤ k ∧ (k = f ∨ (k ≤ t ∧ k ≤ b.length)) ∧ i = .int .i64 (k : Int) ∧ Own 4 1 wr a1 b.length cap1 (B (putL b f k 0)) ∧ Only (At a1) w1 wr) (fun i _ => t - (intOf i).toNat)
  case atStart => exact ⟨f, Nat.le_refl _, .inl rfl, rfl, by rw [putL_none]; exact HOW1.out, Only.refl _ _⟩
  case round =>
    obtain ⟨k, hfk, hk, rfl, hown, hO⟩ := hrel
    have HOW := Lib.hid hown
    have HO := Lib.hid hO
    have hbd := hown.bound
    clear hown hO
    by_cases hin : k < t ∧ k < b.length
    · obtain ⟨h1, h2⟩ := hin
      have h1' : (k : Int) < (t : Int) := by omega
      have h2' : (k : Int) < (b.length : Int) := by omega
      have HS : Hid (putL b f (k + 1) 0 = (putL b f k 0).set k false) := Lib.hid (putL_succ b f k 0 hfk h2)
      obtain ⟨bb, hbb, hbl, hbc⟩ := HOW.out.at (by omega)
      have cs : wr.cell? ⟨bb, k, none⟩ = some (.bool ((putL b f k 0).getD k false)) := by
        have := hbc k _ (B_get _ k (by rw [putL_len]; exact h2))
        simpa using this
      have fs := HOW.out.frozen hbb k
      clear hbc
      subst hbb

      go_wp2_with fail
      go_roundw
      case rel =>
        refine ⟨k + 1, by omega, .inr (by omega), by go_num, ?_, HO.out.setCell _ _ (fun _ => rfl)⟩
        rw [HS.out, ← B_set]
        exact HOW.out.set rfl k _ rfl (by omega)
      case measure => simp [intOf]; omega
    · have HE : Hid (RetBools (putL b f t 0) w (.returned (.slice a1 b.length cap1)) wr) := Lib.hid (by
        have e : putL b f k 0 = putL b f t 0 := by
          by_cases h3 : k < t
          · exact putL_far _ _ _ _ _ (by omega) (by omega)
          · rw [show k = t from by omega]
        refine ⟨a1, cap1, by rw [putL_len], ⟨by rw [putL_len, ← e]; exact HOW.out.rd, rfl⟩, HO0.out.trans (HO1.out.trans HO.out (fun j hj h => by have := HF1.out j h; omega)) (fun _ _ h => h), fun j hj => ?_⟩
        have h4 := HF1.out j hj
        have h5 := HO0.out.size
        omega)
      have hcase : ((k : Int) < (t : Int) ∧ ¬ (k : Int) < (b.length : Int)) ∨ ¬ (k : Int) < (t : Int) := by omega
      clear hin
      rcases hcase with ⟨h1, h2⟩ | h1
      all_goals
        go_wp2_with fail
        go_ret
        exact HE.out

set_option maxRecDepth 100000 in
set_option maxHeartbeats 1600000 in
theorem bsPut1 (a0 : Option Addr) (cap0 : Nat) (b : List Bool) (f t : Nat) (w : World) (hrb : RB w a0 b.length cap0 b) (hn : b.length ≤ 1048576) (ht : t ≤ 1048576) (hf : f ≤ 1048576) (hft : f < t) :
    Calls Try.prog 12 #[.slice a0 b.length cap0, .int .i64 (f : Int), .int .i64 (t : Int), .int .i64 1] w (RetBools (putL (grow b t) f t 1) w) := by
  have hft' : ¬ (t : Int) ≤ (f : Int) := by omega
  have HRB0 := Lib.hid hrb
  clear hrb
  go_enter Try.func12, Try.ntmps12
  have HGR : Hid (Calls Try.prog 35 #[.slice a0 b.length cap0, .int .i64 (t : Int)] w (RetBools (grow b t) w)) := Lib.hid (bsGrow a0 cap0 b t w HRB0.out hn ht)
  have hdl : (grow b t).length ≤ 1048576 := by rw [grow_len]; omega
  generalize grow b t = d at *
  go_wp2_with fail
  refine HGR.out.mono ?_
  rintro e w0 ⟨a0', cap0', rfl, hrb0, hO0, hfr0⟩
  have HRB := Lib.hid hrb0
  have HO0 := Lib.hid hO0
  clear hrb0 hO0 hfr0
  go_wp2_with (at_builtin; refine wpList_append d.length (B d) rfl _ _ _ _ rfl slBool rfl (own_empty _ (default : World) _ _ (heap_alloc_new' _ _ _ rfl)) rfl (Rd.src ((HRB.out.keep (S := fun _ => False) (by repeat (first | exact Only.refl _ _ | apply Only.alloc)) (fun _ _ => id)).1) Try.underlying29) (Nat.zero_add _) rfl (by unfold maxLen; omega) (by omega) ?_)
  intro a1 cap1 w1 hG
  have HO1 : Hid (Only (fun _ => False) w0 w1) := Lib.hid (((Only.refl _ w0).alloc _).trans hG.only (fun j hj h => by have : w0.heap.size = j := h; omega))
  have HF1 : Hid (∀ j, At a1 j → w0.heap.size ≤ j) := Lib.hid (fun j hj => by
    rcases hG.fresh j hj with h | h
    · have : w0.heap.size = j := h; omega
    · simp at h; omega)
  have HOW1 := Lib.hid hG.own
  clear hG
  go_wp2_with fail
  go_loopw [10] (fun i wr => ∃ k : Nat, f ≤ k ∧ (k = f ∨ (k ≤ t ∧ k ≤ d.length)) ∧ i = .int .i64 (k : Int) ∧ Own 4 1 wr a1 d.length cap1 (B (putL d f k 1)) ∧ Only (At a1) w1 wr) (fun i _ => t - (intOf i).toNat)
  case atStart => exact ⟨f, Nat.le_refl _, .inl rfl, rfl, by rw [putL_none]; exact HOW1.out, Only.refl _ _⟩
  case round =>
    obtain ⟨k, hfk, hk, rfl, hown, hO⟩ := hrel
    have HOW := Lib.hid hown
    have HO := Lib.hid hO
    have hbd := hown.bound
    clear hown hO
    by_cases hin : k < t ∧ k < d.length
    · obtain ⟨h1, h2⟩ := hin
      have h1' : (k : Int) < (t : Int) := by omega
      have h2' : (k : Int) < (d.length : Int) := by omega
      have HS : Hid (putL d f (k + 1) 1 = (putL d f k 1).set k true) := Lib.hid (putL_succ d f k 1 hfk h2)
      obtain ⟨bb, hbb, hbl, hbc⟩ := HOW.out.at (by omega)
      have cs : wr.cell? ⟨bb, k, none⟩ = some (.bool ((putL d f k 1).getD k false)) := by
        have := hbc k _ (B_get _ k (by rw [putL_len]; exact h2))
        simpa using this
      have fs := HOW.out.frozen hbb k
      clear hbc
      subst hbb

      go_wp2_with fail
      go_roundw
      case rel =>
        refine ⟨k + 1, by omega, .inr (by omega), by go_num, ?_, HO.out.setCell _ _ (fun _ => rfl)⟩
        rw [HS.out, ← B_set]
        exact HOW.out.set rfl k _ rfl (by omega)
      case measure => simp [intOf]; omega
    · have HE : Hid (RetBools (putL d f t 1) w (.returned (.slice a1 d.length cap1)) wr) := Lib.hid (by
        have e : putL d f k 1 = putL d f t 1 := by
          by_cases h3 : k < t
          · exact putL_far _ _ _ _ _ (by omega) (by omega)
          · rw [show k = t from by omega]
        refine ⟨a1, cap1, by rw [putL_len], ⟨by rw [putL_len, ← e]; exact HOW.out.rd, rfl⟩, HO0.out.trans (HO1.out.trans HO.out (fun j hj h => by have := HF1.out j h; omega)) (fun _ _ h => h), fun j hj => ?_⟩
        have h4 := HF1.out j hj
        have h5 := HO0.out.size
        omega)
      have hcase : ((k : Int) < (t : Int) ∧ ¬ (k : Int) < (d.length : Int)) ∨ ¬ (k : Int) < (t : Int) := by omega
      clear hin
      rcases hcase with ⟨h1, h2⟩ | h1
      all_goals
        go_wp2_with fail
        go_ret
        exact HE.out

set_option maxRecDepth 100000 in
set_option maxHeartbeats 1600000 in
theorem bsPut2 (a0 : Option Addr) (cap0 : Nat) (b : List Bool) (f t : Nat) (w : World) (hrb : RB w a0 b.length cap0 b) (hn : b.length ≤ 1048576) (ht : t ≤ 1048576) (hf : f ≤ 1048576) (hft : f < t) :
    Calls Try.prog 12 #[.slice a0 b.length cap0, .int .i64 (f : Int), .int .i64 (t : Int), .int .i64 2] w (RetBools (putL (grow b t) f t 2) w) := by
  have hft' : ¬ (t : Int) ≤ (f : Int) := by omega
  have HRB0 := Lib.hid hrb
  clear hrb
  go_enter Try.func12, Try.ntmps12
  have HGR : Hid (Calls Try.prog 35 #[.slice a0 b.length cap0, .int .i64 (t : Int)] w (RetBools (grow b t) w)) := Lib.hid (bsGrow a0 cap0 b t w HRB0.out hn ht)
  have hdl : (grow b t).length ≤ 1048576 := by rw [grow_len]; omega
  generalize grow b t = d at *
  go_wp2_with fail
  refine HGR.out.mono ?_
  rintro e w0 ⟨a0', cap0', rfl, hrb0, hO0, hfr0⟩
  have HRB := Lib.hid hrb0
  have HO0 := Lib.hid hO0
  clear hrb0 hO0 hfr0
  go_wp2_with (at_builtin; refine wpList_append d.length (B d) rfl _ _ _ _ rfl slBool rfl (own_empty _ (default : World) _ _ (heap_alloc_new' _ _ _ rfl)) rfl (Rd.src ((HRB.out.keep (S := fun _ => False) (by repeat (first | exact Only.refl _ _ | apply Only.alloc)) (fun _ _ => id)).1) Try.underlying29) (Nat.zero_add _) rfl (by unfold maxLen; omega) (by omega) ?_)
  intro a1 cap1 w1 hG
  have HO1 : Hid (Only (fun _ => False) w0 w1) := Lib.hid (((Only.refl _ w0).alloc _).trans hG.only (fun j hj h => by have : w0.heap.size = j := h; omega))
  have HF1 : Hid (∀ j, At a1 j → w0.heap.size ≤ j) := Lib.hid (fun j hj => by
    rcases hG.fresh j hj with h | h
    · have : w0.heap.size = j := h; omega
    · simp at h; omega)
  have HOW1 := Lib.hid hG.own
  clear hG
  go_wp2_with fail
  go_loopw [10] (fun i wr => ∃ k : Nat, f ≤ k ∧ (k = f ∨ (k ≤ t ∧ k ≤ d.length)) ∧ i = .int .i64 (k : Int) ∧ Own 4 1 wr a1 d.length cap1 (B (putL d f k 2)) ∧ Only (At a1) w1 wr) (fun i _ => t - (intOf i).toNat)
  case atStart => exact ⟨f, Nat.le_refl _, .inl rfl, rfl, by rw [putL_none]; exact HOW1.out, Only.refl _ _⟩
  case round =>
    obtain ⟨k, hfk, hk, rfl, hown, hO⟩ := hrel
    have HOW := Lib.hid hown
    have HO := Lib.hid hO
    have hbd := hown.bound
    clear hown hO
    by_cases hin : k < t ∧ k < d.length
    · obtain ⟨h1, h2⟩ := hin
      have h1' : (k : Int) < (t : Int) := by omega
      have h2' : (k : Int) < (d.length : Int) := by omega
      have HS : Hid (putL d f (k + 1) 2 = (putL d f k 2).set k (!d.getD k false)) := Lib.hid (putL_succ d f k 2 hfk h2)
      obtain ⟨bb, hbb, hbl, hbc⟩ := HOW.out.at (by omega)
      have cs : wr.cell? ⟨bb, k, none⟩ = some (.bool ((putL d f k 2).getD k false)) := by
        have := hbc k _ (B_get _ k (by rw [putL_len]; exact h2))
        simpa using this
      have fs := HOW.out.frozen hbb k
      clear hbc
      subst hbb
      obtain ⟨x, off, rfl, hx, hc⟩ := HRB.out.at (by omega)
      have cd : wr.cell? ⟨x, off + k, none⟩ = some (.bool (d.getD k false)) := (HO.out.cell (p := ⟨x, off + k, none⟩) (Nat.lt_of_lt_of_le hx HO1.out.size) (fun h => by have h6 : bb = x := h; have := HF1.out bb rfl; omega)).trans ((HO1.out.cell (p := ⟨x, off + k, none⟩) hx id).trans (hc k h2))
      clear hc
      generalize d.getD k false = y at *
      go_wp2_with fail
      go_roundw
      case rel =>
        refine ⟨k + 1, by omega, .inr (by omega), by go_num, ?_, HO.out.setCell _ _ (fun _ => rfl)⟩
        rw [HS.out, ← B_set]
        exact HOW.out.set rfl k _ rfl (by omega)
      case measure => simp [intOf]; omega
    · have HE : Hid (RetBools (putL d f t 2) w (.returned (.slice a1 d.length cap1)) wr) := Lib.hid (by
        have e : putL d f k 2 = putL d f t 2 := by
          by_cases h3 : k < t
          · exact putL_far _ _ _ _ _ (by omega) (by omega)
          · rw [show k = t from by omega]
        refine ⟨a1, cap1, by rw [putL_len], ⟨by rw [putL_len, ← e]; exact HOW.out.rd, rfl⟩, HO0.out.trans (HO1.out.trans HO.out (fun j hj h => by have := HF1.out j h; omega)) (fun _ _ h => h), fun j hj => ?_⟩
        have h4 := HF1.out j hj
        have h5 := HO0.out.size
        omega)
      have hcase : ((k : Int) < (t : Int) ∧ ¬ (k : Int) < (d.length : Int)) ∨ ¬ (k : Int) < (t : Int) := by omega
      clear hin
      rcases hcase with ⟨h1, h2⟩ | h1
      all_goals
        go_wp2_with fail
        go_ret
        exact HE.out
end Go.Proofs.Ytgndpckcdageiaa.bs
