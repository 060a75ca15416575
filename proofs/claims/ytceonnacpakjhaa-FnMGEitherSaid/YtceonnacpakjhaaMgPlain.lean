/-
  Plain law of merging in place: exchanging two ranges, turning two neighbouring ranges round, the symmetric merge.
-/
import Derived.Test.YtceonnacpakjhaaPqHeap
namespace Go.Proofs.Ytceonnacpakjhaa.mg
open Go.Proofs.Ytceonnacpakjhaa.pq
set_option linter.unusedVariables false

/-- L' is L but for the places from a to b, where there is what was there, in another order -/
structure Mv (a b : Nat) (L L' : List It) : Prop where
  len : L'.length = L.length
  perm : L'.Perm L
  out : ∀ i, i < a ∨ b ≤ i → L'[i]? = L[i]?
  ins : ∀ i, a ≤ i → i < b → ∃ j, a ≤ j ∧ j < b ∧ L'[i]? = L[j]?
section
variable {a b a' b' i j m n k : Nat} {L L' L'' F : List It}
theorem Mv.refl (a b : Nat) (L : List It) : Mv a b L L := ⟨rfl, .refl _, fun _ _ => rfl, fun i h1 h2 => ⟨i, h1, h2, rfl⟩⟩
theorem Mv.trans (h : Mv a b L L') (h' : Mv a b L' L'') : Mv a b L L'' :=
  ⟨h'.len.trans h.len, h'.perm.trans h.perm, fun i hi => (h'.out i hi).trans (h.out i hi), fun i h1 h2 => by
    obtain ⟨j, j1, j2, e⟩ := h'.ins i h1 h2
    obtain ⟨k, k1, k2, e2⟩ := h.ins j j1 j2
    exact ⟨k, k1, k2, e.trans e2⟩⟩
theorem Mv.wide (h : Mv a b L L') (ha : a' ≤ a) (hb : b ≤ b') : Mv a' b' L L' :=
  ⟨h.len, h.perm, fun i hi => h.out i (by omega), fun i h1 h2 => by
    by_cases hi : a ≤ i ∧ i < b
    · obtain ⟨j, j1, j2, e⟩ := h.ins i hi.1 hi.2
      exact ⟨j, by omega, by omega, e⟩
    · exact ⟨i, h1, h2, h.out i (by omega)⟩⟩
theorem Mv.swap (hi : a ≤ i ∧ i < b) (hj : a ≤ j ∧ j < b) (hb : b ≤ L.length) : Mv a b L (swapL L i j) := by
  refine ⟨swapL_len _ _ _, swapL_perm (by omega) (by omega), fun x hx => ?_, fun x h1 h2 => ?_⟩
  · rw [swapL_get (by omega) (by omega), if_neg (by omega), if_neg (by omega)]
  · rw [swapL_get (by omega) (by omega)]
    split
    · exact ⟨i, hi.1, hi.2, rfl⟩
    · split
      · exact ⟨j, hj.1, hj.2, rfl⟩
      · exact ⟨x, h1, h2, rfl⟩
theorem kAt_of (h : L'[i]? = L[j]?) : kAt L' i = kAt L j := by simp [kAt, List.getD_eq_getElem?_getD, h]

/-- from a to b the keys ascend -/
def Srt (a b : Nat) (L : List It) : Prop := ∀ i j, a ≤ i → i ≤ j → j < b → kAt L i ≤ kAt L j
theorem Srt.keep (h : Srt a b L) (e : ∀ i, a ≤ i → i < b → L'[i]? = L[i]?) : Srt a b L' := fun i j h1 h2 h3 => by
  rw [kAt_of (e i h1 (by omega)), kAt_of (e j (by omega) h3)]; exact h i j h1 h2 h3
theorem Srt.part (h : Srt a b L) (ha : a ≤ a') (hb : b' ≤ b) : Srt a' b' L := fun i j h1 h2 h3 => h i j (by omega) h2 (by omega)
theorem Srt.none (h : b ≤ a + 1) (L : List It) : Srt a b L := fun i j h1 h2 h3 => by
  have : i = j := by omega
  rw [this]; exact Int.le_refl _

/-- n places from a on are exchanged with those from b on -/
def Swn (a b n : Nat) (L L' : List It) : Prop :=
  L'.length = L.length ∧ (∀ x, a ≤ x → x < a + n → L'[x]? = L[x + b - a]?) ∧ (∀ x, b ≤ x → x < b + n → L'[x]? = L[x + a - b]?) ∧ ∀ x, ¬ (a ≤ x ∧ x < a + n) → ¬ (b ≤ x ∧ x < b + n) → L'[x]? = L[x]?
theorem Swn.zero (a b : Nat) (L : List It) : Swn a b 0 L L := ⟨rfl, fun x h1 h2 => by omega, fun x h1 h2 => by omega, fun _ _ _ => rfl⟩
theorem Swn.step (h : Swn a b k L L') (hab : a + n ≤ b) (hk : k < n) (hl : b + n ≤ L.length) : Swn a b (k + 1) L (swapL L' (a + k) (b + k)) := by
  obtain ⟨h0, h1, h2, h3⟩ := h
  have g := fun x => swapL_get (L := L') (i := a + k) (j := b + k) (by omega) (by omega) x
  refine ⟨by rw [swapL_len]; exact h0, fun x hx hx2 => ?_, fun x hx hx2 => ?_, fun x hx hx2 => ?_⟩
  · rw [g, if_neg (by omega)]
    split
    · rename_i e; subst e; rw [h3 _ (by omega) (by omega)]; congr 1; omega
    · exact h1 x hx (by omega)
  · rw [g]
    split
    · rename_i e; subst e; rw [h3 _ (by omega) (by omega)]; congr 1; omega
    · rw [if_neg (by omega)]; exact h2 x hx (by omega)
  · rw [g, if_neg (by omega), if_neg (by omega)]; exact h3 x (by omega) (by omega)

/-- what stands from s to m, and from m to e, changes places -/
def rotL (L : List It) (s m e : Nat) : List It := L.take s ++ ((L.drop m).take (e - m) ++ ((L.drop s).take (m - s) ++ L.drop e))
theorem rotL_perm {s m e : Nat} (h1 : s ≤ m) (h2 : m ≤ e) : (rotL L s m e).Perm L := by
  have e1 : L = L.take s ++ ((L.drop s).take (m - s) ++ ((L.drop m).take (e - m) ++ L.drop e)) := by
    conv => lhs; rw [← List.take_append_drop s L, ← List.take_append_drop (m - s) (L.drop s), List.drop_drop, ← List.take_append_drop (e - m) (L.drop (s + (m - s))), List.drop_drop]
    rw [show s + (m - s) = m by omega, show m + (e - m) = e by omega]
  conv => rhs; rw [e1]
  unfold rotL
  refine List.Perm.append_left _ ?_
  rw [← List.append_assoc, ← List.append_assoc]
  exact List.Perm.append_right _ List.perm_append_comm
theorem rotL_len {s m e : Nat} (h1 : s ≤ m) (h2 : m ≤ e) : (rotL L s m e).length = L.length := (rotL_perm h1 h2).length_eq
theorem rotL_get {s m e : Nat} (h1 : s ≤ m) (h2 : m ≤ e) (h3 : e ≤ L.length) (x : Nat) :
    (rotL L s m e)[x]? = if x < s then L[x]? else if x < s + (e - m) then L[x + m - s]? else if x < e then L[x + m - e]? else L[x]? := by
  unfold rotL
  have l1 : (L.take s).length = s := by rw [List.length_take]; omega
  have l2 : ((L.drop m).take (e - m)).length = e - m := by rw [List.length_take, List.length_drop]; omega
  have l3 : ((L.drop s).take (m - s)).length = m - s := by rw [List.length_take, List.length_drop]; omega
  split
  · rw [List.getElem?_append_left (by omega), List.getElem?_take_of_lt (by omega)]
  · rw [List.getElem?_append_right (by omega), l1]
    split
    · rw [List.getElem?_append_left (by omega), List.getElem?_take_of_lt (by omega), List.getElem?_drop]; congr 1; omega
    · rw [List.getElem?_append_right (by omega), l2]
      split
      · rw [List.getElem?_append_left (by omega), List.getElem?_take_of_lt (by omega), List.getElem?_drop]; congr 1; omega
      · rw [List.getElem?_append_right (by omega), l3, List.getElem?_drop]; congr 1; omega
theorem rotL_mv {s m e : Nat} (h1 : s ≤ m) (h2 : m ≤ e) (h3 : e ≤ L.length) : Mv s e L (rotL L s m e) := by
  refine ⟨rotL_len h1 h2, rotL_perm h1 h2, fun x hx => ?_, fun x hx hx2 => ?_⟩
  · rw [rotL_get h1 h2 h3]
    split
    · rfl
    · rw [if_neg (by omega), if_neg (by omega)]
  · rw [rotL_get h1 h2 h3, if_neg (by omega)]
    split
    · exact ⟨x + m - s, by omega, by omega, rfl⟩
    · exact ⟨x + m - e, by omega, by omega, rfl⟩
theorem rotL_id {s m e : Nat} (h1 : s ≤ m) (h2 : m ≤ e) (h3 : e ≤ L.length) (h : s = m ∨ m = e) : rotL L s m e = L := by
  refine List.ext_getElem? fun x => ?_
  rw [rotL_get h1 h2 h3]
  split
  · rfl
  · split
    · congr 1; omega
    · split
      · congr 1; omega
      · rfl

/-- F is what comes of L when what stands from p - i to p, and from p to p + j, changes places -/
def Rot (p i j : Nat) (L F : List It) : Prop := ∀ x, F[x]? = if x < p - i then L[x]? else if x < p - i + j then L[x + i]? else if x < p + j then L[x - j]? else L[x]?
theorem Rot.start {s m e : Nat} (h1 : s ≤ m) (h2 : m ≤ e) (h3 : e ≤ L.length) : Rot m (m - s) (e - m) L (rotL L s m e) := fun x => by
  rw [rotL_get h1 h2 h3]
  rw [show m - (m - s) = s by omega, show m + (e - m) = e by omega, show x + (m - s) = x + m - s by omega]
  split
  · rfl
  · split
    · rfl
    · split
      · congr 1; omega
      · rfl
theorem Rot.gt {p : Nat} (h : Rot p i j L F) (hij : j < i) (hi : i ≤ p) (hs : Swn (p - i) p j L L') : Rot p (i - j) j L' F := fun x => by
  obtain ⟨s0, s1, s2, s3⟩ := hs
  rw [h x]
  by_cases c1 : x < p - i
  · rw [if_pos c1, if_pos (show x < p - (i - j) by omega), s3 x (by omega) (by omega)]
  · rw [if_neg c1]
    by_cases c2 : x < p - i + j
    · rw [if_pos c2, if_pos (show x < p - (i - j) by omega), s1 x (by omega) (by omega)]; congr 1; omega
    · rw [if_neg c2, if_neg (show ¬ x < p - (i - j) by omega)]
      by_cases c4 : x < p + j
      · rw [if_pos c4]
        by_cases c3 : x < p - (i - j) + j
        · rw [if_pos c3]
          by_cases c5 : x + (i - j) < p
          · rw [s3 _ (by omega) (by omega)]; congr 1; omega
          · rw [s2 _ (by omega) (by omega)]; congr 1; omega
        · rw [if_neg c3, if_pos c4, s3 _ (by omega) (by omega)]
      · rw [if_neg c4, if_neg (show ¬ x < p - (i - j) + j by omega), if_neg c4, s3 _ (by omega) (by omega)]
theorem Rot.lt {p : Nat} (h : Rot p i j L F) (hij : i < j) (hi : i ≤ p) (hs : Swn (p - i) (p + j - i) i L L') : Rot p i (j - i) L' F := fun x => by
  obtain ⟨s0, s1, s2, s3⟩ := hs
  rw [h x]
  by_cases c1 : x < p - i
  · rw [if_pos c1, if_pos c1, s3 x (by omega) (by omega)]
  · rw [if_neg c1, if_neg c1]
    by_cases c2 : x < p - i + (j - i)
    · rw [if_pos (by omega), if_pos c2, s3 _ (by omega) (by omega)]
    · rw [if_neg c2]
      by_cases c3 : x < p + (j - i)
      · rw [if_pos (by omega), if_pos c3, s1 _ (by omega) (by omega)]; congr 1; omega
      · rw [if_neg c3]
        by_cases c4 : x < p + j
        · rw [if_neg (by omega), if_pos c4, s2 _ (by omega) (by omega)]; congr 1; omega
        · rw [if_neg (by omega), if_neg c4, s3 _ (by omega) (by omega)]
theorem Rot.eq {p : Nat} (h : Rot p i i L F) (hi : i ≤ p) (hs : Swn (p - i) p i L L') : L' = F := by
  obtain ⟨s0, s1, s2, s3⟩ := hs
  refine List.ext_getElem? fun x => ?_
  rw [h x]
  by_cases c1 : x < p - i
  · rw [if_pos c1, s3 x (by omega) (by omega)]
  · rw [if_neg c1]
    by_cases c2 : x < p - i + i
    · rw [if_pos c2, s1 x (by omega) (by omega)]; congr 1; omega
    · rw [if_neg c2]
      by_cases c3 : x < p + i
      · rw [if_pos c3, s2 x (by omega) (by omega)]; congr 1; omega
      · rw [if_neg c3, s3 x (by omega) (by omega)]

/-- what the search for the place where two sorted ranges are cut leaves: what is then exchanged -/
structure Parts (a m b mid st : Nat) (L F : List It) : Prop where
  le : a ≤ st ∧ st ≤ m ∧ m ≤ mid + m - st ∧ mid + m - st ≤ b ∧ st ≤ mid ∧ mid ≤ mid + m - st
  s1 : Srt a st F
  s2 : Srt st mid F
  s3 : Srt mid (mid + m - st) F
  s4 : Srt (mid + m - st) b F
  cross : ∀ i j, a ≤ i → i < mid → mid ≤ j → j < b → kAt F i ≤ kAt F j
  mv : Mv a b L F
theorem sym_parts {mid st lo hi : Nat} (hA : Srt a m L) (hB : Srt m b L) (ham : a < m) (hmb : m < b) (hl : b ≤ L.length) (hmid : (a + b) / 2 = mid)
    (hlo : (mid < m ∧ lo = mid + m - b ∧ hi = mid) ∨ (m ≤ mid ∧ lo = a ∧ hi = m)) (hst : lo ≤ st) (hst2 : st ≤ hi)
    (h1 : st = lo ∨ kAt L (st - 1) ≤ kAt L (mid + m - st)) (h2 : st = hi ∨ kAt L (mid + m - 1 - st) < kAt L st) : Parts a m b mid st L (rotL L st m (mid + m - st)) := by
  have hle : a ≤ st ∧ st ≤ m ∧ m ≤ mid + m - st ∧ mid + m - st ≤ b ∧ st ≤ mid ∧ mid ≤ mid + m - st := by omega
  have g := fun x => rotL_get (L := L) (s := st) (m := m) (e := mid + m - st) (by omega) (by omega) (by omega) x
  have k1 : ∀ x, x < st → kAt (rotL L st m (mid + m - st)) x = kAt L x := fun x hx => kAt_of (by rw [g, if_pos hx])
  have k2 : ∀ x, st ≤ x → x < mid → kAt (rotL L st m (mid + m - st)) x = kAt L (x + m - st) := fun x hx hx2 => kAt_of (by rw [g, if_neg (by omega), if_pos (by omega)])
  have k3 : ∀ x, mid ≤ x → x < mid + m - st → kAt (rotL L st m (mid + m - st)) x = kAt L (x + st - mid) := fun x hx hx2 => kAt_of (by rw [g, if_neg (by omega), if_neg (by omega), if_pos (by omega)]; congr 1; omega)
  have k4 : ∀ x, mid + m - st ≤ x → kAt (rotL L st m (mid + m - st)) x = kAt L x := fun x hx => kAt_of (by rw [g, if_neg (by omega), if_neg (by omega), if_neg (by omega)])
  refine ⟨hle, fun i j x1 x2 x3 => ?_, fun i j x1 x2 x3 => ?_, fun i j x1 x2 x3 => ?_, fun i j x1 x2 x3 => ?_, fun i j x1 x2 x3 x4 => ?_, (rotL_mv (by omega) (by omega) (by omega)).wide (by omega) (by omega)⟩
  · rw [k1 i (by omega), k1 j (by omega)]; exact hA i j x1 x2 (by omega)
  · rw [k2 i (by omega) (by omega), k2 j (by omega) (by omega)]; exact hB _ _ (by omega) (by omega) (by omega)
  · rw [k3 i (by omega) (by omega), k3 j (by omega) (by omega)]; exact hA _ _ (by omega) (by omega) (by omega)
  · rw [k4 i (by omega), k4 j (by omega)]; exact hB _ _ (by omega) (by omega) (by omega)
  · by_cases c1 : i < st
    · rw [k1 i c1]
      by_cases c2 : j < mid + m - st
      · rw [k3 j (by omega) c2]; exact hA _ _ (by omega) (by omega) (by omega)
      · rw [k4 j (by omega)]
        have h3 : kAt L (st - 1) ≤ kAt L (mid + m - st) := h1.resolve_left (by omega)
        have h4 := hA i (st - 1) (by omega) (by omega) (by omega)
        have h5 := hB (mid + m - st) j (by omega) (by omega) (by omega)
        omega
    · rw [k2 i (by omega) (by omega)]
      by_cases c2 : j < mid + m - st
      · rw [k3 j (by omega) c2]
        have h3 : kAt L (mid + m - 1 - st) < kAt L st := h2.resolve_left (by omega)
        have h4 := hB (i + m - st) (mid + m - 1 - st) (by omega) (by omega) (by omega)
        have h5 := hA st (j + st - mid) (by omega) (by omega) (by omega)
        omega
      · rw [k4 j (by omega)]; exact hB _ _ (by omega) (by omega) (by omega)
theorem sym_join {mid : Nat} {F1 F2 : List It} (hc : ∀ i j, a ≤ i → i < mid → mid ≤ j → j < b → kAt F i ≤ kAt F j) (h1 : Mv a mid F F1) (s1 : Srt a mid F1) (h2 : Mv mid b F1 F2) (s2 : Srt mid b F2) : Srt a b F2 := by
  intro i j x1 x2 x3
  by_cases c1 : j < mid
  · rw [kAt_of (h2.out i (by omega)), kAt_of (h2.out j (by omega))]; exact s1 i j x1 x2 c1
  · by_cases c2 : mid ≤ i
    · exact s2 i j c2 x2 x3
    · obtain ⟨p, p1, p2, ep⟩ := h1.ins i x1 (by omega)
      obtain ⟨q, q1, q2, eq⟩ := h2.ins j (by omega) x3
      rw [kAt_of ((h2.out i (by omega)).trans ep), kAt_of (eq.trans (h1.out q (by omega)))]
      exact hc p q p1 p2 q1 q2
end
end Go.Proofs.Ytceonnacpakjhaa.mg
