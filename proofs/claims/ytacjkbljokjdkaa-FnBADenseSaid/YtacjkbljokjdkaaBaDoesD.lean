/-
  What a step does on a dense array.
-/
import Derived.Test.YtacjkbljokjdkaaBaDoes
namespace Go.Proofs.Ytacjkbljokjdkaa.ba
open Go.RowKit Go.Proofs.Ytacjkbljokjdkaa.base Go.Proofs.Ytacjkbljokjdkaa.heap Go.Proofs.Ytacjkbljokjdkaa.rows Go.Proofs.Ytacjkbljokjdkaa.bit Go.Proofs.Ytacjkbljokjdkaa.bs
set_option linter.unusedVariables false

theorem set_nums {ws l : List Nat} (h : Rep (wf ws) l) : nums ws ws.length = l := (nums_rep ws).eq h
theorem lo_le {ws : List Nat} {lo hi : Nat} {any : Bool} (h : Ends ws lo hi any) : lo ≤ hi ∧ hi ≤ 64 * ws.length := ⟨h.1, h.2.1⟩
theorem rep_bit {ws l : List Nat} (h : Rep (wf ws) l) (k : Nat) : k ∈ l ↔ bit ws k = true := h.2 k
theorem any_set {ws l : List Nat} {lo hi : Nat} {any : Bool} (h : Rep (wf ws) l) (he : Ends ws lo hi any) : (!any) = l.isEmpty := by
  cases any with
  | false =>
    cases l with
    | nil => rfl
    | cons x l => have := (rep_bit h x).1 (by simp); rw [he.2.2.1 rfl x] at this; cases this
  | true =>
    cases l with
    | nil => have := (rep_bit h lo).2 (he.2.2.2 rfl).1.1; cases this
    | cons x l => rfl

section
variable {s : List BA} {i : Nat} {d : BA} (hd : s[i]? = some d) (hdd : d.dense = true)
include hd hdd
/-- the dense array that is asked -/
theorem dense_at {w : World} {q c : Nat} {a : Option Addr} {l : List It} (h : Sta w q a c l) (hs : l.map (·.d) = s) : ∃ p ab cb ws lo hi any, l[i]? = some ⟨.iface 85 (.pointer (some ⟨p, 0, none⟩)), d, Ft p ab⟩ ∧ d.words = ws.length ∧ Dn w p ab cb ws lo hi any ∧ Rep (wf ws) d.set ∧ Ends ws lo hi any := by
  obtain ⟨x, hx, rfl⟩ := get_of_map hs hd
  obtain ⟨v, d, F⟩ := x
  obtain ⟨p, ab, cb, ws, lo, hi, any, rfl, rfl, h1, h2, h3, h4⟩ := (h.get hx).dn hdd
  exact ⟨p, ab, cb, ws, lo, hi, any, hx, h1, h2, h3, h4⟩
theorem does_countD : Does s { op := 10, on := i } s { n := d.set.length } := by
  intro w q c a l h hs hl
  obtain ⟨p, ab, cb, ws, lo, hi, any, hx, h1, h2, h3, h4⟩ := dense_at hd hdd h hs
  refine (stepCount h i p d _ hx d.set.length ?_ (Lib.hid (fun wx hS => (countD (h2.still hS)).mono ?_))).mono fun e w' hp => does_ask h hs { n := d.set.length } rfl hp
  · rw [← set_nums h3]
    have := nums_len ws ws.length
    have := h2.sm
    omega
  · rintro e w' ⟨rfl, rfl⟩
    rw [set_nums h3]
    exact ⟨rfl, Only.refl _ _⟩
theorem does_capD : Does s { op := 9, on := i } s { n := 64 * d.words } := by
  intro w q c a l h hs hl
  obtain ⟨p, ab, cb, ws, lo, hi, any, hx, h1, h2, h3, h4⟩ := dense_at hd hdd h hs
  refine (stepCap h i p d _ hx (64 * d.words) (Lib.hid (fun wx hS => (capD (h2.still hS)).mono ?_))).mono fun e w' hp => does_ask h hs { n := 64 * d.words } rfl hp
  rintro e w' ⟨rfl, rfl⟩
  rw [h1]
  exact ⟨rfl, Only.refl _ _⟩
theorem does_emptyD : Does s { op := 15, on := i } s { yes := d.set.isEmpty } := by
  intro w q c a l h hs hl
  obtain ⟨p, ab, cb, ws, lo, hi, any, hx, h1, h2, h3, h4⟩ := dense_at hd hdd h hs
  refine (stepEmpty h i p d _ hx d.set.isEmpty (Lib.hid (fun wx hS => (emptyD (h2.still hS)).mono ?_))).mono fun e w' hp => does_ask h hs { yes := d.set.isEmpty } rfl hp
  rintro e w' ⟨rfl, rfl⟩
  rw [← any_set h3 h4]
  exact ⟨rfl, Only.refl _ _⟩
theorem does_numsD : Does s { op := 14, on := i } s { nums := d.set } := by
  intro w q c a l h hs hl
  obtain ⟨p, ab, cb, ws, lo, hi, any, hx, h1, h2, h3, h4⟩ := dense_at hd hdd h hs
  refine (stepNums h i p d _ hx d.set (Lib.hid (fun wx hS => ?_))).mono fun e w' hp => does_nums h hs d.set hp
  have := numsD (h2.still hS) h4.1 h4.2.1
  rw [set_nums h3] at this
  exact this
theorem does_setD (k : Nat) (hk : k < 64 * d.words) : Does s { op := 3, on := i, k := k } (s.set i { d with set := put d.set k }) { yes := true } := by
  intro w q c a l h hs hl
  obtain ⟨p, ab, cb, ws, lo, hi, any, hx, h1, h2, h3, h4⟩ := dense_at hd hdd h hs
  rw [h1] at hk
  refine (stepSet h i p d _ hx k { d with set := put d.set k } (Lib.hid (fun wx hS => (setD (h2.still hS) h4.1 k hk).mono ?_))).mono fun e w' hp => does_turn h hs { yes := true } rfl hx hp
  rintro e w' ⟨rfl, ho, lo', hi', hD, hf, ht⟩
  refine ⟨rfl, ho, Ft p ab, ?_, fun k hk => .inl hk⟩
  have hj : k / 64 < ws.length := by omega
  have hrep : Rep (wf (ws.set (k / 64) (ws.getD (k / 64) 0 ||| 2 ^ (k % 64)))) (put d.set k) := (rep_put h3 (put_asc h3.1 k) (fun x => put_mem)).congr (fun j => by
    unfold wf
    rw [List.getD_eq_getElem?_getD (l := List.set _ _ _), List.getElem?_set]
    by_cases e : j = k / 64
    · subst e; simp [hj]
    · have e' : ¬ k / 64 = j := fun h => e h.symm
      simp only [e, e', if_false]
      rw [List.getD_eq_getElem?_getD])
  have := Arr.dense p ab cb _ lo' hi' true _ hD hrep ?_
  · rw [List.length_set] at this
    have e : ({ d with set := put d.set k } : BA) = ⟨true, ws.length, put d.set k⟩ := by rw [← h1, ← hdd]
    rw [e]; exact this
  · have hb : ∀ j, bit (ws.set (k / 64) (ws.getD (k / 64) 0 ||| 2 ^ (k % 64))) j = true ↔ j = k ∨ bit ws j = true := fun j => by
      rw [← rep_bit hrep, put_mem, rep_bit h3]
    unfold Ends
    rw [List.length_set]
    cases any with
    | false =>
      obtain ⟨rfl, rfl⟩ := hf rfl
      have hnb := h4.2.2.1 rfl
      refine ⟨Nat.le_refl _, by omega, fun e => (by cases e), fun _ => ⟨⟨(hb _).2 (.inl rfl), fun j hj => ?_⟩, ⟨(hb _).2 (.inl rfl), fun j hj => ?_⟩⟩⟩
      · rcases (hb j).1 hj with rfl | h5
        · exact Nat.le_refl _
        · rw [hnb j] at h5; cases h5
      · rcases (hb j).1 hj with rfl | h5
        · exact Nat.le_refl _
        · rw [hnb j] at h5; cases h5
    | true =>
      obtain ⟨rfl, rfl⟩ := ht rfl
      obtain ⟨⟨l1, l2⟩, ⟨r1, r2⟩⟩ := h4.2.2.2 rfl
      have h5 := h4.1
      have h6 := h4.2.1
      refine ⟨by omega, by omega, fun e => (by cases e), fun _ => ⟨⟨?_, fun j hj => ?_⟩, ⟨?_, fun j hj => ?_⟩⟩⟩
      · rcases Nat.le_total lo k with h7 | h7
        · rw [Nat.min_eq_left h7]; exact (hb _).2 (.inr l1)
        · rw [Nat.min_eq_right h7]; exact (hb _).2 (.inl rfl)
      · rcases (hb j).1 hj with rfl | h8
        · omega
        · have := l2 j h8; omega
      · rcases Nat.le_total hi k with h7 | h7
        · rw [Nat.max_eq_right h7]; exact (hb _).2 (.inl rfl)
        · rw [Nat.max_eq_left h7]; exact (hb _).2 (.inr r1)
      · rcases (hb j).1 hj with rfl | h8
        · omega
        · have := r2 j h8; omega
end
end Go.Proofs.Ytacjkbljokjdkaa.ba
