/-
  Plain law: two forests become one.
-/
import Derived.Test.YtpddddjfjmipfaaFhHp
namespace Go.Proofs.Ytpddddjfjmipfaa.fh
open Go.RowKit Go.Proofs.Ytpddddjfjmipfaa.base Go.Proofs.Ytpddddjfjmipfaa.heap Go.Proofs.Ytpddddjfjmipfaa.rows Go.Proofs.Ytpddddjfjmipfaa.flt
set_option linter.unusedVariables false

def jn {α : Type} (f g : Nat → α) (A : List Nat) : Nat → α := fun u => if u ∈ A then f u else g u
section
variable {α : Type} {f g : Nat → α} {A : List Nat} {u : Nat}
theorem jn_in (h : u ∈ A) : jn f g A u = f u := if_pos h
theorem jn_out (h : u ∉ A) : jn f g A u = g u := if_neg h
end
/-- what the entries of two heaps hold -/
def Jn (F H : Fs) (A : List Nat) : Fs := ⟨jn F.deg H.deg A, jn F.mrk H.mrk A, jn F.nx H.nx A, jn F.pv H.pv A, jn F.ch H.ch A, jn F.pa H.pa A, jn F.pr H.pr A⟩
def GJ (G K : Gs) : Gs
  | .root => G .root
  | .tmp => K .root
  | .kid p => G (.kid p) ++ K (.kid p)
section
variable {F H : Fs} {G K : Gs} {A B : List Nat} {w : World} {x y b p : Nat}
theorem jn_mem (h : Mem w F (· ∈ A)) (k : Mem w H (· ∈ B)) : Mem w (Jn F H A) (· ∈ A ++ B) := fun u hu => by
  unfold NodeAt Jn
  by_cases e : u ∈ A
  · simp only [jn_in e]; exact h u e
  · simp only [jn_out e]
    exact k u ((List.mem_append.1 hu).resolve_left e)
theorem fo_pa_mem {X : List Nat} (h : Fo F G A []) (hb : b ∈ A) : ∀ p, F.pa b = some p → p ∈ A := fun p hp => by
  rcases (h.all b).1 hb with h1 | ⟨q, h1⟩
  · rw [h.rootpa b h1 (by simp)] at hp; cases hp
  · rw [h.kidpa q b h1] at hp; cases hp; exact h.kids p b h1
theorem gj_kid (h : Fo F G A []) (k : Fo H K B []) (hd : ∀ u ∈ A, u ∉ B) (p : Nat) : (G (.kid p) = [] ∧ GJ G K (.kid p) = K (.kid p)) ∨ (K (.kid p) = [] ∧ GJ G K (.kid p) = G (.kid p)) := by
  cases hg : G (.kid p) with
  | nil => exact .inl ⟨rfl, by show G (.kid p) ++ _ = _; rw [hg]; rfl⟩
  | cons b l =>
    have hp : p ∈ A := h.kids p b (by rw [hg]; simp)
    have : K (.kid p) = [] := List.eq_nil_iff_forall_not_mem.2 (fun c hc => hd p hp (k.kids p c hc))
    exact .inr ⟨this, by show G (.kid p) ++ K (.kid p) = _; rw [this, List.append_nil, hg]⟩
theorem gj_mem (h : Fo F G A []) (k : Fo H K B []) {i : Key} (hb : b ∈ GJ G K i) : (b ∈ A ∧ i ≠ .tmp ∧ b ∈ G i) ∨ (b ∈ B ∧ ((i = .tmp ∧ b ∈ K .root) ∨ ∃ p, i = .kid p ∧ b ∈ K (.kid p))) := by
  cases i with
  | root => exact .inl ⟨h.mem (k := .root) hb, by simp, hb⟩
  | tmp => exact .inr ⟨k.mem (k := .root) hb, .inl ⟨rfl, hb⟩⟩
  | kid p =>
    rcases List.mem_append.1 (show b ∈ G (.kid p) ++ K (.kid p) from hb) with h1 | h1
    · exact .inl ⟨h.mem h1, by simp, h1⟩
    · exact .inr ⟨k.mem h1, .inr ⟨p, rfl, h1⟩⟩
theorem gj_rings (h : Fo F G A []) (k : Fo H K B []) (hd : ∀ u ∈ A, u ∉ B) : Rings (Jn F H A).nx (Jn F H A).pv (GJ G K) := by
  have hA : ∀ i, Ring (Jn F H A).nx (Jn F H A).pv (G i) := fun i => ring_congr (h.rings.ring i) (fun u hu => jn_in (h.mem hu)) (fun u hu => jn_in (h.mem hu))
  have hB : ∀ i, Ring (Jn F H A).nx (Jn F H A).pv (K i) := fun i => ring_congr (k.rings.ring i) (fun u hu => jn_out (fun e => hd u e (k.mem hu))) (fun u hu => jn_out (fun e => hd u e (k.mem hu)))
  refine ⟨fun i => ?_, fun i j b h1 h2 => ?_, fun i => ?_⟩
  · cases i with
    | root => exact h.rings.nodup .root
    | tmp => exact k.rings.nodup .root
    | kid p =>
      rcases gj_kid h k hd p with ⟨_, e⟩ | ⟨_, e⟩
      · rw [e]; exact k.rings.nodup _
      · rw [e]; exact h.rings.nodup _
  · rcases gj_mem h k h1 with ⟨a1, a2, a3⟩ | ⟨a1, a2⟩ <;> rcases gj_mem h k h2 with ⟨c1, c2, c3⟩ | ⟨c1, c2⟩
    · exact h.rings.disj i j b a3 c3
    · exact absurd c1 (hd b a1)
    · exact absurd a1 (hd b c1)
    · rcases a2 with ⟨rfl, a2⟩ | ⟨p, rfl, a2⟩ <;> rcases c2 with ⟨rfl, c2⟩ | ⟨q, rfl, c2⟩
      · rfl
      · have := k.rings.disj _ _ b a2 c2; cases this
      · have := k.rings.disj _ _ b a2 c2; cases this
      · exact k.rings.disj _ _ b a2 c2
  · cases i with
    | root => exact hA .root
    | tmp => exact hB .root
    | kid p =>
      rcases gj_kid h k hd p with ⟨_, e⟩ | ⟨_, e⟩
      · rw [e]; exact hB _
      · rw [e]; exact hA _
theorem Fo.join (h : Fo F G A []) (k : Fo H K B []) (hd : ∀ u ∈ A, u ∉ B) (hx : x ∈ G .root) (hy : y ∈ K .root) :
    ∃ G', Fo (Mg (Jn F H A) x y) G' (A ++ B) [] ∧ (∀ b, b ∈ G' .root ↔ b ∈ G .root ∨ b ∈ K .root) ∧ (∀ p b, b ∈ G' (.kid p) → (b ∈ G (.kid p) ∧ p ∈ A) ∨ (b ∈ K (.kid p) ∧ p ∈ B)) := by
  obtain ⟨G1, l, g1, g2, g3, h1⟩ := h.front hx
  obtain ⟨K1, m, k1, k2, k3, hk1⟩ := k.front hy
  have hB : ∀ u ∈ B, u ∉ A := fun u hu e => hd u e hu
  have hr := (gj_rings h1 hk1 hd).merge (k := .root) (j := .tmp) (by simp) (x := x) (l := l) (y := y) (m := m) g1 k1
  let G2 : Gs := gput (gput (GJ G1 K1) .tmp []) .root (x :: m ++ y :: l)
  have gk : ∀ p, G2 (.kid p) = GJ G1 K1 (.kid p) := fun p => by
    show gput _ _ _ _ = _
    rw [gput_other (by simp), gput_other (by simp)]
  have gr : G2 .root = x :: m ++ y :: l := gput_same
  have gt : G2 .tmp = [] := by
    show gput _ _ _ _ = _
    rw [gput_other (by simp), gput_same]
  have hroot : ∀ u, u ∈ G2 .root ↔ u ∈ G1 .root ∨ u ∈ K1 .root := fun u => by
    rw [gr, g1, k1]
    simp only [List.mem_append, List.mem_cons]
    constructor
    · rintro ((h | h) | (h | h))
      · exact .inl (.inl h)
      · exact .inr (.inr h)
      · exact .inr (.inl h)
      · exact .inl (.inr h)
    · rintro ((h | h) | (h | h))
      · exact .inl (.inl h)
      · exact .inr (.inr h)
      · exact .inr (.inl h)
      · exact .inl (.inr h)
  have hkid : ∀ p u, u ∈ G2 (.kid p) → (u ∈ G1 (.kid p) ∧ p ∈ A) ∨ (u ∈ K1 (.kid p) ∧ p ∈ B) := fun p u hu => by
    rw [gk] at hu
    rcases List.mem_append.1 (show u ∈ G1 (.kid p) ++ K1 (.kid p) from hu) with h2 | h2
    · exact .inl ⟨h2, h1.kids p u h2⟩
    · exact .inr ⟨h2, hk1.kids p u h2⟩
  refine ⟨G2, ⟨hr, gt, ?_, fun u => ?_, fun p u hu => ?_, fun u hu _ => ?_, fun x hx => absurd hx List.not_mem_nil, fun p u hu => ?_, fun p hp => ?_, fun p hp => ?_, fun u hu => ?_, fun u hu => ?_⟩, fun u => ?_, fun p u hu => ?_⟩
  · rw [List.nodup_append]
    exact ⟨h.nodup, k.nodup, fun u hu c hc e => hd u hu (e ▸ hc)⟩
  · rw [hroot, List.mem_append, h1.all u, hk1.all u]
    constructor
    · rintro ((h2 | ⟨p, h2⟩) | (h2 | ⟨p, h2⟩))
      · exact .inl (.inl h2)
      · exact .inr ⟨p, by rw [gk]; exact List.mem_append_left _ h2⟩
      · exact .inl (.inr h2)
      · exact .inr ⟨p, by rw [gk]; exact List.mem_append_right _ h2⟩
    · rintro ((h2 | h2) | ⟨p, h2⟩)
      · exact .inl (.inl h2)
      · exact .inr (.inl h2)
      · rcases hkid p u h2 with ⟨h3, _⟩ | ⟨h3, _⟩
        · exact .inl (.inr ⟨p, h3⟩)
        · exact .inr (.inr ⟨p, h3⟩)
  · show jn F.pa H.pa A u = _
    rcases hkid p u hu with ⟨h3, _⟩ | ⟨h3, _⟩
    · rw [jn_in (h1.mem h3)]; exact h1.kidpa p u h3
    · rw [jn_out (hB u (hk1.mem h3))]; exact hk1.kidpa p u h3
  · show jn F.pa H.pa A u = _
    rcases (hroot u).1 hu with h3 | h3
    · rw [jn_in (h1.mem h3)]; exact h1.rootpa u h3 (by simp)
    · rw [jn_out (hB u (hk1.mem h3))]; exact hk1.rootpa u h3 (by simp)
  · rcases hkid p u hu with ⟨_, h3⟩ | ⟨_, h3⟩
    · exact List.mem_append_left _ h3
    · exact List.mem_append_right _ h3
  · show (jn F.ch H.ch A p = none ∧ _) ∨ ∃ c, jn F.ch H.ch A p = some c ∧ _
    rw [gk]
    rcases List.mem_append.1 hp with hp | hp
    · rw [jn_in hp]
      have e0 : K1 (.kid p) = [] := List.eq_nil_iff_forall_not_mem.2 (fun c hc => hd p hp (hk1.kids p c hc))
      have e : GJ G1 K1 (.kid p) = G1 (.kid p) := by show G1 (.kid p) ++ K1 (.kid p) = _; rw [e0, List.append_nil]
      rw [e]; exact h1.ch p hp
    · rw [jn_out (hB p hp)]
      have e0 : G1 (.kid p) = [] := List.eq_nil_iff_forall_not_mem.2 (fun c hc => hB p hp (h1.kids p c hc))
      have e : GJ G1 K1 (.kid p) = K1 (.kid p) := by show G1 (.kid p) ++ K1 (.kid p) = _; rw [e0, List.nil_append]
      rw [e]; exact hk1.ch p hp
  · show jn F.deg H.deg A p = _
    rw [gk]
    rcases List.mem_append.1 hp with hp | hp
    · rw [jn_in hp]
      have e0 : K1 (.kid p) = [] := List.eq_nil_iff_forall_not_mem.2 (fun c hc => hd p hp (hk1.kids p c hc))
      have e : GJ G1 K1 (.kid p) = G1 (.kid p) := by show G1 (.kid p) ++ K1 (.kid p) = _; rw [e0, List.append_nil]
      rw [e]; exact h1.deg p hp
    · rw [jn_out (hB p hp)]
      have e0 : G1 (.kid p) = [] := List.eq_nil_iff_forall_not_mem.2 (fun c hc => hB p hp (h1.kids p c hc))
      have e : GJ G1 K1 (.kid p) = K1 (.kid p) := by show G1 (.kid p) ++ K1 (.kid p) = _; rw [e0, List.nil_append]
      rw [e]; exact hk1.deg p hp
  · show UpF (jn F.pa H.pa A) u
    rcases List.mem_append.1 hu with hu | hu
    · exact up_congr (S := (· ∈ A)) (h.up u hu) hu (fun b hb => .inr ⟨jn_in hb, fo_pa_mem (X := []) h hb⟩)
    · exact up_congr (S := (· ∈ B)) (k.up u hu) hu (fun b hb => .inr ⟨jn_out (hB b hb), fo_pa_mem (X := []) k hb⟩)
  · show FinW (jn F.pr H.pr A u)
    rcases List.mem_append.1 hu with hu | hu
    · rw [jn_in hu]; exact h.fin u hu
    · rw [jn_out (hB u hu)]; exact k.fin u hu
  · rw [hroot, (g3 .root).mem_iff, (k3 .root).mem_iff]
  · rcases hkid p u hu with ⟨h3, h4⟩ | ⟨h3, h4⟩
    · exact .inl ⟨(g3 _).mem_iff.1 h3, h4⟩
    · exact .inr ⟨(k3 _).mem_iff.1 h3, h4⟩
end

/-- what Merge makes of two heaps, still without an object: the least root, and the entries -/
def HpM (w : World) (A : List Nat) (pr : Nat → Nat) (mn : Option Nat) (n : Nat) : Prop :=
  ∃ F G, Mem w F (· ∈ A) ∧ Fo F G A [] ∧ Ord F G (fun _ => False) ∧ ((mn = none ∧ A = []) ∨ ∃ m, mn = some m ∧ Least F G m) ∧ (∀ u ∈ A, F.pr u = pr u) ∧ A.length = n
theorem HpM.obj {w w' : World} {A : List Nat} {pr : Nat → Nat} {mn : Option Nat} {n hb : Nat} {S : Nat → Prop} (h : HpM w A pr mn n) (ho : Only S w w') (hn : ∀ k, k ∈ A → ¬ S k) (hob : HObj w' hb mn n) (hni : hb ∉ A) : HpX w' hb A pr := by
  obtain ⟨F, G, h1, h2, h3, h4, h5, rfl⟩ := h
  exact ⟨F, G, mn, ⟨hob, h1.keep ho hn, h2, h3, h4, hni⟩, h5⟩
theorem HpM.keep {w w' : World} {A : List Nat} {pr : Nat → Nat} {mn : Option Nat} {n : Nat} {S : Nat → Prop} (h : HpM w A pr mn n) (ho : Only S w w') (hn : ∀ k, k ∈ A → ¬ S k) : HpM w' A pr mn n := by
  obtain ⟨F, G, h1, h2, h3, h4, h5, h6⟩ := h
  exact ⟨F, G, h1.keep ho hn, h2, h3, h4, h5, h6⟩
end Go.Proofs.Ytpddddjfjmipfaa.fh
