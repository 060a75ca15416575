/-
  Another heap is made and merged: what is there in the course of it.
-/
import Derived.Test.YtpddddjfjmipfaaFhStep
namespace Go.Proofs.Ytpddddjfjmipfaa.fh
open Go.RowKit Go.Proofs.Ytpddddjfjmipfaa.base Go.Proofs.Ytpddddjfjmipfaa.heap Go.Proofs.Ytpddddjfjmipfaa.rows Go.Proofs.Ytpddddjfjmipfaa.flt
set_option linter.unusedVariables false

theorem HpX.empty {w : World} {hb : Nat} (h : HObj w hb none 0) (pr : Nat → Nat) : HpX w hb [] pr := by
  have h0 : ∀ b : Nat, b ∈ ([] : List Nat) → False := fun b hb => absurd hb List.not_mem_nil
  refine ⟨⟨fun _ => 0, fun _ => false, fun u => u, fun u => u, fun _ => none, fun _ => none, pr⟩, fun _ => [], none, ⟨h, fun b hb => (h0 b hb).elim, ?_, fun p b hb => (h0 b hb).elim, .inl ⟨rfl, rfl⟩, fun hb => h0 _ hb⟩, fun u hu => (h0 u hu).elim⟩
  exact ⟨⟨fun k => List.nodup_nil, fun k j b hb => (h0 b hb).elim, fun k => trivial⟩, rfl, List.nodup_nil, fun b => ⟨fun h => (h0 b h).elim, fun h => h.elim (fun h => (h0 b h).elim) (fun ⟨p, h⟩ => (h0 b h).elim)⟩, fun p b hb => (h0 b hb).elim, fun b hb => (h0 b hb).elim, fun x hx => (h0 x hx).elim, fun p b hb => (h0 b hb).elim, fun p hp => (h0 p hp).elim, fun p hp => (h0 p hp).elim, fun b hb => (h0 b hb).elim, fun b hb => (h0 b hb).elim⟩
structure Fh2 (w : World) (gb hb h8 : Nat) (ea : Option Addr) (ec : Nat) (X : List Ent) (A B : List Nat) (pr : Nat → Nat) : Prop where
  obj : w.heap[gb]? = some (.cells #[pp hb, .slice ea X.length ec] 54 (0, 0))
  ents : OL 45 pe w ea X.length ec X
  heap : HpX w hb A pr
  two : HpX w h8 B pr
  gnb : ¬ Fp hb A gb ∧ ¬ Fp h8 B gb
  gna : ¬ At ea gb
  ena : ∀ k, At ea k → ¬ Fp hb A k ∧ ¬ Fp h8 B k
  dis : ∀ k, Fp hb A k → ¬ Fp h8 B k
  live : ∀ u, (u ∈ A ∨ u ∈ B) ↔ ∃ p, some (u, p) ∈ X
  uniq : ∀ (i j u : Nat) (p q : Int), X[i]? = some (some (u, p)) → X[j]? = some (some (u, q)) → i = j
  val : ∀ u p, some (u, p) ∈ X → pr u = fl p ∧ p.natAbs ≤ Big
def FG2 (gb hb h8 : Nat) (ea : Option Addr) (A B : List Nat) (k : Nat) : Prop := k = gb ∨ Fp hb A k ∨ Fp h8 B k ∨ At ea k
section
variable {w w' : World} {gb hb h8 : Nat} {ea : Option Addr} {ec : Nat} {X : List Ent} {A B : List Nat} {pr : Nat → Nat}
theorem Fh2.lt (h : Fh2 w gb hb h8 ea ec X A B pr) : ∀ k, FG2 gb hb h8 ea A B k → k < w.heap.size := fun k hk => by
  rcases hk with rfl | hk | hk | hk
  · exact lt_of_heap h.obj
  · exact h.heap.lt k hk
  · exact h.two.lt k hk
  · exact h.ents.1.lt k hk
theorem Fh2.keep {S : Nat → Prop} (h : Fh2 w gb hb h8 ea ec X A B pr) (ho : Only S w w') (hn : ∀ k, FG2 gb hb h8 ea A B k → ¬ S k) : Fh2 w' gb hb h8 ea ec X A B pr :=
  ⟨ho.obj h.obj (hn _ (.inl rfl)), h.ents.keep ho (fun k hk => hn k (.inr (.inr (.inr hk)))), h.heap.keep ho (fun k hk => hn k (.inr (.inl hk))), h.two.keep ho (fun k hk => hn k (.inr (.inr (.inl hk)))), h.gnb, h.gna, h.ena, h.dis, h.live, h.uniq, h.val⟩
/-- a second heap, still empty -/
theorem Fh.two (h : Fh w gb hb ea ec X A pr) (ho : Same w w') (h8o : HObj w' h8 none 0) (h8n : w.heap.size ≤ h8) : Fh2 w' gb hb h8 ea ec X A [] pr := by
  have h1 := h.still ho
  have hlt := h.lt
  have hf : ∀ k, Fp h8 [] k → k = h8 := fun k hk => by
    rcases hk with e | hk
    · exact e
    · cases hk
  exact ⟨h1.obj, h1.ents, h1.heap, .empty h8o pr, ⟨h1.gnb, fun hk => by have := hf _ hk; have := hlt gb (.inl rfl); omega⟩, h1.gna, fun k hk => ⟨h1.ena k hk, fun hk2 => by have := hf _ hk2; have := hlt k (.inr (.inr hk)); omega⟩, fun k hk hk2 => by have := hf _ hk2; have := hlt k (.inr (.inl hk)); omega, fun u => by rw [← h1.live u]; simp, h1.uniq, h1.val⟩
end
/-- an entry is put into the second heap, and noted -/
theorem Fh2.app {wx w3 w4 : World} {gb hb h8 b : Nat} {ea ea' : Option Addr} {ec ec' : Nat} {X : List Ent} {A B : List Nat} {pr : Nat → Nat} {p : Int} (h : Fh2 wx gb hb h8 ea ec X A B pr) (hp : p.natAbs ≤ Big) (hsz : wx.heap.size ≤ b)
    (h2 : HpX w3 h8 (B ++ [b]) (put pr b (fl p))) (h3 : Only (Fp h8 B) wx w3) {w3' : World} (h3' : Same w3 w3') (hG : Grew 45 1 w3' w4 ea ea' 1 (X.length + 1) ec ec' (X.map pe ++ [pp b])) :
    Fh2 (w4.setCell ⟨gb, 1, none⟩ (.slice ea' (X.length + 1) ec')) gb hb h8 ea' ec' (X ++ [some (b, p)]) A (B ++ [b]) (put pr b (fl p)) ∧ Only (FG2 gb hb h8 ea A B) wx (w4.setCell ⟨gb, 1, none⟩ (.slice ea' (X.length + 1) ec')) ∧ (∀ k, FG2 gb hb h8 ea' A (B ++ [b]) k → FG2 gb hb h8 ea A B k ∨ wx.heap.size ≤ k) := by
  have hO4 : Only (At ea) w3 w4 := Only.trans (S := At ea) (h3'.mono (fun _ _ f => f.elim)) hG.only (fun _ _ h => h)
  have hlt := h.lt
  have z3 := h3.size
  have z3' := h3'.size
  have hb3 : b < w3.heap.size := h2.lt b (.inr (by simp))
  have hfr : ∀ k, At ea' k → At ea k ∨ w3.heap.size ≤ k := fun k hk => (hG.fresh k hk).imp id (fun h' => by omega)
  have hg : gb < wx.heap.size := hlt _ (.inl rfl)
  have hobj3 := h3.obj h.obj h.gnb.2
  have hobj4 := hO4.obj hobj3 h.gna
  have hnew : ∀ u p, some (u, p) ∈ X → u ≠ b := fun u q hu e => by
    rcases (h.live u).2 ⟨q, hu⟩ with h9 | h9
    · have := hlt u (.inr (.inl (.inr h9))); omega
    · have := hlt u (.inr (.inr (.inl (.inr h9)))); omega
  have hOs : Only (fun k => k = gb) w4 (w4.setCell ⟨gb, 1, none⟩ (.slice ea' (X.length + 1) ec')) := (Only.refl (fun k => k = gb) w4).setCell ⟨gb, 1, none⟩ _ (fun _ => rfl)
  have hgna : ¬ At ea' gb := fun hk => by
    rcases hfr gb hk with h' | h'
    · exact h.gna h'
    · omega
  have hfp : ∀ k, Fp h8 (B ++ [b]) k → Fp h8 B k ∨ k = b := fun k hk => by
    rcases hk with e | hk
    · exact .inl (.inl e)
    · rcases List.mem_append.1 hk with hk | hk
      · exact .inl (.inr hk)
      · simp at hk; exact .inr hk
  have hgnb : ¬ Fp h8 (B ++ [b]) gb := fun hf => by
    rcases hfp _ hf with hf | hf
    · exact h.gnb.2 hf
    · omega
  have hena : ∀ k, At ea' k → ¬ Fp hb A k ∧ ¬ Fp h8 (B ++ [b]) k := fun k hk => by
    refine ⟨fun hf => ?_, fun hf => ?_⟩
    · rcases hfr k hk with h' | h'
      · exact (h.ena k h').1 hf
      · have := hlt k (.inr (.inl hf)); omega
    · rcases hfr k hk with h' | h' <;> rcases hfp k hf with h'' | h''
      · exact (h.ena k h').2 h''
      · have := hlt k (.inr (.inr (.inr h'))); omega
      · have := hlt k (.inr (.inr (.inl h''))); omega
      · omega
  have hdis : ∀ k, Fp hb A k → ¬ Fp h8 (B ++ [b]) k := fun k hk hf => by
    rcases hfp k hf with h' | h'
    · exact h.dis k hk h'
    · have := hlt k (.inr (.inl hk)); omega
  have hheap : HpX w3 hb A (put pr b (fl p)) := (h.heap.keep h3 h.dis).congr (fun u hu => (put_new (fun e => by have := hlt u (.inr (.inl (.inr hu))); omega)).symm)
  refine ⟨⟨?_, ?_, (hheap.keep hO4 (fun k hk hf => (h.ena k hf).1 hk)).keep hOs (fun k hk e => h.gnb.1 (e ▸ hk)), (h2.keep hO4 (fun k hk hf => ?_)).keep hOs (fun k hk e => hgnb (e ▸ hk)), ⟨h.gnb.1, hgnb⟩, hgna, hena, hdis, fun u => ?_, fun i j u q r hi hj => ?_, fun u q hu => ?_⟩, ?_, fun k hk => ?_⟩
  · rw [List.length_append]
    exact setobj hobj4
  · have h5 : OL 45 pe w4 ea' (X.length + 1) ec' (X ++ [some (b, p)]) := ⟨by rw [List.map_append]; exact hG.own, by simp⟩
    rw [List.length_append]
    exact h5.keep hOs (fun k hk e => hgna (e ▸ hk))
  · rcases hfp k hk with h' | h'
    · exact (h.ena k hf).2 h'
    · have := hlt k (.inr (.inr (.inr hf))); omega
  · rw [List.mem_append, ← or_assoc, h.live u]
    constructor
    · rintro (⟨q, hq⟩ | hq)
      · exact ⟨q, List.mem_append_left _ hq⟩
      · simp at hq; subst hq; exact ⟨p, by simp⟩
    · rintro ⟨q, hq⟩
      rcases List.mem_append.1 hq with hq | hq
      · exact .inl ⟨q, hq⟩
      · simp at hq; exact .inr (by simp [hq.1])
  · have key : ∀ i q, (X ++ [some (b, p)])[i]? = some (some (u, q)) → (X[i]? = some (some (u, q)) ∧ i < X.length) ∨ (i = X.length ∧ u = b) := fun i q hi => by
      by_cases hl : i < X.length
      · rw [List.getElem?_append_left hl] at hi; exact .inl ⟨hi, hl⟩
      · have hi2 := (List.getElem?_eq_some_iff.1 hi).1
        simp at hi2
        have : i = X.length := by omega
        subst this
        rw [List.getElem?_append_right (Nat.le_refl _), Nat.sub_self] at hi
        simp at hi
        exact .inr ⟨rfl, hi.1.symm⟩
    rcases key i q hi with ⟨a1, a2⟩ | ⟨a1, a2⟩ <;> rcases key j r hj with ⟨b1, b2⟩ | ⟨b1, b2⟩
    · exact h.uniq i j u q r a1 b1
    · exact absurd b2 (hnew u q (List.mem_of_getElem? a1))
    · exact absurd a2 (hnew u r (List.mem_of_getElem? b1))
    · omega
  · rcases List.mem_append.1 hu with hu | hu
    · rw [put_new (hnew u q hu)]; exact h.val u q hu
    · simp at hu
      obtain ⟨rfl, rfl⟩ := hu
      exact ⟨put_same, hp⟩
  · have h1 : Only (FG2 gb hb h8 ea A B) wx w4 := Only.trans (S := FG2 gb hb h8 ea A B) (h3.mono (fun k _ hk => .inr (.inr (.inl hk)))) hO4 (fun k _ hk => .inr (.inr (.inr hk)))
    exact h1.trans hOs (fun k _ e => .inl e)
  · rcases hk with e | hk | hk | hk
    · exact .inl (.inl e)
    · exact .inl (.inr (.inl hk))
    · rcases hfp k hk with h' | h'
      · exact .inl (.inr (.inr (.inl h')))
      · exact .inr (by omega)
    · rcases hfr k hk with h' | h'
      · exact .inl (.inr (.inr (.inr h')))
      · exact .inr (by omega)
/-- in the course of the loop -/
structure Mrg (w : World) (gb hb h8 : Nat) (ea0 : Option Addr) (X : List Ent) (A : List Nat) (L : List Int) (j : Nat) (ea : Option Addr) (ec : Nat) (Y : List Ent) (B : List Nat) (pr : Nat → Nat) (wr : World) : Prop where
  fh : Fh2 wr gb hb h8 ea ec (X ++ Y) A B pr
  said : tag Y = (L.take j).map some
  len : Y.length = j ∧ B.length = j
  only : Only (FG gb hb ea0 A) w wr
  new : ∀ k, FG2 gb hb h8 ea A B k → FG gb hb ea0 A k ∨ w.heap.size ≤ k
  z : wr.heap[w.heap.size + 1]? = some Z5
  b1 : wr.heap[w.heap.size]? ≠ none
theorem Fh2.nz {w : World} {gb hb h8 : Nat} {ea : Option Addr} {ec : Nat} {X : List Ent} {A B : List Nat} {pr : Nat → Nat} {k : Nat} (h : Fh2 w gb hb h8 ea ec X A B pr) (hz : w.heap[k]? = some Z5) : ¬ FG2 gb hb h8 ea A B k := fun hk => by
  have hp : ∀ {hb A}, HpX w hb A pr → Fp hb A k → False := fun {hb A} hh hf => by
    rcases hf with rfl | hf
    · obtain ⟨mn, ho⟩ := hh.obj
      have ho' : w.heap[k]? = _ := ho
      rw [ho'] at hz; simp at hz
    · obtain ⟨F, G, mn, h1, _⟩ := hh
      have := h1.mem k hf
      unfold NodeAt at this
      rw [this] at hz; simp at hz
  rcases hk with rfl | hk | hk | hk
  · rw [h.obj] at hz; simp at hz
  · exact hp h.heap hk
  · exact hp h.two hk
  · rcases h.ents.1.alt with ⟨rfl, _⟩ | ⟨b, cur, rfl, hb', _⟩
    · exact hk
    · obtain rfl : b = k := hk
      rw [hb'] at hz
      simp at hz
theorem Mrg.step {w wr w3 w3' w4 : World} {gb hb h8 b j : Nat} {ea0 ea ea' : Option Addr} {ec ec' : Nat} {X Y : List Ent} {A B : List Nat} {pr : Nat → Nat} {L : List Int} {p : Int} (h : Mrg w gb hb h8 ea0 X A L j ea ec Y B pr wr) (hj : L[j]? = some p) (hp : p.natAbs ≤ Big) (hsz : wr.heap.size ≤ b)
    (h2 : HpX w3 h8 (B ++ [b]) (put pr b (fl p))) (h3 : Only (Fp h8 B) wr w3) (h3' : Same w3 w3') (hG : Grew 45 1 w3' w4 ea ea' 1 ((X ++ Y).length + 1) ec ec' ((X ++ Y).map pe ++ [pp b])) :
    Mrg w gb hb h8 ea0 X A L (j + 1) ea' ec' (Y ++ [some (b, p)]) (B ++ [b]) (put pr b (fl p)) (w4.setCell ⟨gb, 1, none⟩ (.slice ea' ((X ++ Y).length + 1) ec')) := by
  obtain ⟨a1, a2, a3⟩ := h.fh.app hp hsz h2 h3 h3' hG
  have z := h.only.size
  refine ⟨by rw [← List.append_assoc]; exact a1, ?_, ⟨by rw [List.length_append, h.len.1]; rfl, by rw [List.length_append, h.len.2]; rfl⟩, h.only.trans a2 (fun k hk hf => ?_), fun k hk => ?_, a2.obj h.z (h.fh.nz h.z), fun e => ?_⟩
  · have h9 := h.said
    unfold tag at h9 ⊢
    rw [take_snoc L j p hj, List.map_append, List.map_append, h9]; rfl
  · rcases h.new k hf with h' | h'
    · exact h'
    · omega
  · rcases a3 k hk with h' | h'
    · exact h.new k h'
    · exact .inr (by omega)
  · have h5 : w.heap.size < wr.heap.size := by
      rcases Nat.lt_or_ge w.heap.size wr.heap.size with h6 | h6
      · exact h6
      · exact absurd (Array.getElem?_eq_none (by omega)) h.b1
    have h7 := a2.size
    rw [Array.getElem?_eq_none_iff] at e
    omega
theorem Mrg.fin {w wr w4 w5 : World} {gb hb h8 j : Nat} {ea0 ea : Option Addr} {ec : Nat} {X Y : List Ent} {A B : List Nat} {pr : Nat → Nat} {L : List Int} {mn : Option Nat} (h : Mrg w gb hb h8 ea0 X A L j ea ec Y B pr wr)
    (ho1 : HObj w4 hb none 0) (ho2 : HObj w4 h8 none 0) (hp : HpM w4 (A ++ B) pr mn (A.length + B.length)) (hO : Only (Fp2 hb h8 A B) wr w4)
    (hw5 : w5 = (w4.setCell ⟨gb, 0, none⟩ (pp w4.heap.size)).alloc (.cells #[po mn, .int .u64 ((A.length + B.length : Nat) : Int)] 48)) :
    Fh w5 gb w4.heap.size ea ec (X ++ Y) (A ++ B) pr ∧ Only (FG gb hb ea0 A) w w5 ∧ (∀ k, FG gb w4.heap.size ea (A ++ B) k → FG gb hb ea0 A k ∨ w.heap.size ≤ k) ∧ w5.heap[w.heap.size + 1]? = some Z5 ∧ HObj w5 hb none 0 ∧ HObj w5 h8 none 0 := by
  have hlt := h.fh.lt
  have z0 := h.only.size
  have z4 := hO.size
  have hf2 : ∀ k, Fp2 hb h8 A B k → FG2 gb hb h8 ea A B k := fun k hk => hk.elim (fun h => .inr (.inl h)) (fun h => .inr (.inr (.inl h)))
  have hg : gb < wr.heap.size := hlt _ (.inl rfl)
  have hO5 : Only (fun k => k = gb) w4 w5 := by
    rw [hw5]
    exact ((Only.refl (fun k => k = gb) w4).setCell ⟨gb, 0, none⟩ _ (fun _ => rfl)).alloc _
  have hgf : ¬ Fp2 hb h8 A B gb := fun hf => hf.elim h.fh.gnb.1 h.fh.gnb.2
  have hob4 := hO.obj h.fh.obj hgf
  have hea : ∀ k, At ea k → ¬ Fp2 hb h8 A B k := fun k hk hf => hf.elim (h.fh.ena k hk).1 (h.fh.ena k hk).2
  have hab : ∀ u, u ∈ A ++ B → u < wr.heap.size ∧ u ≠ gb := fun u hu => by
    rcases List.mem_append.1 hu with hu | hu
    · exact ⟨hlt u (.inr (.inl (.inr hu))), fun e => h.fh.gnb.1 (e ▸ .inr hu)⟩
    · exact ⟨hlt u (.inr (.inr (.inl (.inr hu)))), fun e => h.fh.gnb.2 (e ▸ .inr hu)⟩
  have hob5 : HObj w5 w4.heap.size mn (A.length + B.length) := by
    rw [hw5]
    exact heap_alloc_new' _ _ _ (by simp [World.setCell])
  have hnb : w4.heap.size ∉ A ++ B := fun hu => by have := (hab _ hu).1; omega
  have hfin : ∀ k, Fp w4.heap.size (A ++ B) k → k = w4.heap.size ∨ k ∈ A ++ B := fun k hk => hk
  refine ⟨⟨?_, (h.fh.ents.keep hO hea).keep hO5 (fun k hk e => h.fh.gna (e ▸ hk)), hp.obj hO5 (fun k hk e => (hab k hk).2 e) hob5 hnb, fun hf => ?_, h.fh.gna, fun k hk hf => ?_, fun u => by rw [List.mem_append]; exact h.fh.live u, h.fh.uniq, h.fh.val⟩, ?_, fun k hk => ?_, ?_, ho1.keep hO5 (fun e => h.fh.gnb.1 (.inl e.symm)), ho2.keep hO5 (fun e => h.fh.gnb.2 (.inl e.symm))⟩
  · rw [hw5]
    exact ((Only.refl (fun _ => False) (w4.setCell ⟨gb, 0, none⟩ (pp w4.heap.size))).alloc _).obj (setCell_heap hob4 0 (pp w4.heap.size)) id
  · rcases hfin _ hf with h' | h'
    · omega
    · exact (hab _ h').2 rfl
  · rcases hfin _ hf with h' | h'
    · have := hlt k (.inr (.inr (.inr hk))); omega
    · rcases List.mem_append.1 h' with h' | h'
      · exact (h.fh.ena k hk).1 (.inr h')
      · exact (h.fh.ena k hk).2 (.inr h')
  · refine (h.only.trans hO (fun k hk hf => ?_)).trans hO5 (fun k _ e => .inl e)
    rcases h.new k (hf2 k hf) with h' | h'
    · exact h'
    · omega
  · rcases hk with e | hk | hk
    · exact .inl (.inl e)
    · rcases hfin _ hk with h' | h'
      · exact .inr (by omega)
      · rcases List.mem_append.1 h' with h' | h'
        · exact h.new k (.inr (.inl (.inr h')))
        · exact h.new k (.inr (.inr (.inl (.inr h'))))
    · exact h.new k (.inr (.inr (.inr hk)))
  · have hz := h.fh.nz h.z
    exact hO5.obj (hO.obj h.z (fun hf => hz (hf2 _ hf))) (fun e => hz (.inl e))
end Go.Proofs.Ytpddddjfjmipfaa.fh
