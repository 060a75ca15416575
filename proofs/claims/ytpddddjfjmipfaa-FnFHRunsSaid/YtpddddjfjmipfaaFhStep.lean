/-
  The heap of impl in memory; gone; steps.
-/
import Derived.Test.YtpddddjfjmipfaaFhSaid
namespace Go.Proofs.Ytpddddjfjmipfaa.fh
open Go.RowKit Go.Proofs.Ytpddddjfjmipfaa.base Go.Proofs.Ytpddddjfjmipfaa.heap Go.Proofs.Ytpddddjfjmipfaa.rows Go.Proofs.Ytpddddjfjmipfaa.flt
set_option linter.unusedVariables false

/-- what is said of the entries: their priorities -/
abbrev Pris := List (Option Int)
def tag (X : List Ent) : Pris := X.map (Option.map (·.2))
theorem tag_at {X : List Ent} {i : Nat} {p : Int} : (tag X)[i]? = some (some p) ↔ ∃ u, X[i]? = some (some (u, p)) := by
  unfold tag
  rw [List.getElem?_map]
  cases h : X[i]? with
  | none => simp
  | some y =>
    cases y with
    | none => simp
    | some up => obtain ⟨u, q⟩ := up; simp
theorem tag_mem {X : List Ent} {p : Int} : some p ∈ tag X ↔ ∃ u, some (u, p) ∈ X := by
  unfold tag
  rw [List.mem_map]
  constructor
  · rintro ⟨y, h1, h2⟩
    cases y with
    | none => simp at h2
    | some up => obtain ⟨u, q⟩ := up; simp at h2; subst h2; exact ⟨u, h1⟩
  · rintro ⟨u, h⟩
    exact ⟨_, h, rfl⟩
theorem tag_len (X : List Ent) : (tag X).length = X.length := List.length_map _
/-- a step: its number, an entry's number, a priority; the priorities of another heap -/
structure Stp where
  op : Int
  n : Int
  p : Int
  a : Option Addr
  m : Nat
  cap : Nat
  L : List Int
def Lst (S : Pris) (i : Nat) (p : Int) : Prop := S[i]? = some (some p) ∧ ∀ q, some q ∈ S → p ≤ q
def no : An := ⟨false, -1, 0, 0, false⟩
/-- what a step says, and what there is behind it -/
inductive Stepd : Pris → Stp → An → Pris → Prop
  | enq {S : Pris} {s : Stp} : s.op = 1 → Stepd S s ⟨true, (S.length : Int), s.p, 0, false⟩ (S ++ [some s.p])
  | min0 {S : Pris} {s : Stp} : s.op = 2 ∨ s.op = 3 → (∀ q, some q ∉ S) → Stepd S s no S
  | min {S : Pris} {s : Stp} {i : Nat} {p : Int} : s.op = 2 → Lst S i p → Stepd S s ⟨true, (i : Int), p, 0, false⟩ S
  | deq {S : Pris} {s : Stp} {i : Nat} {p : Int} : s.op = 3 → Lst S i p → Stepd S s ⟨true, (i : Int), p, 0, false⟩ (S.set i none)
  | off {S : Pris} {s : Stp} : s.op = 4 ∨ s.op = 5 → (∀ (k : Nat) q, s.n = (k : Int) → S[k]? ≠ some (some q)) → Stepd S s no S
  | dec0 {S : Pris} {s : Stp} {k : Nat} {q : Int} : s.op = 4 → s.n = (k : Int) → S[k]? = some (some q) → q ≤ s.p → Stepd S s no S
  | dec {S : Pris} {s : Stp} {k : Nat} {q : Int} : s.op = 4 → s.n = (k : Int) → S[k]? = some (some q) → s.p < q → Stepd S s ⟨true, (k : Int), s.p, 0, false⟩ (S.set k (some s.p))
  | del {S : Pris} {s : Stp} {k : Nat} {q : Int} : s.op = 5 → s.n = (k : Int) → S[k]? = some (some q) → Stepd S s ⟨true, -1, 0, 0, false⟩ (S.set k none)
  | mrg {S : Pris} {s : Stp} : s.op = 6 → Stepd S s ⟨true, -1, 0, 0, false⟩ (S ++ s.L.map some)

def Big : Nat := 1099511627776
theorem big53 {p : Int} (h : p.natAbs ≤ Big) : p.natAbs < 2 ^ 53 := by unfold Big at h; omega
theorem pe_one (x : Ent) : (pe x).oneCell' = true := by cases x <;> rfl
theorem pe_list (l : List Ent) : ∀ u ∈ l.map pe, u.oneCell' = true := fun u hu => by
  obtain ⟨x, _, rfl⟩ := List.mem_map.1 hu
  exact pe_one x
/-- impl's heap in memory -/
structure Fh (w : World) (gb hb : Nat) (ea : Option Addr) (ec : Nat) (X : List Ent) (A : List Nat) (pr : Nat → Nat) : Prop where
  obj : w.heap[gb]? = some (.cells #[pp hb, .slice ea X.length ec] 54 (0, 0))
  ents : OL 45 pe w ea X.length ec X
  heap : HpX w hb A pr
  gnb : ¬ Fp hb A gb
  gna : ¬ At ea gb
  ena : ∀ k, At ea k → ¬ Fp hb A k
  live : ∀ u, u ∈ A ↔ ∃ p, some (u, p) ∈ X
  uniq : ∀ (i j u : Nat) (p q : Int), X[i]? = some (some (u, p)) → X[j]? = some (some (u, q)) → i = j
  val : ∀ u p, some (u, p) ∈ X → pr u = fl p ∧ p.natAbs ≤ Big
def FG (gb hb : Nat) (ea : Option Addr) (A : List Nat) (k : Nat) : Prop := k = gb ∨ Fp hb A k ∨ At ea k
section
variable {w w' : World} {gb hb : Nat} {ea : Option Addr} {ec : Nat} {X : List Ent} {A : List Nat} {pr : Nat → Nat}
theorem Fh.keep {S : Nat → Prop} (h : Fh w gb hb ea ec X A pr) (ho : Only S w w') (hn : ∀ k, FG gb hb ea A k → ¬ S k) : Fh w' gb hb ea ec X A pr :=
  ⟨ho.obj h.obj (hn _ (.inl rfl)), h.ents.keep ho (fun k hk => hn k (.inr (.inr hk))), h.heap.keep ho (fun k hk => hn k (.inr (.inl hk))), h.gnb, h.gna, h.ena, h.live, h.uniq, h.val⟩
theorem Fh.still (h : Fh w gb hb ea ec X A pr) (ho : Same w w') : Fh w' gb hb ea ec X A pr := h.keep ho (fun _ _ => id)
theorem Fh.lt (h : Fh w gb hb ea ec X A pr) : ∀ k, FG gb hb ea A k → k < w.heap.size := fun k hk => by
  rcases hk with rfl | hk | hk
  · exact lt_of_heap h.obj
  · exact h.heap.lt k hk
  · exact h.ents.1.lt k hk
theorem HpX.liv (h : HpX w hb A pr) {u : Nat} (hu : u ∈ A) : Liv w u := by
  obtain ⟨F, G, mn, h1, _⟩ := h
  exact h1.mem.liv hu
theorem HpX.cell (h : HpX w hb A pr) {u : Nat} (hu : u ∈ A) : w.cell? ⟨u, 6, none⟩ = some (.float .f64 (pr u)) := by
  obtain ⟨F, G, mn, h1, h2⟩ := h
  rw [← h2 u hu]
  exact h1.mem.pr hu
theorem HpX.obj (h : HpX w hb A pr) : ∃ mn, HObj w hb mn A.length := by
  obtain ⟨F, G, mn, h1, h2⟩ := h
  exact ⟨mn, h1.obj⟩
theorem Fh.liv (h : Fh w gb hb ea ec X A pr) : ∀ u q, some (u, q) ∈ X → Liv w u := fun u q hu => h.heap.liv ((h.live u).2 ⟨q, hu⟩)
end
theorem put_new {pr : Nat → Nat} {b v u : Nat} (h : u ≠ b) : put pr b v u = pr u := put_other h
theorem setobj {w : World} {gb : Nat} {a c v : Value} (h : w.heap[gb]? = some (.cells #[a, c] 54 (0, 0))) : (w.setCell ⟨gb, 1, none⟩ v).heap[gb]? = some (.cells #[a, v] 54 (0, 0)) := setCell_heap h 1 v
/-- an entry is put in, and noted -/
theorem Fh.app {wx w3 w4 : World} {gb hb b : Nat} {ea ea' : Option Addr} {ec ec' : Nat} {X : List Ent} {A : List Nat} {pr : Nat → Nat} {p : Int} {o : Obj} (h : Fh wx gb hb ea ec X A pr) (hp : p.natAbs ≤ Big) (hsz : wx.heap.size ≤ b)
    (h2 : HpX w3 hb (A ++ [b]) (put pr b (fl p))) (h3 : Only (Fp hb A) wx w3) (hG : Grew 45 1 (w3.alloc o) w4 ea ea' 1 (X.length + 1) ec ec' (X.map pe ++ [pp b])) :
    Fh (w4.setCell ⟨gb, 1, none⟩ (.slice ea' (X.length + 1) ec')) gb hb ea' ec' (X ++ [some (b, p)]) (A ++ [b]) (put pr b (fl p)) ∧ Only (FG gb hb ea A) wx (w4.setCell ⟨gb, 1, none⟩ (.slice ea' (X.length + 1) ec')) ∧ (∀ k, FG gb hb ea' (A ++ [b]) k → FG gb hb ea A k ∨ wx.heap.size ≤ k) := by
  have hO4 : Only (At ea) w3 w4 := Only.trans (S := At ea) ((Only.refl (At ea) w3).alloc o) hG.only (fun _ _ h => h)
  have hlt := h.lt
  have z3 := h3.size
  have hb3 : b < w3.heap.size := h2.lt b (.inr (by simp))
  have hfr : ∀ k, At ea' k → At ea k ∨ w3.heap.size + 1 ≤ k := fun k hk => (hG.fresh k hk).imp id (fun h' => by simpa using h')
  have hg : gb < wx.heap.size := hlt _ (.inl rfl)
  have hobj3 := h3.obj h.obj (fun hf => h.gnb hf)
  have hobj4 := hO4.obj hobj3 h.gna
  have hnew : ∀ u p, some (u, p) ∈ X → u ≠ b := fun u q hu e => by
    have := hlt u (.inr (.inl (.inr ((h.live u).2 ⟨q, hu⟩))))
    omega
  have hOs : Only (fun k => k = gb) w4 (w4.setCell ⟨gb, 1, none⟩ (.slice ea' (X.length + 1) ec')) := (Only.refl (fun k => k = gb) w4).setCell ⟨gb, 1, none⟩ _ (fun _ => rfl)
  have hgna : ¬ At ea' gb := fun hk => by
    rcases hfr gb hk with h' | h'
    · exact h.gna h'
    · omega
  have hgnb : ¬ Fp hb (A ++ [b]) gb := fun hf => by
    rcases hf with e | hf
    · exact h.gnb (.inl e)
    · rcases List.mem_append.1 hf with hf | hf
      · exact h.gnb (.inr hf)
      · simp at hf; omega
  have hfp : ∀ k, Fp hb (A ++ [b]) k → Fp hb A k ∨ k = b := fun k hk => by
    rcases hk with e | hk
    · exact .inl (.inl e)
    · rcases List.mem_append.1 hk with hk | hk
      · exact .inl (.inr hk)
      · simp at hk; exact .inr hk
  have hena : ∀ k, At ea' k → ¬ Fp hb (A ++ [b]) k := fun k hk hf => by
    rcases hfr k hk with h' | h' <;> rcases hfp k hf with h'' | h''
    · exact h.ena k h' h''
    · have := hlt k (.inr (.inr h')); omega
    · have := hlt k (.inr (.inl h'')); omega
    · omega
  refine ⟨⟨?_, ?_, (h2.keep hO4 (fun k hk hf => ?_)).keep hOs (fun k hk e => hgnb (e ▸ hk)), hgnb, hgna, hena, fun u => ?_, fun i j u q r hi hj => ?_, fun u q hu => ?_⟩, ?_, fun k hk => ?_⟩
  · rw [List.length_append]
    exact setobj hobj4
  · have h5 : OL 45 pe w4 ea' (X.length + 1) ec' (X ++ [some (b, p)]) := ⟨by rw [List.map_append]; exact hG.own, by simp⟩
    rw [List.length_append]
    exact h5.keep hOs (fun k hk e => hgna (e ▸ hk))
  · rcases hfp k hk with h' | h'
    · exact h.ena k hf h'
    · have := hlt k (.inr (.inr hf)); omega
  · rw [List.mem_append, h.live u]
    constructor
    · rintro (⟨q, hq⟩ | hq)
      · exact ⟨q, List.mem_append_left _ hq⟩
      · simp at hq; subst hq; exact ⟨p, by simp⟩
    · rintro ⟨q, hq⟩
      rcases List.mem_append.1 hq with hq | hq
      · exact .inl ⟨q, hq⟩
      · simp at hq; exact .inr (by simp [hq.1])
  · have key : ∀ i q, (X ++ [some (b, p)])[i]? = some (some (u, q)) → (X[i]? = some (some (u, q)) ∧ i < X.length) ∨ (i = X.length ∧ u = b) := fun i q hi => by
      by_cases hl : i < X.length
      · rw [List.getElem?_append_left hl] at hi; exact .inl ⟨hi, hl⟩
      · have hi2 := (List.getElem?_eq_some_iff.1 hi).1
        simp at hi2
        have : i = X.length := by omega
        subst this
        rw [List.getElem?_append_right (Nat.le_refl _), Nat.sub_self] at hi
        simp at hi
        exact .inr ⟨rfl, hi.1.symm⟩
    rcases key i q hi with ⟨a1, a2⟩ | ⟨a1, a2⟩ <;> rcases key j r hj with ⟨b1, b2⟩ | ⟨b1, b2⟩
    · exact h.uniq i j u q r a1 b1
    · exact absurd b2 (hnew u q (List.mem_of_getElem? a1))
    · exact absurd a2 (hnew u r (List.mem_of_getElem? b1))
    · omega
  · rcases List.mem_append.1 hu with hu | hu
    · rw [put_new (hnew u q hu)]; exact h.val u q hu
    · simp at hu
      obtain ⟨rfl, rfl⟩ := hu
      exact ⟨put_same, hp⟩
  · have h1 : Only (FG gb hb ea A) wx w4 := Only.trans (S := FG gb hb ea A) (h3.mono (fun k _ hk => .inr (.inl hk))) hO4 (fun k _ hk => .inr (.inr hk))
    exact h1.trans hOs (fun k _ e => .inl e)
  · rcases hk with e | hk | hk
    · exact .inl (.inl e)
    · rcases hfp k hk with h' | h'
      · exact .inl (.inr (.inl h'))
      · exact .inr (by omega)
    · rcases hfr k hk with h' | h'
      · exact .inl (.inr (.inr h'))
      · exact .inr (by omega)
/-- what a step leaves -/
def StPost (gb hb : Nat) (ea : Option Addr) (A : List Nat) (X : List Ent) (s : Stp) (w : World) (e : Ending) (w' : World) : Prop :=
  ∃ x hb' ea' ec' X' A' pr', e = .returned (anv x) ∧ Fh w' gb hb' ea' ec' X' A' pr' ∧ Only (FG gb hb ea A) w w' ∧ (∀ k, FG gb hb' ea' A' k → FG gb hb ea A k ∨ w.heap.size ≤ k) ∧ Stepd (tag X) s x (tag X') ∧ x.size = 0 ∧ x.emp = false

theorem slEnt : SliceOf Try.prog 52 45 1 8 := SliceOf.mk (z := .pointer none) Try.underlying52 (by kernel_rfl) rfl

/-- an answer that is still to be given -/
abbrev Z5 : Obj := .cells #[.bool false, .int .i64 0, .int .i64 0, .int .i64 0, .bool false] 35 (0, 0)
def EnQ (hb g : Nat) (A : List Nat) (pr : Nat → Nat) (v : Nat) (w : World) (e : Ending) (w' : World) : Prop :=
  ∃ b, e = .returned (pp b) ∧ Hid (g < b ∧ w.heap.size ≤ b ∧ HpX w' hb (A ++ [b]) (put pr b v) ∧ Only (Fp hb A) w w' ∧ w'.heap[g]? = some Z5)
/-- what is told at the end: the answer is copied, and handed back -/
theorem fin5 {w w6 : World} {g : Nat} {S : Nat → Prop} {a b c d e : Value} (hg : w6.heap[g]? = some Z5) (ho : Only S w w6) (hg0 : w.heap.size ≤ g) : (set5 w6 g a b c d e).heap[g]? = some (.cells #[a, b, c, d, e] 35 (0, 0)) ∧ Only S w (set5 w6 g a b c d e) ∧ Only (fun k => k = g) w6 (set5 w6 g a b c d e) :=
  ⟨set5_obj hg, ho.trans (set5_only _ _ _ _ _ _ _) (fun k hk e => by have : k = g := e; omega), set5_only _ _ _ _ _ _ _⟩

theorem Fh.nz {w : World} {gb hb : Nat} {ea : Option Addr} {ec : Nat} {X : List Ent} {A : List Nat} {pr : Nat → Nat} {k : Nat} (h : Fh w gb hb ea ec X A pr) (hz : w.heap[k]? = some Z5) : ¬ FG gb hb ea A k := fun hk => by
  rcases hk with rfl | (rfl | hk) | hk
  · rw [h.obj] at hz; simp at hz
  · obtain ⟨mn, ho⟩ := h.heap.obj
    have ho' : w.heap[k]? = _ := ho
    rw [ho'] at hz; simp at hz
  · obtain ⟨F, G, mn, h1, _⟩ := h.heap
    have := h1.mem k hk
    unfold NodeAt at this
    rw [this] at hz; simp at hz
  · rcases h.ents.1.alt with ⟨rfl, _⟩ | ⟨b, cur, rfl, hb', _⟩
    · exact hk
    · obtain rfl : b = k := hk
      rw [hb'] at hz
      simp at hz
theorem stfin {w w6 : World} {gb hb hb' ec' : Nat} {ea ea' : Option Addr} {A A' : List Nat} {X X' : List Ent} {pr' : Nat → Nat} {s : Stp} {x : An} (hF : Fh w6 gb hb' ea' ec' X' A' pr') (hO : Only (FG gb hb ea A) w w6) (hfr : ∀ k, FG gb hb' ea' A' k → FG gb hb ea A k ∨ w.heap.size ≤ k)
    (hz : w6.heap[w.heap.size + 1]? = some Z5) (hst : Stepd (tag X) s x (tag X')) (h0 : x.size = 0 ∧ x.emp = false) :
    StPost gb hb ea A X s w (.returned (anv x)) (set5 w6 (w.heap.size + 1) (.bool x.is) (.int .i64 x.ent) (.int .i64 x.p) (.int .i64 x.size) (.bool x.emp)) ∧ (set5 w6 (w.heap.size + 1) (.bool x.is) (.int .i64 x.ent) (.int .i64 x.p) (.int .i64 x.size) (.bool x.emp)).heap[w.heap.size + 1]? = some (.cells #[.bool x.is, .int .i64 x.ent, .int .i64 x.p, .int .i64 x.size, .bool x.emp] 35 (0, 0)) := by
  obtain ⟨h1, h2, h3⟩ := fin5 (a := .bool x.is) (b := .int .i64 x.ent) (c := .int .i64 x.p) (d := .int .i64 x.size) (e := .bool x.emp) hz hO (by omega)
  exact ⟨⟨x, hb', ea', ec', X', A', pr', rfl, hF.keep h3 (fun k hk e => hF.nz (k := k) (by rw [show k = w.heap.size + 1 from e]; exact hz) hk), h2, hfr, hst, h0⟩, h1⟩

/-- the world behind a step's opening: the step and the answer are laid down -/
def StW (w w1 : World) (op n p : Int) (a : Option Addr) (m cap : Nat) : Prop := Same w w1 ∧ w1.heap[w.heap.size]? = some (.cells #[.int .i64 op, .int .i64 n, .int .i64 p, .slice a m cap] 31 (0, 0)) ∧ w1.heap[w.heap.size + 1]? = some Z5
theorem stw (w : World) (op n p : Int) (a : Option Addr) (m cap : Nat) : StW w ((w.alloc (.cells #[.int .i64 op, .int .i64 n, .int .i64 p, .slice a m cap] 31)).alloc (.cells #[.bool false, .int .i64 0, .int .i64 0, .int .i64 0, .bool false] 35)) op n p a m cap := by
  refine ⟨((Only.refl _ _).alloc _).alloc _, ?_, heap_alloc_new' _ _ _ (by simp)⟩
  show ((w.heap.push _).push _)[w.heap.size]? = _
  rw [Array.getElem?_push, if_neg (by simp), Array.getElem?_push, if_pos rfl]
theorem stw_drew {w w1 : World} {op n p : Int} {a : Option Addr} {m cap : Nat} (h : StW w w1 op n p a m cap) : StW w w1.drew op n p a m cap := ⟨h.1.drew, h.2.1, h.2.2⟩

/-- the least one is there -/
theorem Fh.lst {w : World} {gb hb : Nat} {ea : Option Addr} {ec : Nat} {X : List Ent} {A : List Nat} {pr : Nat → Nat} {m : Nat} (h : Fh w gb hb ea ec X A pr) (hm : m ∈ A) (hle : ∀ u ∈ A, fval (pr m) ≤ fval (pr u)) :
    ∃ (i : Nat) (p : Int), X[i]? = some (some (m, p)) ∧ Lst (tag X) i p ∧ p.natAbs ≤ Big ∧ pr m = fl p := by
  obtain ⟨p, hp⟩ := (h.live m).1 hm
  obtain ⟨i, hi⟩ := List.getElem?_of_mem hp
  obtain ⟨h1, h2⟩ := h.val m p hp
  refine ⟨i, p, hi, ⟨tag_at.2 ⟨m, hi⟩, fun q hq => ?_⟩, h2, h1⟩
  obtain ⟨u, hu⟩ := tag_mem.1 hq
  have h3 := hle u ((h.live u).2 ⟨q, hu⟩)
  obtain ⟨h4, h5⟩ := h.val u q hu
  rw [h1, h4] at h3
  exact (fl_le (big53 h2) (big53 h5)).1 h3
theorem Fh.isNone {w : World} {gb hb : Nat} {ea : Option Addr} {ec : Nat} {X : List Ent} {pr : Nat → Nat} (h : Fh w gb hb ea ec X [] pr) : ∀ q, some q ∉ tag X := fun q hq => by
  obtain ⟨u, hu⟩ := tag_mem.1 hq
  have := (h.live u).2 ⟨q, hu⟩
  cases this
theorem tag_set (X : List Ent) (i : Nat) (y : Ent) : tag (X.set i y) = (tag X).set i (y.map (·.2)) := by
  unfold tag
  rw [List.map_set]
theorem set_mem {α : Type} {l : List (Option α)} {i : Nat} {x : α} : some x ∈ l.set i none ↔ ∃ j, j ≠ i ∧ l[j]? = some (some x) := by
  rw [List.mem_iff_getElem?]
  constructor
  · rintro ⟨j, hj⟩
    rw [List.getElem?_set] at hj
    split at hj
    · split at hj <;> simp at hj
    · exact ⟨j, fun e => by subst e; contradiction, hj⟩
  · rintro ⟨j, h1, h2⟩
    exact ⟨j, by rw [List.getElem?_set, if_neg (fun e => h1 e.symm)]; exact h2⟩
/-- an entry goes -/
theorem Fh.rem {w w' : World} {gb hb : Nat} {ea : Option Addr} {ec : Nat} {X : List Ent} {A : List Nat} {pr : Nat → Nat} {i x : Nat} {p : Int} (h : Fh w gb hb ea ec X A pr) (hi : X[i]? = some (some (x, p))) (h2 : HpX w' hb (A.erase x) pr)
    (hob : w'.heap[gb]? = some (.cells #[pp hb, .slice ea X.length ec] 54 (0, 0))) (hol : OL 45 pe w' ea X.length ec (X.set i none)) : Fh w' gb hb ea ec (X.set i none) (A.erase x) pr := by
  have hsub : ∀ k, Fp hb (A.erase x) k → Fp hb A k := fun k hk => hk.imp id List.mem_of_mem_erase
  have hg : ∀ j u q, (X.set i none)[j]? = some (some (u, q)) → j ≠ i ∧ X[j]? = some (some (u, q)) := fun j u q hj => by
    rw [List.getElem?_set] at hj
    split at hj
    · split at hj <;> simp at hj
    · exact ⟨fun e => by subst e; contradiction, hj⟩
  refine ⟨by rw [List.length_set]; exact hob, by rw [List.length_set]; exact hol, h2, fun hf => h.gnb (hsub _ hf), h.gna, fun k hk hf => h.ena k hk (hsub k hf), fun u => ?_, fun a b u q r ha hb' => ?_, fun u q hu => ?_⟩
  · rw [h.heap.nodup.mem_erase_iff, h.live u]
    constructor
    · rintro ⟨hne, q, hq⟩
      obtain ⟨j, hj⟩ := List.getElem?_of_mem hq
      exact ⟨q, set_mem.2 ⟨j, fun e => by rw [e, hi] at hj; simp at hj; exact hne hj.1.symm, hj⟩⟩
    · rintro ⟨q, hq⟩
      obtain ⟨j, h1, h3⟩ := set_mem.1 hq
      exact ⟨fun e => h1 (h.uniq j i u q p h3 (by rw [e]; exact hi)), q, List.mem_of_getElem? h3⟩
  · exact h.uniq a b u q r (hg a u q ha).2 (hg b u r hb').2
  · obtain ⟨j, h1, h3⟩ := set_mem.1 hu
    exact h.val u q (List.mem_of_getElem? h3)
/-- an entry's priority is lowered -/
theorem Fh.low {w w' : World} {gb hb : Nat} {ea : Option Addr} {ec : Nat} {X : List Ent} {A : List Nat} {pr : Nat → Nat} {i x : Nat} {p q : Int} (h : Fh w gb hb ea ec X A pr) (hi : X[i]? = some (some (x, p))) (hq : q.natAbs ≤ Big) (h2 : HpX w' hb A (put pr x (fl q))) (ho : Only (Fp hb A) w w') : Fh w' gb hb ea ec (X.set i (some (x, q))) A (put pr x (fl q)) := by
  have hil := (List.getElem?_eq_some_iff.1 hi).1
  have hmap : (X.set i (some (x, q))).map pe = X.map pe := by
    rw [List.map_set]
    refine List.ext_getElem? (fun j => ?_)
    rw [List.getElem?_set]
    split
    · rename_i e
      subst e
      rw [if_pos (by simpa using hil), List.getElem?_map, hi]
      rfl
    · rfl
  have hg : ∀ j u r, (X.set i (some (x, q)))[j]? = some (some (u, r)) → (j = i ∧ u = x ∧ r = q) ∨ (j ≠ i ∧ X[j]? = some (some (u, r))) := fun j u r hj => by
    rw [List.getElem?_set] at hj
    split at hj
    · rename_i e
      simp at hj
      exact .inl ⟨e.symm, hj.1.symm, hj.2.symm⟩
    · exact .inr ⟨fun e => by subst e; contradiction, hj⟩
  have hol : OL 45 pe w' ea X.length ec (X.set i (some (x, q))) := ⟨by rw [hmap]; exact (h.ents.keep ho h.ena).1, by rw [List.length_set]⟩
  refine ⟨by rw [List.length_set]; exact ho.obj h.obj h.gnb, by rw [List.length_set]; exact hol, h2, h.gnb, h.gna, h.ena, fun u => ?_, fun a b u r r' ha hb' => ?_, fun u r hu => ?_⟩
  · rw [h.live u]
    constructor
    · rintro ⟨r, hr⟩
      obtain ⟨j, hj⟩ := List.getElem?_of_mem hr
      by_cases e : j = i
      · rw [e, hi] at hj
        simp at hj
        exact ⟨q, List.mem_of_getElem? (i := i) (by rw [List.getElem?_set, if_pos rfl, if_pos hil, hj.1])⟩
      · exact ⟨r, List.mem_of_getElem? (i := j) (by rw [List.getElem?_set, if_neg (fun e' => e e'.symm)]; exact hj)⟩
    · rintro ⟨r, hr⟩
      obtain ⟨j, hj⟩ := List.getElem?_of_mem hr
      rcases hg j u r hj with ⟨_, rfl, _⟩ | ⟨_, h3⟩
      · exact ⟨p, List.mem_of_getElem? hi⟩
      · exact ⟨r, List.mem_of_getElem? h3⟩
  · rcases hg a u r ha with ⟨a1, a2, a3⟩ | ⟨a1, a2⟩ <;> rcases hg b u r' hb' with ⟨b1, b2, b3⟩ | ⟨b1, b2⟩
    · omega
    · exact absurd (h.uniq b i u r' p b2 (by rw [a2]; exact hi)) b1
    · exact absurd (h.uniq a i u r p a2 (by rw [b2]; exact hi)) a1
    · exact h.uniq a b u r r' a2 b2
  · obtain ⟨j, hj⟩ := List.getElem?_of_mem hu
    rcases hg j u r hj with ⟨_, rfl, rfl⟩ | ⟨h1, h3⟩
    · exact ⟨put_same, hq⟩
    · have hne : u ≠ x := fun e => h1 (h.uniq j i u r p h3 (by rw [e]; exact hi))
      rw [put_other hne]
      exact h.val u r (List.mem_of_getElem? h3)

set_option maxRecDepth 100000 in
theorem gone_off (w : World) (gb : Nat) : Calls Try.prog 28 #[pp gb, .int .i64 (-1)] w fun e w' => e = .returned (.tuple #[]) ∧ w = w' := by
  go_enter Try.func28, Try.ntmps28
  go_wp2_with fail
  go_end0
  exact ⟨rfl, rfl⟩
/-- an entry is forgotten -/
def GoneP (ea : Option Addr) (n ec k : Nat) (X : List Ent) (w : World) (e : Ending) (w' : World) : Prop := e = .returned (.tuple #[]) ∧ OL 45 pe w' ea n ec (X.set k none) ∧ Only (At ea) w w'
set_option maxRecDepth 100000 in
theorem gone_at (w : World) (gb hb n ec k : Nat) (ea : Option Addr) (X : List Ent) (hg : w.heap[gb]? = some (.cells #[pp hb, .slice ea n ec] 54 (0, 0))) (hr : OL 45 pe w ea n ec X) (hn : n < 100000) (hk : k < n) :
    Calls Try.prog 28 #[pp gb, .int .i64 (k : Int)] w (GoneP ea n ec k X w) := by
  have hc := hob_cell hg
  obtain ⟨b, rfl, hb', hcs⟩ := hr.1.at (by omega)
  have hbd := hr.bound
  have hfz := hr.1.frozen rfl k
  obtain ⟨y, hy⟩ := hr.rl.get hk
  have c1 := hcs k (pe y) (by rw [List.getElem?_map, hy]; rfl)
  rw [Nat.zero_add] at c1
  have hlt : (k : Int) < (n : Int) := by omega
  have HN : Hid (OL 45 pe (w.setCell ⟨b, k, none⟩ (.pointer none)) (some ⟨b, 0, none⟩) n ec (X.set k none)) := Lib.hid ⟨by rw [List.map_set]; exact hr.1.set rfl k (.pointer none) rfl (by omega), by rw [List.length_set]; exact hr.2⟩
  generalize pe y = vy at c1
  clear hr hcs hg hy
  go_enter Try.func28, Try.ntmps28
  go_wp2_with fail
  go_end0
  exact ⟨rfl, HN.out, (Only.refl _ _).setCell _ _ (fun _ => rfl)⟩
end Go.Proofs.Ytpddddjfjmipfaa.fh
