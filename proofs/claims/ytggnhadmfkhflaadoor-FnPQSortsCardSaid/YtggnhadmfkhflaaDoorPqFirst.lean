/-
  FnPQFirst's plain law: what Peek shows is what comes first, and the elements come sorted.
-/
import Derived.Test.YtggnhadmfkhflaaDoorPqAllW
import Derived.Test.YtggnhadmfkhflaaDoorRead
namespace Go.Proofs.YtggnhadmfkhflaaDoor.pq
open Go.ChangeShapes Go.WideShapes Go.ChangeAt Go.RowKit Go.Proofs.YtggnhadmfkhflaaDoor.base Go.Proofs.YtggnhadmfkhflaaDoor.heap Go.Proofs.YtggnhadmfkhflaaDoor.rows
set_option linter.unusedVariables false

theorem read_it {W : World} {cs : List Value} (hl : cs.length = 2) (h : T Tryd.prog W 34 cs) : ∃ x : It, cs = itc x ∧ True := by
  match cs, hl with
  | [v0, v1], _ =>
    have h0 := h.field Tryd.underlying34 0 _ rfl
    have h1 := h.field Tryd.underlying34 1 _ rfl
    have c : Tryd.prog.cellsOf 3 = 1 := by kernel_rfl
    simp [c] at h0 h1
    obtain ⟨k, rfl, _⟩ := h0.int Tryd.underlying3
    obtain ⟨t, rfl, _⟩ := h1.int Tryd.underlying3
    exact ⟨⟨k, t⟩, rfl, trivial⟩
theorem read_items' {W : World} {v : Value} (h : T Tryd.prog W 22 [v]) : ∃ (a : Option Addr) (n cap : Nat) (l : List It), v = .slice a n cap ∧ RIt W a n cap l := by
  obtain ⟨a, n, cap, l, rfl, h, _⟩ := T.slice (c := itc) (K := 2) (fun _ => True) itc_len itc_one (by omega) Tryd.underlying22 (by kernel_rfl) (fun cs hl ht => read_it hl ht) h
  exact ⟨a, n, cap, l, rfl, h⟩
theorem read_items {W : World} {v : Value} (h : Reads Tryd.prog W 22 v) : ∃ (a : Option Addr) (n cap : Nat) (l : List It), v = .slice a n cap ∧ RIt W a n cap l := read_items' (reads_t h Tryd.underlying22)
theorem read_lists {W : World} {v : Value} (h : Reads Tryd.prog W 30 v) : ∃ (a : Option Addr) (n cap : Nat) (l : List Sl), v = .slice a n cap ∧ RL slv W a n cap l ∧ Sls W l := by
  obtain ⟨a, n, cap, l, rfl, h, hs⟩ := T.slice (c := fun s => [slv s]) (K := 1) (fun s : Sl => RIt W s.a s.m s.cap s.R) (fun _ => rfl) (fun x u hu => by simp at hu; subst hu; rfl) (by omega) Tryd.underlying30 (by kernel_rfl) (fun cs hl ht => by
    match cs, hl with
    | [v], _ =>
      obtain ⟨a, n, cap, l, rfl, h⟩ := read_items' ht
      exact ⟨⟨a, n, cap, l⟩, rfl, h⟩) (reads_t h Tryd.underlying30)
  exact ⟨a, n, cap, l, rfl, h.rl, hs⟩

def sPeek : Stp := ⟨3, 0, none, 0, 0, []⟩
def sGet : Stp := ⟨2, 1, none, 0, 0, []⟩
def sEmpty : Stp := ⟨5, 0, none, 0, 0, []⟩
def fs (p : Stp) : Nat → List Stp
  | 0 => [p]
  | i + 1 => fs p i ++ [sPeek, sGet]
theorem fs_len (p : Stp) (i : Nat) : (fs p i).length = 1 + 2 * i := by
  induction i with
  | zero => rfl
  | succ i ih => simp [fs, ih]; omega
theorem fs_mem (p : Stp) (i : Nat) : ∀ s ∈ fs p i, s = p ∨ s = sPeek ∨ s = sGet := by
  induction i with
  | zero => intro s hs; simp [fs] at hs; exact .inl hs
  | succ i ih =>
    intro s hs
    simp only [fs, List.mem_append, List.mem_cons, List.not_mem_nil, or_false] at hs
    rcases hs with hs | hs | hs
    · exact ih s hs
    · exact .inr (.inl hs)
    · exact .inr (.inr hs)
theorem fs_sum (p : Stp) (i : Nat) : ((fs p i).map (·.m)).sum = p.m := by
  induction i with
  | zero => simp [fs]
  | succ i ih => simp [fs, ih, sPeek, sGet]

structure Fst (R0 : List It) (i : Nat) (As : List An) (L : List It) (R : List It) : Prop where
  perm : (R ++ L).Perm R0
  len : R.length = i
  srt : Srt R
  less : ∀ x ∈ R, ∀ y ∈ L, x.key ≤ y.key
  heap : Heap L
  cnt : As.length = 1 + 2 * i
  said : ∀ j x, R[j]? = some x → ∃ u v, As[1 + 2 * j]? = some u ∧ As[2 + 2 * j]? = some v ∧ u.L = [x] ∧ v.L = [x]
theorem first_law {p : Stp} (hp : p.op = 1) : ∀ (i : Nat) {As : List An} {L : List It}, i ≤ p.R.length → Ran (fs p i) As L → ∃ R, Fst p.R i As L R
  | 0, As, L, _, h => by
    obtain ⟨h1, h2, h3⟩ := h.puts (fun s hs => by simp [fs] at hs; rw [hs]; exact hp)
    have hc := h.count
    exact ⟨[], by simpa [fs] using h2, rfl, fun i j x y _ hx => by simp at hx, fun x hx => by simp at hx, h3, by simpa [fs] using hc, fun j x hx => by simp at hx⟩
  | i + 1, As, L2, hi, h => by
    obtain ⟨As1, v, L1, rfl, r1, s2⟩ := h.inv (fs p i ++ [sPeek]) sGet (by simp [fs])
    obtain ⟨As0, u, L0, rfl, r0, s1⟩ := r1.inv (fs p i) sPeek rfl
    obtain ⟨R, hF⟩ := first_law hp i (by omega) r0
    have hlen := hF.perm.length_eq
    rw [List.length_append, hF.len] at hlen
    have hpos : 0 < L0.length := by omega
    obtain ⟨x, hx⟩ : ∃ x, L0[0]? = some x := ⟨_, List.getElem?_eq_getElem hpos⟩
    have hu : L1 = L0 ∧ u.L = L0.take 1 := by
      rcases s1 with ⟨e, _⟩ | ⟨e, _⟩ | ⟨e, _⟩ | ⟨_, e1, e2, _⟩ | ⟨e, _⟩ | ⟨e, _⟩
      · exact absurd e (by decide)
      · exact absurd e (by decide)
      · exact absurd e (by decide)
      · exact ⟨e1, e2⟩
      · exact absurd e (by decide)
      · exact absurd e (by decide)
    obtain ⟨rfl, hu2⟩ := hu
    have hv : Got L1 v.L L2 ∧ v.L.length = 1 := by
      rcases s2 with ⟨e, _⟩ | ⟨_, e, _⟩ | ⟨_, _, e1, e2, _⟩ | ⟨e, _⟩ | ⟨e, _⟩ | ⟨e, _⟩
      · exact absurd e (by decide)
      · omega
      · exact ⟨e1, by rw [e2]; show min (1 : Int).toNat _ = 1; have : (1 : Int).toNat = 1 := rfl; omega⟩
      · exact absurd e (by decide)
      · exact absurd e (by decide)
      · exact absurd e (by decide)
    obtain ⟨hg, hvl⟩ := hv
    have hvx : v.L = [x] := by
      match hvL : v.L, hvl with
      | [y], _ =>
        have := hg.fst y (by rw [hvL]; rfl)
        rw [hx] at this
        cases this
        rfl
    have hux : u.L = [x] := by
      rw [hu2]
      cases L1 with
      | nil => simp at hx
      | cons z L1 => simp at hx; subst hx; rfl
    have hxm : x ∈ L1 := List.mem_of_getElem? hx
    have hsub : ∀ y ∈ L2, y ∈ L1 := fun y hy => hg.perm.mem_iff.1 (List.mem_append_right _ hy)
    refine ⟨R ++ [x], ?_, by simp [hF.len], ?_, ?_, hg.heap, by simp [hF.cnt]; omega, ?_⟩
    · have := hg.perm
      rw [hvx] at this
      rw [List.append_assoc]
      exact (List.Perm.append_left R this).trans hF.perm
    · intro a b y z hab hy hz
      by_cases hb : b < R.length
      · rw [List.getElem?_append_left hb] at hz
        rw [List.getElem?_append_left (by omega)] at hy
        exact hF.srt a b y z hab hy hz
      · have hb' : b = R.length := by
          have := (List.getElem?_eq_some_iff.1 hz).1
          simp at this; omega
        subst hb'
        rw [List.getElem?_append_right (Nat.le_refl _), Nat.sub_self] at hz
        simp at hz
        subst hz
        rw [List.getElem?_append_left hab] at hy
        exact hF.less y (List.mem_of_getElem? hy) x hxm
    · intro y hy z hz
      rcases List.mem_append.1 hy with hy | hy
      · exact hF.less y hy z (hsub z hz)
      · simp at hy
        subst hy
        exact hg.less y (by rw [hvx]; simp) z hz
    · intro j y hy
      by_cases hj : j < R.length
      · rw [List.getElem?_append_left hj] at hy
        obtain ⟨u', v', h1, h2, h3, h4⟩ := hF.said j y hy
        have hl := hF.len
        have hcn := hF.cnt
        refine ⟨u', v', ?_, ?_, h3, h4⟩
        · rw [List.append_assoc, List.getElem?_append_left (by omega)]; exact h1
        · rw [List.append_assoc, List.getElem?_append_left (by omega)]; exact h2
      · have hj' : j = R.length := by
          have := (List.getElem?_eq_some_iff.1 hy).1
          simp at this; omega
        subst hj'
        rw [List.getElem?_append_right (Nat.le_refl _), Nat.sub_self] at hy
        simp at hy
        subst hy
        have hl := hF.len
        have hcn := hF.cnt
        refine ⟨u, v, ?_, ?_, hux, hvx⟩
        · rw [List.append_assoc, List.getElem?_append_right (by omega), show 1 + 2 * R.length - As0.length = 0 by omega]; rfl
        · rw [List.append_assoc, List.getElem?_append_right (by omega), show 2 + 2 * R.length - As0.length = 1 by omega]; rfl

theorem srt_keys {R R' : List It} (h : Srt R) (h' : Srt R') (hp : R.Perm R') : R.map (·.key) = R'.map (·.key) := by
  have key : ∀ {R : List It}, Srt R → (R.map (·.key)).Pairwise (· ≤ ·) := fun {R} h => by
    rw [List.pairwise_map, List.pairwise_iff_getElem]
    intro i j hi hj hij
    exact h i j _ _ hij (List.getElem?_eq_getElem hi) (List.getElem?_eq_getElem hj)
  exact List.Perm.eq_of_pairwise (fun a b _ _ h1 h2 => Int.le_antisymm h1 h2) (key h) (key h') (hp.map _)
end Go.Proofs.YtggnhadmfkhflaaDoor.pq
