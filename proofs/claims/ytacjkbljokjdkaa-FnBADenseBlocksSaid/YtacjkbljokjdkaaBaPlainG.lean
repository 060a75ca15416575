/-
  The steps of a law on arrays of either kind, done one after the other.
-/
import Derived.Test.YtacjkbljokjdkaaBaPlain
import Derived.Test.YtacjkbljokjdkaaBaMadeS
namespace Go.Proofs.Ytacjkbljokjdkaa.ba
open Go.RowKit Go.Proofs.Ytacjkbljokjdkaa.base Go.Proofs.Ytacjkbljokjdkaa.heap Go.Proofs.Ytacjkbljokjdkaa.rows Go.Proofs.Ytacjkbljokjdkaa.bit Go.Proofs.Ytacjkbljokjdkaa.bs
set_option linter.unusedVariables false
/-- the numbers of a made array -/
def MadeG (x : Bool) (m q : Nat) : Prop := (x = true ∧ m ≤ 1000 ∧ (m + 63) / 64 = q ∧ 1 ≤ q) ∨ (x = false ∧ m = 0 ∧ q = 0)
theorem madeS_mem {x : Bool} {q : Nat} {p : Nat → Prop} (hp : ∀ y, p (cutB x q y)) : ∀ (L : List Nat), ∀ k ∈ madeS x q L, p k := by
  intro L
  unfold madeS
  suffices h : ∀ s : List Nat, (∀ k ∈ s, p k) → ∀ k ∈ L.foldl (fun s y => put s (cutB x q y)) s, p k from h [] (by simp)
  induction L with
  | nil => exact fun s hs => hs
  | cons y L ih =>
    intro s hs
    refine ih _ (fun k hk => ?_)
    rcases put_mem.1 hk with rfl | h
    · exact hp y
    · exact hs k h
theorem cutB_lt60 (x : Bool) (q y : Nat) : cutB x q y < 1152921504606846976 := by
  unfold cutB
  split
  · exact Nat.lt_of_le_of_lt (Nat.mod_le _ _) (Nat.mod_lt _ (by omega))
  · exact Nat.mod_lt _ (by omega)
theorem madeS_lt60 (x : Bool) (q : Nat) (L : List Nat) : ∀ k ∈ madeS x q L, k < 1152921504606846976 := madeS_mem (fun y => cutB_lt60 x q y) L
theorem does_first {x : Bool} {m q : Nat} (h : MadeG x m q) (s : List BA) : Does s (firstT x m) (s ++ [⟨x, q, []⟩]) {} := by
  rcases h with ⟨rfl, h1, h2, h3⟩ | ⟨rfl, rfl, rfl⟩
  · have := does_dense s m (by omega)
    rw [h2] at this
    exact this
  · exact does_sparse s
theorem does_setG {s : List BA} {i : Nat} {x : Bool} {m q : Nat} (h : MadeG x m q) {S : List Nat} (hd : s[i]? = some ⟨x, q, S⟩) (hl : S.length ≤ 900) (y : Nat) : Does s { op := 3, on := i, k := cutB x q y } (s.set i ⟨x, q, put S (cutB x q y)⟩) { yes := true } := by
  rcases h with ⟨rfl, h1, h2, h3⟩ | ⟨rfl, rfl, rfl⟩
  · exact does_setD hd rfl _ (cutB_lt h3)
  · exact does_setS hd rfl _ (cutB_lt60 _ _ _) hl
/-- making an array -/
theorem goes_made {x : Bool} {m q : Nat} (h : MadeG x m q) (s : List BA) (on : Nat) (L : List Nat) (hon : s.length = on) (hon2 : on < 999) (hL : L.length ≤ 40) : ∃ ys, ys.length = L.length + 1 ∧ Goes s (madeT x m q on L) ys (s ++ [⟨x, q, madeS x q L⟩]) := by
  suffices h : ∀ k, k ≤ L.length → ∃ ys, Goes s (madeT x m q on (L.take k)) ys (s ++ [⟨x, q, madeS x q (L.take k)⟩]) by
    obtain ⟨ys, h⟩ := h L.length (Nat.le_refl _)
    rw [List.take_of_length_le (Nat.le_refl _)] at h
    exact ⟨ys, by rw [h.len]; simp [madeT], h⟩
  intro k
  induction k with
  | zero =>
    intro _
    exact ⟨[{}], by omega, s ++ [⟨x, q, []⟩], {}, [], does_first h s, rfl, rfl, rfl⟩
  | succ k ih =>
    intro hk
    obtain ⟨ys, hg⟩ := ih (by omega)
    have hx : L[k]? = some L[k] := List.getElem?_eq_getElem (by omega)
    rw [madeT_snoc _ _ _ _ _ _ _ hx, madeS_snoc _ _ _ _ _ hx]
    refine ⟨ys ++ [{ yes := true }], hg.snoc (by simp; omega) ?_⟩
    have hd : (s ++ [(⟨x, q, madeS x q (L.take k)⟩ : BA)])[on]? = some ⟨x, q, madeS x q (L.take k)⟩ := by rw [← hon]; simp
    have hl : (madeS x q (L.take k)).length ≤ 900 := by have h1 := madeS_len x q (L.take k); rw [List.length_take] at h1; omega
    have := does_setG h hd hl L[k]
    have e : (s ++ [(⟨x, q, madeS x q (L.take k)⟩ : BA)]).set on ⟨x, q, put (madeS x q (L.take k)) (cutB x q L[k])⟩ = s ++ [⟨x, q, put (madeS x q (L.take k)) (cutB x q L[k])⟩] := by
      rw [← hon, List.set_append_right _ _ (Nat.le_refl _)]; simp
    rw [← e]
    exact this
/-- what is asked of an array -/
def Fine (d : BA) : Prop := d.dense = false → d.set.length ≤ 1000000 ∧ ∀ k ∈ d.set, k < 1152921504606846976
theorem does_nums_ {s : List BA} {i : Nat} {d : BA} (hd : s[i]? = some d) (hf : Fine d) : Does s { op := 14, on := i } s { nums := d.set } := by
  cases h : d.dense with
  | true => exact does_numsD hd h
  | false => exact does_numsS hd h (hf h).2
theorem does_count_ {s : List BA} {i : Nat} {d : BA} (hd : s[i]? = some d) (hf : Fine d) : Does s { op := 10, on := i } s { n := d.set.length } := by
  cases h : d.dense with
  | true => exact does_countD hd h
  | false => exact does_countS hd h (hf h).1
theorem does_empty_ {s : List BA} {i : Nat} {d : BA} (hd : s[i]? = some d) : Does s { op := 15, on := i } s { yes := d.set.isEmpty } := by
  cases h : d.dense with
  | true => exact does_emptyD hd h
  | false => exact does_emptyS hd h
theorem runs_two_ {x y z : BA} {op : Nat} (hx : Fine x) (hy : Fine y) (hz : Fine z) (h : Does [x, y] { op := op, on := 0, by_ := 1 } [x, y, z] {}) : Runs [x, y] (twoT op) (twoY x.set y.set z.set) := by
  have h2 : ([x, y, z] : List BA)[2]? = some z := rfl
  have h0 : ([x, y, z] : List BA)[0]? = some x := rfl
  have h1 : ([x, y, z] : List BA)[1]? = some y := rfl
  exact ⟨by simp, _, _, _, h, rfl, by simp, _, _, _, does_nums_ h2 hz, rfl, by simp, _, _, _, does_count_ h2 hz, rfl, by simp, _, _, _, does_empty_ h2, rfl, by simp, _, _, _, does_nums_ h0 hx, rfl, by simp, _, _, _, does_nums_ h1 hy, rfl, rfl⟩
theorem fine_made (x : Bool) (q : Nat) (L : List Nat) (hL : L.length ≤ 40) : Fine ⟨x, q, madeS x q L⟩ := fun _ => ⟨by have := madeS_len x q L; show (madeS x q L).length ≤ 1000000; omega, madeS_lt60 x q L⟩
/-- the whole run of such a law -/
theorem runs_made {x y : Bool} {op m1 q1 m2 q2 : Nat} {L1 L2 : List Nat} {z : BA} (g1 : MadeG x m1 q1) (g2 : MadeG y m2 q2) (hL1 : L1.length ≤ 40) (hL2 : L2.length ≤ 40) (hz : Fine z)
    (h : Does [⟨x, q1, madeS x q1 L1⟩, ⟨y, q2, madeS y q2 L2⟩] { op := op, on := 0, by_ := 1 } [⟨x, q1, madeS x q1 L1⟩, ⟨y, q2, madeS y q2 L2⟩, z] {}) :
    ∃ Y, Y.length = L1.length + 1 + (L2.length + 1) ∧ Runs [] (madeT x m1 q1 0 L1 ++ madeT y m2 q2 1 L2 ++ twoT op) (Y ++ twoY (madeS x q1 L1) (madeS y q2 L2) z.set) := by
  obtain ⟨Y1, l1, r1⟩ := goes_made g1 [] 0 L1 rfl (by omega) hL1
  obtain ⟨Y2, l2, r2⟩ := goes_made g2 [⟨x, q1, madeS x q1 L1⟩] 1 L2 rfl (by omega) hL2
  refine ⟨Y1 ++ Y2, by rw [List.length_append, l1, l2], ?_⟩
  rw [List.append_assoc, List.append_assoc]
  exact r1.runs (r2.runs (runs_two_ (fine_made _ _ _ hL1) (fine_made _ _ _ hL2) hz h))
theorem madeCS {s on n c : Nat} {a : Option Addr} {l : List Nat} (hon : on < 1000) : ∀ wx, RL uv wx a n c l → Calls Try.prog 19 #[.bool false, .int .u16 (s : Int), .slice a n c, .int .i64 (on : Int)] wx (MadeQ false 0 0 on (l.take 40) wx) :=
  fun wx h => baMadeS s on a n c l wx h hon
end Go.Proofs.Ytacjkbljokjdkaa.ba
