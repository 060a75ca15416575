/-
  pqAll: all is put, all is taken out.
-/
import Derived.Test.YtggnhadmfkhflaaDoorPqRun
namespace Go.Proofs.YtggnhadmfkhflaaDoor.pq
open Go.RowKit Go.Proofs.YtggnhadmfkhflaaDoor.base Go.Proofs.YtggnhadmfkhflaaDoor.heap Go.Proofs.YtggnhadmfkhflaaDoor.rows
set_option linter.unusedVariables false

theorem Ran.inv {m : List Stp} {As : List An} {L' : List It} (h : Ran m As L') : ∀ (l : List Stp) (s : Stp), m = l ++ [s] → ∃ As0 x L, As = As0 ++ [x] ∧ Ran l As0 L ∧ Stepped L s x L' := by
  intro l s e
  cases h with
  | nil => simp at e
  | snoc h1 h2 =>
    obtain ⟨e1, e2⟩ := List.append_inj' e rfl
    simp at e2
    subst e1 e2
    exact ⟨_, _, _, rfl, h1, h2⟩
theorem Ran.count {l : List Stp} {As : List An} {L : List It} (h : Ran l As L) : As.length = l.length := by
  induction h with
  | nil => rfl
  | snoc h1 h2 ih => simp [ih]
/-- only put -/
theorem Ran.puts {l : List Stp} {As : List An} {L : List It} (h : Ran l As L) (h1 : ∀ s ∈ l, s.op = 1) : (∀ x ∈ As, x.err = 0) ∧ L.Perm (l.flatMap (·.R)) ∧ Heap L := by
  induction h with
  | nil => exact ⟨fun x hx => by simp at hx, by simp, fun j h1 h2 => by simp at h2⟩
  | snoc r st ih =>
    obtain ⟨i1, i2, i3⟩ := ih (fun s hs => h1 s (by simp [hs]))
    have ho := h1 _ (List.mem_append_right _ (List.mem_singleton.2 rfl))
    rcases st with ⟨_, p, hh, _, he⟩ | ⟨e, _⟩ | ⟨e, _⟩ | ⟨e, _⟩ | ⟨e, _⟩ | ⟨e, _⟩
    · refine ⟨fun x hx => ?_, ?_, hh⟩
      · rcases List.mem_append.1 hx with hx | hx
        · exact i1 x hx
        · simp at hx; subst hx; exact he
      · rw [List.flatMap_append]
        refine p.trans ?_
        simp
        exact i2.append_right _
    all_goals omega
/-- sorted by the keys -/
def Srt (R : List It) : Prop := ∀ (i j : Nat) (x y : It), i < j → R[i]? = some x → R[j]? = some y → x.key ≤ y.key
theorem Ran.all {P : List Stp} {g c : Stp} {As : List An} {L : List It} (h : Ran (P ++ [g] ++ [c]) As L) (hp : ∀ s ∈ P, s.op = 1) (hg : g.op = 2) (hn : g.n = 1000) (hc : c.op = 4) (h0 : 0 < (P.flatMap (·.R)).length) (h1 : (P.flatMap (·.R)).length ≤ 1000) :
    ∃ As0 x y, As = As0 ++ [x] ++ [y] ∧ As0.length = P.length ∧ (∀ z ∈ As, z.err = 0) ∧ y.num = 0 ∧ Srt x.L ∧ x.L.Perm (P.flatMap (·.R)) := by
  obtain ⟨As1, y, L1, rfl, r1, s1⟩ := h.inv _ _ rfl
  obtain ⟨As0, x, L0, rfl, r0, s0⟩ := r1.inv _ _ rfl
  obtain ⟨p1, p2, p3⟩ := r0.puts hp
  have hl := p2.length_eq
  rcases s0 with ⟨e, _⟩ | ⟨_, e, _⟩ | ⟨_, _, got, hlen, he⟩ | ⟨e, _⟩ | ⟨e, _⟩ | ⟨e, _⟩
  · omega
  · omega
  · have hg2 := got.perm.length_eq
    rw [List.length_append] at hg2
    have hl1 : L1.length = 0 := by rw [hn] at hlen; omega
    obtain rfl := List.eq_nil_of_length_eq_zero hl1
    rcases s1 with ⟨e, _⟩ | ⟨e, _⟩ | ⟨e, _⟩ | ⟨e, _⟩ | ⟨_, rfl, _, hnum, he2⟩ | ⟨e, _⟩
    · omega
    · omega
    · omega
    · omega
    · refine ⟨As0, x, y, rfl, r0.count, fun z hz => ?_, by simpa using hnum, got.sorted, ?_⟩
      · simp only [List.mem_append, List.mem_singleton] at hz
        rcases hz with (hz | rfl) | rfl
        · exact p1 z hz
        · exact he
        · exact he2
      · have := got.perm
        rw [List.append_nil] at this
        exact this.trans p2
    · omega
  · omega
  · omega
  · omega

/-- a list of elements, where it lies -/
structure Sl where
  a : Option Addr
  m : Nat
  cap : Nat
  R : List It
def slv (s : Sl) : Value := .slice s.a s.m s.cap
def put1 (s : Sl) : Stp := ⟨1, 0, s.a, s.m, s.cap, s.R⟩
def stps (l : List Sl) : List Stp := (l.filter fun s => decide (0 < s.m)).map put1
/-- lists of elements that can be read -/
def Sls (w : World) (l : List Sl) : Prop := ∀ s ∈ l, RIt w s.a s.m s.cap s.R
theorem Sls.still {w w' : World} {l : List Sl} (h : Sls w l) (hs : Same w w') : Sls w' l := fun s hs' => (h s hs').still hs
theorem stps_snoc (l : List Sl) (k : Nat) (s : Sl) (h : l[k]? = some s) : stps (l.take (k + 1)) = stps (l.take k) ++ if 0 < s.m then [put1 s] else [] := by
  rw [take_snoc l k s h, stps, List.filter_append, List.map_append]
  by_cases h0 : 0 < s.m <;> simp [stps, List.filter_cons, h0]
theorem stps_R (l : List Sl) (w : World) (h : Sls w l) : (stps l).flatMap (·.R) = l.flatMap (·.R) := by
  induction l with
  | nil => rfl
  | cons s l ih =>
    have ih := ih (fun x hx => h x (by simp [hx]))
    have hl := (h s (by simp)).2
    rw [List.flatMap_cons, ← ih]
    by_cases h0 : 0 < s.m
    · simp [stps, List.filter_cons, h0, put1]
    · have : s.R = [] := List.eq_nil_of_length_eq_zero (by omega)
      simp [stps, List.filter_cons, h0, this]
theorem stps_len (l : List Sl) : (stps l).length ≤ l.length := by
  unfold stps; rw [List.length_map]; exact List.length_filter_le _ _
theorem stps_mem {l : List Sl} {x : Stp} (h : x ∈ stps l) : ∃ s ∈ l, 0 < s.m ∧ x = put1 s := by
  unfold stps at h
  obtain ⟨s, hs, rfl⟩ := List.mem_map.1 h
  obtain ⟨h1, h2⟩ := List.mem_filter.1 hs
  exact ⟨s, h1, by simpa using h2, rfl⟩
theorem sum_le (l : List Stp) (h : ∀ s ∈ l, s.m ≤ 1000) : (l.map (·.m)).sum ≤ l.length * 1000 := by
  induction l with
  | nil => simp
  | cons s l ih =>
    have h1 := h s (by simp)
    have h2 := ih (fun x hx => h x (by simp [hx]))
    simp; omega
theorem flat_le (l : List Sl) (w : World) (hs : Sls w l) (h : ∀ s ∈ l, s.m ≤ 30) : (l.flatMap (·.R)).length ≤ l.length * 30 := by
  induction l with
  | nil => simp
  | cons s l ih =>
    have h1 := h s (by simp)
    have h3 := (hs s (by simp)).2
    have h2 := ih (fun x hx => hs x (by simp [hx])) (fun x hx => h x (by simp [hx]))
    rw [List.flatMap_cons, List.length_append, List.length_cons]; omega

def FitPost (w : World) (n : Nat) (l : List Sl) (e : Ending) (w' : World) : Prop := ∃ t : Bool, e = .returned (.bool t) ∧ (t = true → n ≤ 2147483647 ∧ ∀ s ∈ l, s.m ≤ 2147483647) ∧ Same w w'
set_option maxRecDepth 100000 in
set_option maxHeartbeats 1600000 in
theorem fits14 (a : Option Addr) (n cap : Nat) (l : List Sl) (w : World) (h : RL slv w a n cap l) (hs : ∀ s ∈ l, s.m ≤ s.cap ∧ s.cap ≤ 9223372036854775807) :
    Calls Tryd.prog 7 #[.slice a n cap] w (FitPost w n l) := by
  have hbd := h.bound
  have HR := Lib.hid h
  have HS := Lib.hid hs
  clear h hs
  by_cases hn : n ≤ 2147483647
  · have h1 : ¬ (2147483647 : Int) < (n : Int) := by omega
    go_enter Tryd.func7, Tryd.ntmps7
    go_wp2_with fail
    go_loop [10] (fun i => ∃ k : Nat, k ≤ n ∧ i = .int .i64 (k : Int) ∧ Hid (∀ j s, j < k → l[j]? = some s → s.m ≤ 2147483647)) (fun i => n - (intOf i).toNat)
    case atStart => exact ⟨0, Nat.zero_le _, rfl, Lib.hid (fun j s hj => absurd hj (by omega))⟩
    case round =>
      obtain ⟨k, hk, rfl, HALL⟩ := hrel
      by_cases hlt : k < n
      · have hlt' : (k : Int) < (n : Int) := by omega
        obtain ⟨b, off, ha, hb, hc⟩ := HR.out.at (by omega)
        obtain ⟨s, hsk⟩ := HR.out.get hlt
        have c0 : w.cell? ⟨b, off + k, none⟩ = some (.slice s.a s.m s.cap) := hc k s hsk
        have hsb := HS.out s (List.mem_of_getElem? hsk)
        have HSK := Lib.hid hsk
        subst ha
        clear hc hsk
        by_cases ht : s.m ≤ 2147483647
        · have ht' : ¬ (2147483647 : Int) < (s.m : Int) := by omega
          have HT := Lib.hid ht
          go_wp2_with fail
          go_round
          case rel =>
            refine ⟨k + 1, by omega, by go_num, Lib.hid (fun j t hj hjt => ?_)⟩
            by_cases e : j = k
            · subst e
              rw [HSK.out] at hjt
              cases hjt
              exact HT.out
            · exact HALL.out j t (by omega) hjt
          case measure => simp [intOf]; omega
        · have ht' : (2147483647 : Int) < (s.m : Int) := by omega
          go_wp2_with fail
          go_ret
          exact ⟨false, rfl, (fun h => by cases h), Only.refl _ _⟩
      · have hlt' : ¬ (k : Int) < (n : Int) := by omega
        obtain rfl : k = n := by omega
        go_wp2_with fail
        go_ret
        exact ⟨true, rfl, fun _ => ⟨hn, fun s hs => by
          obtain ⟨j, hj⟩ := List.mem_iff_getElem?.1 hs
          exact HALL.out j s (by rw [← HR.out.2]; exact (List.getElem?_eq_some_iff.1 hj).1) hj⟩, Only.refl _ _⟩
  · have h1 : (2147483647 : Int) < (n : Int) := by omega
    go_enter Tryd.func7, Tryd.ntmps7
    go_wp2
    go_ret
    exact ⟨false, rfl, (fun h => by cases h), Only.refl _ _⟩
end Go.Proofs.YtggnhadmfkhflaaDoor.pq
