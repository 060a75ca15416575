/-
  Iterators; Equals of a dense array and a sparse one, in either order; by their bits.
-/
import Derived.Test.YtacjkbljokjdkaaBaSpAsk
import Derived.Test.YtacjkbljokjdkaaBaWord
import Derived.Test.YtacjkbljokjdkaaBaMeet
import Derived.Deep.LoopGhost
import Derived.Test.YtacjkbljokjdkaaBaAskW
import Derived.Test.YtacjkbljokjdkaaBaPlainG
import Derived.Test.YtacjkbljokjdkaaBaTwoD
import Derived.Test.YtacjkbljokjdkaaBaSame
namespace Go.Proofs.Ytacjkbljokjdkaa.ba
open Go.RowKit Go.Proofs.Ytacjkbljokjdkaa.base Go.Proofs.Ytacjkbljokjdkaa.heap Go.Proofs.Ytacjkbljokjdkaa.rows Go.Proofs.Ytacjkbljokjdkaa.bit Go.Proofs.Ytacjkbljokjdkaa.bs
set_option linter.unusedVariables false
/-- the object of a dense array's iterator -/
def dObj (i : Int) (st p : Nat) : Obj := .cells #[.int .i64 i, .int .u64 (st : Int), .pointer (some ⟨p, 0, none⟩)] 135
/-- the object of a sparse array's iterator -/
def sObj (i : Int) (p : Nat) : Obj := .cells #[.int .i64 i, .pointer (some ⟨p, 0, none⟩)] 149
section
variable {w : World} {p cb ci : Nat} {ab ai : Option Addr} {P : List (Nat × Nat)}
theorem blocksS : Calls Try.prog 95 #[.pointer (some ⟨p, 0, none⟩)] w fun e w' => e = .returned (.iface 141 (.pointer (some ⟨w.heap.size, 0, none⟩))) ∧ w' = w.alloc (sObj (-1) p) := by
  have HN : Hid (Calls Try.prog 109 #[.pointer (some ⟨p, 0, none⟩)] w fun e w' => e = .returned (.pointer (some ⟨w.heap.size, 0, none⟩)) ∧ w' = w.alloc (sObj (-1) p)) := Lib.hid (by
    go_enter Try.func109, Try.ntmps109
    go_wp2_with fail
    go_ret
    exact ⟨rfl, rfl⟩)
  go_enter Try.func95, Try.ntmps95
  go_wp2_with (go_at_call 109; refine HN.out.mono ?_)
  rintro e w1 ⟨rfl, rfl⟩
  go_wp2_with fail
  go_ret
  exact ⟨rfl, rfl⟩
end
theorem blocksD {w : World} {p c lo hi : Nat} {a : Option Addr} {ws : List Nat} {any : Bool} (h : Dn w p a c ws lo hi any) (hlo : lo ≤ hi) (hhi : hi ≤ 64 * ws.length) : Calls Try.prog 51 #[.pointer (some ⟨p, 0, none⟩)] w fun e w' => e = .returned (.iface 118 (.pointer (some ⟨w.heap.size, 0, none⟩))) ∧ w' = w.alloc (dObj (((lo / 64 : Nat) : Int) - 1) (hi / 64) p) := by
  obtain ⟨b, ha, hb, hne, e0, e1, e2, e3, hf, hc, hfb⟩ := h.facts
  have hws := h.sm
  have HI1 := Lib.hid (indexW hi (by unfold Lt64; omega) w)
  have HI2 := Lib.hid (indexW lo (by unfold Lt64; omega) w)
  obtain ⟨y, hy⟩ : ∃ y, lo / 64 = y := ⟨_, rfl⟩
  rw [hy] at HI2 ⊢
  have k1 : IntKind.i64.wrap (y : Int) = (y : Int) := IntWalk.i64_in _ (by omega)
  have k2 : IntKind.i64.wrap ((y : Int) - 1) = (y : Int) - 1 := IntWalk.i64_in _ (by omega)
  generalize hi / 64 = z at *
  generalize lo % 64 = r1 at *
  generalize hi % 64 = r2 at *
  clear hy hws hf hc hfb h hlo hhi ha hb hne
  have HN : Hid (Calls Try.prog 67 #[.pointer (some ⟨p, 0, none⟩)] w fun e w' => e = .returned (.pointer (some ⟨w.heap.size, 0, none⟩)) ∧ w' = w.alloc (dObj ((y : Int) - 1) z p)) := Lib.hid (by
    go_enter Try.func67, Try.ntmps67
    go_wp2_with (go_at_call 33; refine HI1.out.mono ?_)
    rintro e w1 ⟨rfl, rfl⟩
    go_wp2_with (go_at_call 33; refine HI2.out.mono ?_)
    rintro e w1 ⟨rfl, rfl⟩
    go_wp2_with fail
    go_ret
    exact ⟨rfl, rfl⟩)
  clear HI1 HI2 k1 k2
  go_enter Try.func51, Try.ntmps51
  go_wp2_with (go_at_call 67; refine HN.out.mono ?_)
  rintro e w1 ⟨rfl, rfl⟩
  go_wp2_with fail
  go_ret
  exact ⟨rfl, rfl⟩
theorem nextS {w : World} {g p j n : Nat} {i : Int} {ai : Option Addr} {ci : Nat} (h : w.heap[g]? = some (sObj i p)) (hg : g ≠ p) (hij : i + 1 = (j : Int)) (hj : j ≤ 1000000) (hpl : p < w.heap.size) (c1 : w.cell? ⟨p, 1, none⟩ = some (.slice ai n ci)) (hn : n ≤ 1000000) :
    Calls Try.prog 127 #[.pointer (some ⟨g, 0, none⟩)] w fun e w' => e = .returned (.bool (decide (j < n))) ∧ w'.heap[g]? = some (sObj j p) ∧ Only (fun k => k = g) w w' := by
  have c0 : w.cell? ⟨g, 0, none⟩ = some (.int .i64 i) := block_cell h rfl
  have f0 : w.frozen? ⟨g, 0, none⟩ = false := block_free h
  have ew : IntKind.i64.wrap (i + 1) = (j : Int) := by rw [IntWalk.i64_in _ (by omega)]; exact hij
  have HW : Hid ((w.setCell ⟨g, 0, none⟩ (.int .i64 (j : Int))).heap[g]? = some (sObj j p) ∧ Only (fun k => k = g) w (w.setCell ⟨g, 0, none⟩ (.int .i64 (j : Int))) ∧ (w.setCell ⟨g, 0, none⟩ (.int .i64 (j : Int))).cell? ⟨p, 1, none⟩ = some (.slice ai n ci)) := Lib.hid (by
    have h1 : Only (fun k => k = g) w (w.setCell ⟨g, 0, none⟩ (.int .i64 (j : Int))) := (Only.refl _ _).setCell _ _ (fun _ => rfl)
    refine ⟨?_, h1, ?_⟩
    · exact setCell_heap h 0 (.int .i64 (j : Int))
    · exact h1.cell (p := ⟨p, 1, none⟩) (hpl) (fun e => hg e.symm) |>.trans c1)
  have hd : decide (j < n) = decide ((j : Int) < (n : Int)) := by simp
  rw [hd]
  clear h hg hij
  go_enter Try.func127, Try.ntmps127
  go_wp2_with fail
  obtain ⟨W1, hW1⟩ : ∃ W1, W1 = w.setCell ⟨g, 0, none⟩ (.int .i64 (j : Int)) := ⟨_, rfl⟩
  rw [← hW1] at HW ⊢
  have d0 : W1.cell? ⟨g, 0, none⟩ = some (.int .i64 (j : Int)) := block_cell HW.out.1 rfl
  have d1 : W1.cell? ⟨g, 1, none⟩ = some (.pointer (some ⟨p, 0, none⟩)) := block_cell HW.out.1 rfl
  have d2 := HW.out.2.2
  clear hW1 c0 f0 c1
  go_quiet (fail)
  go_wp2_with fail
  go_ret
  exact ⟨rfl, HW.out.1, HW.out.2.1.drewN _⟩
theorem nextD {w : World} {g p j n : Nat} {i : Int} (h : w.heap[g]? = some (dObj i n p)) (hij : i + 1 = (j : Int)) (hj : j ≤ 1000000) (hn : n ≤ 1000000) :
    Calls Try.prog 124 #[.pointer (some ⟨g, 0, none⟩)] w fun e w' => e = .returned (.bool (decide (j ≤ n))) ∧ w'.heap[g]? = some (dObj j n p) ∧ Only (fun k => k = g) w w' := by
  have c0 : w.cell? ⟨g, 0, none⟩ = some (.int .i64 i) := block_cell h rfl
  have f0 : w.frozen? ⟨g, 0, none⟩ = false := block_free h
  have ew : IntKind.i64.wrap (i + 1) = (j : Int) := by rw [IntWalk.i64_in _ (by omega)]; exact hij
  have HW : Hid ((w.setCell ⟨g, 0, none⟩ (.int .i64 (j : Int))).heap[g]? = some (dObj j n p) ∧ Only (fun k => k = g) w (w.setCell ⟨g, 0, none⟩ (.int .i64 (j : Int)))) := Lib.hid (by
    have h1 : Only (fun k => k = g) w (w.setCell ⟨g, 0, none⟩ (.int .i64 (j : Int))) := (Only.refl _ _).setCell _ _ (fun _ => rfl)
    exact ⟨setCell_heap h 0 (.int .i64 (j : Int)), h1⟩)
  have hd : decide (j ≤ n) = decide ((j : Int) ≤ (n : Int)) := by simp
  rw [hd]
  have ej : IntKind.u64.wrap (j : Int) = (j : Int) := by rw [IntKind.wrap_u64]; omega
  clear h hij
  go_enter Try.func124, Try.ntmps124
  go_wp2_with fail
  obtain ⟨W1, hW1⟩ : ∃ W1, W1 = w.setCell ⟨g, 0, none⟩ (.int .i64 (j : Int)) := ⟨_, rfl⟩
  rw [← hW1] at HW ⊢
  have d0 : W1.cell? ⟨g, 0, none⟩ = some (.int .i64 (j : Int)) := block_cell HW.out.1 rfl
  have d1 : W1.cell? ⟨g, 1, none⟩ = some (.int .u64 (n : Int)) := block_cell HW.out.1 rfl
  clear hW1 c0 f0
  go_quiet (fail)
  go_wp2_with fail
  go_ret
  exact ⟨rfl, HW.out.1, HW.out.2.drewN _⟩
theorem valueS {w : World} {g p j : Nat} {ab ai : Option Addr} {cb ci : Nat} {P : List (Nat × Nat)} (h : w.heap[g]? = some (sObj j p)) (hp : Sp w p ab cb ai ci P) {x : Nat × Nat} (hx : P[j]? = some x) :
    Calls Try.prog 128 #[.pointer (some ⟨g, 0, none⟩)] w fun e w' => e = .returned (.tuple #[.int .u64 (x.1 : Int), .int .u64 (x.2 : Int)]) ∧ Same w w' := by
  have c0 : w.cell? ⟨g, 0, none⟩ = some (.int .i64 (j : Int)) := block_cell h rfl
  have c1 : w.cell? ⟨g, 1, none⟩ = some (.pointer (some ⟨p, 0, none⟩)) := block_cell h rfl
  have hj : j < P.length := (List.getElem?_eq_some_iff.1 hx).1
  obtain ⟨b, i, hab, hai, hc⟩ := hp.at (by omega)
  have d0 := (hc j x hx).1
  have d1 := (hc j x hx).2
  have e0 := hp.c0
  have e1 := hp.c1
  have hbd := hp.idx.bound
  have hbd2 := hp.blk.bound
  obtain ⟨n, hn⟩ : ∃ n, P.length = n := ⟨_, rfl⟩
  rw [hn] at hj e0 e1 hbd hbd2
  have k2 : (j : Int) < (n : Int) := by omega
  have k3 : (0 : Int) ≤ (j : Int) := by omega
  generalize x.1 = x1 at *
  generalize x.2 = x2 at *
  subst hab
  subst hai
  clear hc hp h hx hn
  go_enter Try.func128, Try.ntmps128
  go_wp2_with fail
  go_quiet (fail)
  go_wp2_with fail
  go_ret2
  exact ⟨rfl, (Only.refl _ _).drewN _⟩
theorem valueD {w : World} {g p j st : Nat} {a : Option Addr} {c lo hi : Nat} {ws : List Nat} {any : Bool} (h : w.heap[g]? = some (dObj j st p)) (hp : Dn w p a c ws lo hi any) (hj : j < ws.length) :
    Calls Try.prog 125 #[.pointer (some ⟨g, 0, none⟩)] w fun e w' => e = .returned (.tuple #[.int .u64 (j : Int), .int .u64 ((ws.getD j 0 : Nat) : Int)]) ∧ Same w w' := by
  have c0 : w.cell? ⟨g, 0, none⟩ = some (.int .i64 (j : Int)) := block_cell h rfl
  have c2 : w.cell? ⟨g, 2, none⟩ = some (.pointer (some ⟨p, 0, none⟩)) := block_cell h rfl
  obtain ⟨b, ha, hb, hne, e0, e1, e2, e3, hf, hc, hfb⟩ := hp.facts
  have d0 := hc j hj
  have hws := hp.sm
  generalize ws.getD j 0 = x2 at *
  obtain ⟨n, hn⟩ : ∃ n, ws.length = n := ⟨_, rfl⟩
  rw [hn] at hj e0 hws
  have k2 : (j : Int) < (n : Int) := by omega
  have k3 : (0 : Int) ≤ (j : Int) := by omega
  have ej : IntKind.u64.wrap (j : Int) = (j : Int) := by rw [IntKind.wrap_u64]; omega
  clear hc hp h hn hf hfb e1 e2 e3 hne hb
  go_enter Try.func125, Try.ntmps125
  go_wp2_with fail
  go_quiet (fail)
  go_wp2_with fail
  go_ret2
  exact ⟨rfl, (Only.refl _ _).drewN _⟩
end Go.Proofs.Ytacjkbljokjdkaa.ba
namespace Go.Proofs.Ytacjkbljokjdkaa.ba
open Go.RowKit Go.Proofs.Ytacjkbljokjdkaa.base Go.Proofs.Ytacjkbljokjdkaa.heap Go.Proofs.Ytacjkbljokjdkaa.rows Go.Proofs.Ytacjkbljokjdkaa.bit Go.Proofs.Ytacjkbljokjdkaa.bs
set_option linter.unusedVariables false
theorem wd_lt {P : List (Nat × Nat)} (h : Good P) (j : Nat) : Lt64 (wd P j) := by
  by_cases h0 : wd P j = 0
  · rw [h0]; unfold Lt64; omega
  · exact (h.2 _ (wd_some h0)).1
theorem eq_words {ws l1 l2 : List Nat} {Q : List (Nat × Nat)} (hok : ∀ j, Lt64 (wf ws j)) (r1 : Rep (wf ws) l1) (hQ : Good Q) (r2 : Rep (wd Q) l2) : l1 = l2 ↔ ∀ j, wf ws j = wd Q j := by
  constructor
  · intro e j
    subst e
    apply Nat.eq_of_testBit_eq
    intro i
    rcases Nat.lt_or_ge i 64 with hi | hi
    · have h1 := r1.2 (64 * j + i)
      have h2 := r2.2 (64 * j + i)
      rw [show (64 * j + i) / 64 = j by omega, show (64 * j + i) % 64 = i by omega] at h1 h2
      have h3 := h1.symm.trans h2
      cases ha : (wf ws j).testBit i <;> cases hb : (wd Q j).testBit i <;> simp_all
    · have g : ∀ x, Lt64 x → x.testBit i = false := fun x hx => by
        rw [lt64_iff] at hx
        exact Nat.testBit_lt_two_pow (Nat.lt_of_lt_of_le hx (Nat.pow_le_pow_right (by omega) hi))
      rw [g _ (hok j), g _ (wd_lt hQ j)]
  · intro h
    exact (r1.congr h).eq r2
/-- k of the sparse one's words are found, all words of the dense one below j are theirs -/
def EqI (ws : List Nat) (Q : List (Nat × Nat)) (k j : Nat) : Prop :=
  (∀ i, i < j → wf ws i = wd (Q.take k) i) ∧ (∀ x ∈ Q.take k, x.1 < j)
theorem wd_take {Q : List (Nat × Nat)} (h : PAsc Q) {k i : Nat} (hi : ∀ x, Q[k]? = some x → i < x.1) : wd (Q.take k) i = wd Q i := by
  by_cases h0 : wd Q i = 0
  · rw [h0]
    by_cases h1 : wd (Q.take k) i = 0
    · exact h1
    · have := List.mem_of_mem_take (wd_some h1)
      rw [wd_mem h this] at h0
      exact absurd h0 h1
  · have hm := wd_some h0
    obtain ⟨t, ht⟩ := List.mem_iff_getElem?.1 hm
    have htl := (List.getElem?_eq_some_iff.1 ht).1
    have htk : t < k := by
      rcases Nat.lt_or_ge t k with h2 | h2
      · exact h2
      · obtain ⟨x, hx⟩ : ∃ x, Q[k]? = some x := ⟨Q[k]'(by omega), List.getElem?_eq_getElem _⟩
        have h3 := hi x hx
        rcases Nat.lt_or_ge k t with h4 | h4
        · have := Asc.get h h4 (i := k) (j := t) (x := x.1) (y := i) (by rw [List.getElem?_map, hx]; rfl) (by rw [List.getElem?_map, ht]; rfl)
          omega
        · have : t = k := by omega
          subst this; rw [hx] at ht; cases ht; exact absurd h3 (Nat.lt_irrefl _)
    have h5 : (i, wd Q i) ∈ Q.take k := by
      rw [List.mem_iff_getElem?]
      exact ⟨t, by rw [List.getElem?_take, if_pos htk]; exact ht⟩
    have hT : PAsc (Q.take k) := by
      unfold PAsc; rw [map_fst_take]; exact Asc.take h k
    exact wd_mem hT h5
theorem take_asc {Q : List (Nat × Nat)} (h : PAsc Q) (k : Nat) : PAsc (Q.take k) := by
  unfold PAsc; rw [map_fst_take]; exact Asc.take h k
theorem take_good {Q : List (Nat × Nat)} (h : Good Q) (k : Nat) : Good (Q.take k) := ⟨take_asc h.1 k, fun x hx => h.2 x (List.mem_of_mem_take hx)⟩
theorem wd_zero {P : List (Nat × Nat)} {i : Nat} (h : ∀ x ∈ P, x.1 ≠ i) : wd P i = 0 := wd_none (fun b hb => h _ hb rfl)
end Go.Proofs.Ytacjkbljokjdkaa.ba
namespace Go.Proofs.Ytacjkbljokjdkaa.ba
open Go.RowKit Go.Proofs.Ytacjkbljokjdkaa.base Go.Proofs.Ytacjkbljokjdkaa.heap Go.Proofs.Ytacjkbljokjdkaa.rows Go.Proofs.Ytacjkbljokjdkaa.bit Go.Proofs.Ytacjkbljokjdkaa.bs
set_option linter.unusedVariables false
theorem eqi_wd {ws : List Nat} {Q : List (Nat × Nat)} (hQ : Good Q) {k s : Nat} {x : Nat × Nat} (hI : EqI ws Q k s) (hx : Q[k]? = some x) {i : Nat} (h1 : s ≤ i) (h2 : i < x.1) : wd Q i = 0 := by
  rw [← wd_take hQ.1 (k := k) (fun y hy => by rw [hx] at hy; cases hy; exact h2)]
  exact wd_zero (fun y hy e => by have := hI.2 y hy; omega)
theorem eqi_next {Q : List (Nat × Nat)} (hQ : Good Q) {k : Nat} {x : Nat × Nat} (hx : Q[k]? = some x) : ∀ y, Q[k + 1]? = some y → x.1 + 1 ≤ y.1 := fun y hy =>
  Asc.get hQ.1 (Nat.lt_succ_self k) (x := x.1) (y := y.1) (by rw [List.getElem?_map, hx]; rfl) (by rw [List.getElem?_map, hy]; rfl)
theorem eqi_step {ws : List Nat} {Q : List (Nat × Nat)} (hQ : Good Q) {k s : Nat} {x : Nat × Nat} (hI : EqI ws Q k s) (hx : Q[k]? = some x) (hs : s ≤ x.1) (h0 : ∀ i, s ≤ i → i < x.1 → wf ws i = 0) (he : wf ws x.1 = x.2) : EqI ws Q (k + 1) (x.1 + 1) := by
  have hT := take_snoc Q k x hx
  refine ⟨fun i hi => ?_, fun y hy => ?_⟩
  · rcases Nat.lt_or_ge i x.1 with h1 | h1
    · rw [wd_take hQ.1 (k := k + 1) (fun y hy => by have := eqi_next hQ hx y hy; omega)]
      rcases Nat.lt_or_ge i s with h2 | h2
      · rw [hI.1 i h2]
        exact wd_take hQ.1 (fun y hy => by rw [hx] at hy; cases hy; exact h1)
      · rw [h0 i h2 h1, eqi_wd hQ hI hx h2 h1]
    · obtain rfl : i = x.1 := by omega
      rw [he]
      exact (wd_mem (take_asc hQ.1 (k + 1)) (by rw [hT]; simp)).symm
  · rw [hT] at hy
    rcases List.mem_append.1 hy with h | h
    · have := hI.2 y h; omega
    · have : y = x := by simpa using h
      subst this; omega
theorem eqi_end {ws : List Nat} {Q : List (Nat × Nat)} {k s hi : Nat} (hI : EqI ws Q k s) (hk : Q.length ≤ k) (hb : HiB ws hi) (hok : ∀ j, Lt64 (wf ws j)) (hs : hi / 64 < s) (i : Nat) : wf ws i = wd Q i := by
  have hT : Q.take k = Q := List.take_of_length_le hk
  unfold EqI at hI
  rw [hT] at hI
  rcases Nat.lt_or_ge i s with h | h
  · exact hI.1 i h
  · rw [wd_zero (fun y hy e => by have := hI.2 y hy; omega)]
    apply Nat.eq_of_testBit_eq
    intro t
    rw [Nat.zero_testBit]
    rcases Nat.lt_or_ge t 64 with ht | ht
    · cases hc : (wf ws i).testBit t with
      | false => rfl
      | true =>
        have := hb.2 (64 * i + t) (by unfold bit; rw [show (64 * i + t) / 64 = i by omega, show (64 * i + t) % 64 = t by omega]; exact hc)
        omega
    · have hx := hok i
      rw [lt64_iff] at hx
      exact Nat.testBit_lt_two_pow (Nat.lt_of_lt_of_le hx (Nat.pow_le_pow_right (by omega) ht))
theorem eqi_more {ws : List Nat} {Q : List (Nat × Nat)} {k s hi : Nat} (hI : EqI ws Q k s) (hk : Q.length ≤ k) (hb : HiB ws hi) (hs : s ≤ hi / 64) : wf ws (hi / 64) ≠ wd Q (hi / 64) := by
  have hT : Q.take k = Q := List.take_of_length_le hk
  unfold EqI at hI
  rw [hT] at hI
  rw [wd_zero (P := Q) (fun y hy e => by have := hI.2 y hy; omega)]
  intro h0
  have : (wf ws (hi / 64)).testBit (hi % 64) = true := hb.1
  rw [h0] at this; simp at this
section
variable {w : World} {p1 c1 lo hi p2 cb2 ci2 : Nat} {a1 ab2 ai2 : Option Addr} {ws l1 l2 : List Nat} {any : Bool} {Q : List (Nat × Nat)}
set_option maxRecDepth 100000 in
set_option maxHeartbeats 3200000 in
theorem equalsDS (h1 : Dn w p1 a1 c1 ws lo hi any) (he : Ends ws lo hi any) (h2 : Sp w p2 ab2 cb2 ai2 ci2 Q) (r1 : Rep (wf ws) l1) (r2 : Rep (wd Q) l2) (hroom : ∀ x ∈ Q, x.1 < ws.length) (hn1 : l1 ≠ []) (hn2 : Q ≠ []) :
    Calls Try.prog 55 #[.pointer (some ⟨p1, 0, none⟩), .iface 87 (.pointer (some ⟨p2, 0, none⟩))] w (FV w (.bool (decide (l1 = l2)))) := by
  have hany : any = true := by
    have := any_set r1 he
    cases any with
    | true => rfl
    | false => cases l1 with
      | nil => exact absurd rfl hn1
      | cons x l => cases this
  have HHB := Lib.hid (he.2.2.2 hany).2
  have hhi := he.2.1
  have HGQ := Lib.hid h2.good
  have HOK := Lib.hid (fun j => h1.ok.at j)
  obtain ⟨r, HR⟩ : ∃ r, Hid (decide (l1 = l2) = r) := ⟨_, Lib.hid rfl⟩
  have HF : Hid (∀ i, wf ws i ≠ wd Q i → r = false) := Lib.hid (fun i hi => by
    rw [← HR.out, decide_eq_false_iff_not, eq_words HOK.out r1 HGQ.out r2]
    exact fun h => hi (h i))
  have HT : Hid ((∀ i, wf ws i = wd Q i) → r = true) := Lib.hid (fun hi => by
    rw [← HR.out, decide_eq_true_iff, eq_words HOK.out r1 HGQ.out r2]
    exact hi)
  rw [HR.out]
  have HC : Hid (∀ wx, Same w wx → Calls Try.prog 93 #[.pointer (some ⟨p2, 0, none⟩)] wx (FV wx (.int .u64 ((capP Q : Nat) : Int)))) := Lib.hid (fun wx hS => capS (h2.still hS))
  have HB : Hid (∀ wx, Calls Try.prog 95 #[.pointer (some ⟨p2, 0, none⟩)] wx fun e w' => e = .returned (.iface 141 (.pointer (some ⟨wx.heap.size, 0, none⟩))) ∧ w' = wx.alloc (sObj (-1) p2)) := Lib.hid (fun wx => blocksS)
  have hcp : ((capP Q : Nat) : Int) ≠ 0 := by
    have hz : Q.length ≠ 0 := fun h => hn2 (List.eq_nil_of_length_eq_zero h)
    obtain ⟨m, hm⟩ : ∃ m, Q.length = m + 1 := ⟨Q.length - 1, by omega⟩
    rw [capP_last hm (List.getElem?_eq_getElem (by omega))]
    omega
  have hcp' : (((capP Q : Nat) : Int) == 0) = false := by rw [beq_eq_false_iff_ne]; exact hcp
  generalize capP Q = cq at *
  have HRM := Lib.hid hroom
  have H1 := Lib.hid h1
  have H2 := Lib.hid h2
  have hq1 := h2.sm
  have hws := h1.sm
  obtain ⟨n, HN⟩ : ∃ n, Hid (Q.length = n) := ⟨_, Lib.hid rfl⟩
  obtain ⟨nw, HNW⟩ : ∃ nw, Hid (ws.length = nw) := ⟨_, Lib.hid rfl⟩
  rw [HN.out] at hq1
  rw [HNW.out] at hws hhi
  have hm1 : ∀ wx, (method 255 87 (.pointer (some ⟨p2, 0, none⟩)) "Capacity").run Try.prog wx = .ok (93, .pointer (some ⟨p2, 0, none⟩)) wx := by intro wx; kernel_rfl
  have hm2 : ∀ wx, (method 255 87 (.pointer (some ⟨p2, 0, none⟩)) "Blocks").run Try.prog wx = .ok (95, .pointer (some ⟨p2, 0, none⟩)) wx := by intro wx; kernel_rfl
  clear h1 h2 he r1 r2 hroom hn1 hn2 HR hcp
  go_enter Try.func55, Try.ntmps55
  go_wp2_with (go_at_call 93; refine (HC.out _ (Only.refl _ _)).mono ?_)
  rintro e w1 ⟨rfl, hS⟩
  have HS1 := Lib.hid hS
  clear hS
  go_wp2_with (go_at_call 93; refine (HC.out _ HS1.out).mono ?_)
  rintro e w2 ⟨rfl, hS2⟩
  have HS2 := Lib.hid (Same.trans HS1.out hS2)
  clear hS2
  go_wp2_with (go_at_call 95; refine (HB.out _).mono ?_)
  rintro e w3 ⟨rfl, hw3⟩
  obtain ⟨g, hg⟩ : ∃ g, w2.heap.size = g := ⟨_, rfl⟩
  rw [hg]
  have HG : Hid (w.heap.size ≤ g ∧ Same w w3 ∧ w3.heap[g]? = some (sObj (-1) p2)) := Lib.hid (by
    have h1 := HS2.out.size
    rw [hw3]
    refine ⟨by omega, Same.trans HS2.out ((Only.refl _ _).alloc _), ?_⟩
    rw [← hg]
    exact heap_alloc_new _ _)
  clear hw3 hg HC HB
  have hm3 : ∀ wx, (method 255 141 (.pointer (some ⟨g, 0, none⟩)) "Next").run Try.prog wx = .ok (127, .pointer (some ⟨g, 0, none⟩)) wx := by intro wx; kernel_rfl
  have hm4 : ∀ wx, (method 255 141 (.pointer (some ⟨g, 0, none⟩)) "Value").run Try.prog wx = .ok (128, .pointer (some ⟨g, 0, none⟩)) wx := by intro wx; kernel_rfl
  have HFIN : Hid (∀ wr, Only (fun k => k = g) w3 wr → Same w wr) := Lib.hid (fun wr ho => new_only HG.out.2.1 ho (fun j hf => by have := HG.out.1; omega))
  have H1K : Hid (∀ wr, Only (fun k => k = g) w3 wr → Dn wr p1 a1 c1 ws lo hi any) := Lib.hid (fun wr ho => (H1.out.still HG.out.2.1).keep ho (fun k hk e => by have := H1.out.lt k hk; have := HG.out.1; omega))
  have H2K : Hid (∀ wr, Only (fun k => k = g) w3 wr → Sp wr p2 ab2 cb2 ai2 ci2 Q) := Lib.hid (fun wr ho => (H2.out.still HG.out.2.1).keep ho (fun k hk e => by have := H2.out.lt k hk; have := HG.out.1; omega))
  go_wp2_with fail
  go_loopg [5] n (fun kx s5 wr => ∃ (k s : Nat), k ≤ n ∧ n - k ≤ kx ∧ s ≤ nw ∧ s5 = .int .u64 (s : Int) ∧ Hid (EqI ws Q k s ∧ (∀ x, Q[k]? = some x → s ≤ x.1) ∧ wr.heap[g]? = some (sObj ((k : Int) - 1) p2) ∧ Only (fun j => j = g) w3 wr))
  case atStart => exact ⟨0, 0, Nat.zero_le _, Nat.le_refl _, Nat.zero_le _, rfl, Lib.hid ⟨⟨fun i hi => absurd hi (Nat.not_lt_zero _), by simp⟩, fun x _ => Nat.zero_le _, HG.out.2.2, Only.refl _ _⟩⟩
  case round =>
    obtain ⟨k, s, hk, hkx, hs, rfl, HI⟩ := hrel
    have HNX : Hid (∀ b, decide (k < n) = b → Calls Try.prog 127 #[.pointer (some ⟨g, 0, none⟩)] wr fun e w' => e = .returned (.bool b) ∧ w'.heap[g]? = some (sObj k p2) ∧ Only (fun j => j = g) w3 w') := Lib.hid (fun b hb => by
      have hsp := H2K.out wr HI.out.2.2.2
      have e1 := hsp.c1
      rw [HN.out] at e1
      rw [← hb]
      refine (nextS HI.out.2.2.1 (fun e => by have := H2.out.lt p2 (.inl rfl); have := HG.out.1; omega) (j := k) (by omega) (by omega) (lt_of_heap hsp.obj) e1 hq1).mono ?_
      rintro e w' ⟨h1, h2, h3⟩
      exact ⟨h1, h2, HI.out.2.2.2.trans h3 (fun _ _ => id)⟩)
    by_cases hkn : k < n
    · have HN1 := Lib.hid (HNX.out true (by simp [hkn]))
      obtain ⟨x, hx⟩ : ∃ x, Q[k]? = some x := ⟨Q[k]'(by have := HN.out; omega), List.getElem?_eq_getElem _⟩
      have HX := Lib.hid hx
      have hxr := HRM.out x (List.mem_of_getElem? hx)
      rw [HNW.out] at hxr
      have hsx := HI.out.2.1 x hx
      have HV : Hid (∀ wx, wx.heap[g]? = some (sObj k p2) → Only (fun j => j = g) w3 wx → Calls Try.prog 128 #[.pointer (some ⟨g, 0, none⟩)] wx fun e w' => e = .returned (.tuple #[.int .u64 (x.1 : Int), .int .u64 (x.2 : Int)]) ∧ w'.heap[g]? = some (sObj k p2) ∧ Only (fun j => j = g) w3 w') := Lib.hid (fun wx ha ho => (valueS ha (H2K.out wx ho) HX.out).mono fun e w' h => ⟨h.1, h.2.obj ha id, ho.trans h.2 (fun _ _ hf => hf.elim)⟩)
      have HEQ := Lib.hid (fun wx => equalsW (ws.getD x.1 0) x.2 wx)
      have HNZ : Hid (∀ i, s ≤ i → i < x.1 → wf ws i ≠ 0 → r = false) := Lib.hid (fun i g1 g2 g3 => HF.out i (by rw [eqi_wd HGQ.out HI.out.1 HX.out g1 g2]; exact g3))
      have HNE : Hid (wf ws x.1 ≠ x.2 → r = false) := Lib.hid (fun h => HF.out x.1 (by rw [wd_mem HGQ.out.1 (j := x.1) (b := x.2) (List.mem_of_getElem? HX.out)]; exact h))
      have HST : Hid ((∀ i, s ≤ i → i < x.1 → wf ws i = 0) → wf ws x.1 = x.2 → EqI ws Q (k + 1) (x.1 + 1) ∧ (∀ y, Q[k + 1]? = some y → x.1 + 1 ≤ y.1)) := Lib.hid (fun g1 g2 => ⟨eqi_step HGQ.out HI.out.1 HX.out (HI.out.2.1 x HX.out) g1 g2, eqi_next HGQ.out HX.out⟩)
      generalize x.1 = x1 at *
      generalize x.2 = x2 at *
      clear hx HNX
      go_wp2_with (go_at_call 127; refine HN1.out.mono ?_)
      rintro e w4 ⟨rfl, ha4, ho4⟩
      have H4 := Lib.hid (And.intro ha4 ho4)
      clear ha4 ho4 HN1
      go_wp2_with (go_at_call 128; refine (HV.out _ H4.out.1 H4.out.2).mono ?_)
      rintro e w5 ⟨rfl, ha5, ho5⟩
      have H5 := Lib.hid (And.intro ha5 ho5)
      have hdn := H1K.out w5 ho5
      obtain ⟨b3, ha3, _, _, e0, _, e2, _, _, hc3, _⟩ := hdn.facts
      have t1 := hc3 x1 (by have := HNW.out; omega)
      have HC3 : Hid (∀ i, i < nw → w5.cell? ⟨b3, i, none⟩ = some (.int .u64 (ws.getD i 0 : Nat))) := Lib.hid (fun i hi => hc3 i (by have := HNW.out; omega))
      rw [HNW.out] at e0
      clear ha5 ho5 HV H4 hdn hc3
      subst ha3
      have hxl : (x1 : Int) < (nw : Int) := by omega
      have hx0 : (0 : Int) ≤ (x1 : Int) := by omega
      have hw1 : IntKind.u64.wrap ((x1 : Int) + 1) = ((x1 + 1 : Nat) : Int) := by rw [IntKind.wrap_u64]; omega
      by_cases hsx1 : s < x1
      · have hsx2 : (s : Int) < (x1 : Int) := by omega
        go_wp2_with fail
        go_loop [9] (fun s9 => ∃ t : Nat, s ≤ t ∧ t ≤ x1 ∧ s9 = .int .u64 (t : Int) ∧ Hid (∀ i, s ≤ i → i < t → wf ws i = 0)) (fun s9 => x1 - (intOf s9).toNat)
        case atStart => exact ⟨s, Nat.le_refl _, hsx, rfl, Lib.hid (fun i g1 g2 => absurd g1 (by omega))⟩
        case round =>
          obtain ⟨t, hst, htx, rfl, HZT⟩ := hrel
          by_cases htx1 : t < x1
          · have htx2 : (t : Int) < (x1 : Int) := by omega
            have htn : (t : Int) < (nw : Int) := by omega
            have ht0 : (0 : Int) ≤ (t : Int) := by omega
            have t2 := HC3.out t (by omega)
            have hw2 : IntKind.u64.wrap ((t : Int) + 1) = ((t + 1 : Nat) : Int) := by rw [IntKind.wrap_u64]; omega
            obtain ⟨z1, hz1⟩ : ∃ z, ws.getD t 0 = z := ⟨_, rfl⟩
            rw [hz1] at t2
            by_cases hz : z1 = 0
            · have HZ2 : Hid (∀ i, s ≤ i → i < t + 1 → wf ws i = 0) := Lib.hid (fun i g1 g2 => by
                rcases Nat.lt_or_ge i t with h | h
                · exact HZT.out i g1 h
                · obtain rfl : i = t := by omega
                  rw [show wf ws i = z1 from hz1]; exact hz)
              have hz' : ¬ (0 : Int) < (z1 : Int) := by omega
              clear hz1 hz
              go_wp2_with fail
              go_round
              case rel => exact ⟨t + 1, by omega, by omega, by go_num, HZ2⟩
              case measure => simp [intOf]; omega
            · have hz' : (0 : Int) < (z1 : Int) := by omega
              have HRF := Lib.hid (HNZ.out t hst htx1 (by rw [show wf ws t = z1 from hz1]; exact hz))
              clear hz1 hz
              go_wp2_with fail
              go_ret
              exact ⟨by rw [HRF.out]; rfl, HFIN.out _ H5.out.2⟩
          · have htx2 : ¬ (t : Int) < (x1 : Int) := by omega
            obtain rfl : x1 = t := by omega
            have HZ := HZT
            obtain ⟨y1, hy1⟩ : ∃ y, ws.getD x1 0 = y := ⟨_, rfl⟩
            rw [hy1] at t1 HEQ
            have HYZ : Hid (wf ws x1 = y1) := Lib.hid hy1
            rw [HYZ.out] at HNE HST
            by_cases hye : y1 = x2
            · have HEQ1 : Hid (∀ wx, Calls Try.prog 71 #[.int .u64 (y1 : Int), .int .u64 (x2 : Int)] wx fun e w' => e = .returned (.bool true) ∧ w' = wx) := Lib.hid (fun wx => by have := HEQ.out wx; rw [decide_eq_true hye] at this; exact this)
              have HST1 := Lib.hid (HST.out HZ.out hye)
              clear HEQ HST HNE hye hy1
              go_wp2_with (go_at_call 71; refine (HEQ1.out _).mono ?_)
              go_roundg (n - (k + 1))
              case measure => omega
              case rel => exact ⟨k + 1, x1 + 1, by omega, Nat.le_refl _, by omega, by go_num, Lib.hid ⟨HST1.out.1, HST1.out.2, by rw [show ((k + 1 : Nat) : Int) - 1 = (k : Int) by omega]; exact H5.out.1, H5.out.2⟩⟩
            · have HEQ1 : Hid (∀ wx, Calls Try.prog 71 #[.int .u64 (y1 : Int), .int .u64 (x2 : Int)] wx fun e w' => e = .returned (.bool false) ∧ w' = wx) := Lib.hid (fun wx => by have := HEQ.out wx; rw [decide_eq_false hye] at this; exact this)
              have HRF := Lib.hid (HNE.out hye)
              clear HEQ HST HNE hye hy1
              go_wp2_with (go_at_call 71; refine (HEQ1.out _).mono ?_)
              go_ret
              exact ⟨by rw [HRF.out]; rfl, HFIN.out _ H5.out.2⟩
      · have hsx2 : ¬ (s : Int) < (x1 : Int) := by omega
        obtain ⟨y1, hy1⟩ : ∃ y, ws.getD x1 0 = y := ⟨_, rfl⟩
        rw [hy1] at t1 HEQ
        have HYZ : Hid (wf ws x1 = y1) := Lib.hid hy1
        rw [HYZ.out] at HNE HST
        by_cases hye : y1 = x2
        · have HEQ1 : Hid (∀ wx, Calls Try.prog 71 #[.int .u64 (y1 : Int), .int .u64 (x2 : Int)] wx fun e w' => e = .returned (.bool true) ∧ w' = wx) := Lib.hid (fun wx => by have := HEQ.out wx; rw [decide_eq_true hye] at this; exact this)
          have HST1 := Lib.hid (HST.out (fun i g1 g2 => absurd g1 (by omega)) hye)
          clear HEQ HST HNE hye hy1
          go_wp2_with (go_at_call 71; refine (HEQ1.out _).mono ?_)
          rintro e w6 ⟨rfl, rfl⟩
          go_wp2_with fail
          go_roundg (n - (k + 1))
          case measure => omega
          case rel => exact ⟨k + 1, x1 + 1, by omega, Nat.le_refl _, by omega, by go_num, Lib.hid ⟨HST1.out.1, HST1.out.2, by rw [show ((k + 1 : Nat) : Int) - 1 = (k : Int) by omega]; exact H5.out.1, H5.out.2⟩⟩
        · have HEQ1 : Hid (∀ wx, Calls Try.prog 71 #[.int .u64 (y1 : Int), .int .u64 (x2 : Int)] wx fun e w' => e = .returned (.bool false) ∧ w' = wx) := Lib.hid (fun wx => by have := HEQ.out wx; rw [decide_eq_false hye] at this; exact this)
          have HRF := Lib.hid (HNE.out hye)
          clear HEQ HST HNE hye hy1
          go_wp2_with (go_at_call 71; refine (HEQ1.out _).mono ?_)
          rintro e w6 ⟨rfl, rfl⟩
          go_wp2_with fail
          go_ret
          exact ⟨by rw [HRF.out]; rfl, HFIN.out _ H5.out.2⟩
    · have HN1 := Lib.hid (HNX.out false (by simp [hkn]))
      obtain rfl : k = n := by omega
      have HIX := Lib.hid (indexW hi (by unfold Lt64; omega))
      have HE1 : Hid (hi / 64 < s → r = true) := Lib.hid (fun h => HT.out (eqi_end HI.out.1 (by have := HN.out; omega) HHB.out HOK.out h))
      have HE2 : Hid (s ≤ hi / 64 → r = false) := Lib.hid (fun h => HF.out _ (eqi_more HI.out.1 (by have := HN.out; omega) HHB.out h))
      clear HNX
      go_wp2_with (go_at_call 127; refine HN1.out.mono ?_)
      rintro e w4 ⟨rfl, ha4, ho4⟩
      have H4 := Lib.hid (And.intro ha4 ho4)
      obtain ⟨b3, ha3, _, _, e0, _, e2, _, _, hc3, _⟩ := (H1K.out w4 ho4).facts
      clear ha4 ho4 HN1 hc3 e0 ha3
      go_wp2_with (go_at_call 33; refine (HIX.out w4).mono ?_)
      rintro e w5 ⟨rfl, rfl⟩
      generalize hi / 64 = hx at *
      by_cases hc : s ≤ hx
      · have hc' : (s : Int) ≤ (hx : Int) := by omega
        go_wp2_with fail
        go_ret
        exact ⟨by rw [HE2.out hc]; rfl, HFIN.out _ H4.out.2⟩
      · have hc' : ¬ (s : Int) ≤ (hx : Int) := by omega
        have HE1' := Lib.hid (HE1.out (by omega))
        go_wp2_with fail
        go_ret
        exact ⟨by rw [HE1'.out]; rfl, HFIN.out _ H4.out.2⟩
end
end Go.Proofs.Ytacjkbljokjdkaa.ba
namespace Go.Proofs.Ytacjkbljokjdkaa.ba
open Go.RowKit Go.Proofs.Ytacjkbljokjdkaa.base Go.Proofs.Ytacjkbljokjdkaa.heap Go.Proofs.Ytacjkbljokjdkaa.rows Go.Proofs.Ytacjkbljokjdkaa.bit Go.Proofs.Ytacjkbljokjdkaa.bs
set_option linter.unusedVariables false
theorem eqs_skip {ws : List Nat} {Q : List (Nat × Nat)} (hQ : Good Q) {k j : Nat} (hI : EqI ws Q k j) (h0 : wf ws j = 0) : EqI ws Q k (j + 1) := by
  refine ⟨fun i hi => ?_, fun x hx => by have := hI.2 x hx; omega⟩
  rcases Nat.lt_or_ge i j with h | h
  · exact hI.1 i h
  · obtain rfl : i = j := by omega
    rw [h0, wd_zero (fun y hy e => by have := hI.2 y hy; omega)]
theorem eqs_take {ws : List Nat} {Q : List (Nat × Nat)} (hQ : Good Q) {k j : Nat} {x : Nat × Nat} (hI : EqI ws Q k j) (hx : Q[k]? = some x) (hj : x.1 = j) (he : wf ws j = x.2) : EqI ws Q (k + 1) (j + 1) := by
  subst hj
  exact eqi_step hQ hI hx (Nat.le_refl _) (fun i g1 g2 => absurd g1 (by omega)) he
/-- the dense word is not among the sparse ones -/
theorem eqs_over {ws : List Nat} {Q : List (Nat × Nat)} (hQ : Good Q) {k j : Nat} (hI : EqI ws Q k j) (hk : Q.length ≤ k) {i : Nat} (hi : j ≤ i) : wd Q i = 0 := by
  have hT : Q.take k = Q := List.take_of_length_le hk
  unfold EqI at hI
  rw [hT] at hI
  exact wd_zero (fun y hy e => by have := hI.2 y hy; omega)
theorem eqs_less {ws : List Nat} {Q : List (Nat × Nat)} (hQ : Good Q) {k j : Nat} {x : Nat × Nat} (hI : EqI ws Q k j) (hx : Q[k]? = some x) (hj : j < x.1) : wd Q j = 0 := eqi_wd hQ hI hx (Nat.le_refl _) hj
/-- the sparse word is not among the dense ones -/
theorem eqs_more {ws : List Nat} {Q : List (Nat × Nat)} (hQ : Good Q) {k j : Nat} {x : Nat × Nat} (hI : EqI ws Q k j) (hx : Q[k]? = some x) (hj : x.1 < j) : wf ws x.1 ≠ wd Q x.1 := by
  rw [hI.1 _ hj]
  rw [wd_mem hQ.1 (j := x.1) (b := x.2) (List.mem_of_getElem? hx)]
  rw [wd_zero (fun y hy e => ?_)]
  · exact fun h => (hQ.2 x (List.mem_of_getElem? hx)).2.1 h.symm
  · obtain ⟨t, ht⟩ := List.mem_iff_getElem?.1 hy
    have htk : t < k := by have := (List.getElem?_eq_some_iff.1 ht).1; rw [List.length_take] at this; omega
    rw [List.getElem?_take, if_pos htk] at ht
    have := Asc.get hQ.1 htk (x := y.1) (y := x.1) (by rw [List.getElem?_map, ht]; rfl) (by rw [List.getElem?_map, hx]; rfl)
    omega
/-- all the dense words are passed: as many bits make the sparse ones equal -/
theorem eqs_end {ws l1 l2 : List Nat} {Q : List (Nat × Nat)} (hQ : Good Q) {k j hi : Nat} (hI : EqI ws Q k j) (hb : HiB ws hi) (hs : hi / 64 < j) (r1 : Rep (wf ws) l1) (r2 : Rep (wd Q) l2) (hl : l1.length = l2.length) : l2 = l1 := by
  have hsub : ∀ x ∈ l1, x ∈ l2 := fun x hx => by
    have h1 := (r1.2 x).1 hx
    have h2 := hb.2 x (by unfold bit; exact h1)
    have h3 : x / 64 < j := by omega
    rw [hI.1 _ h3] at h1
    rw [r2.2]
    by_cases h0 : wd (Q.take k) (x / 64) = 0
    · rw [h0] at h1; simp at h1
    · have := List.mem_of_mem_take (wd_some h0)
      rw [wd_mem hQ.1 this]; exact h1
  have e : l1 = l2.filter (fun x => decide (x ∈ l1)) := r1.1.eq (r2.1.filter _) (fun x => by
    simp only [List.mem_filter, decide_eq_true_eq]
    exact ⟨fun h => ⟨hsub x h, h⟩, fun h => h.2⟩)
  have hlen : (l2.filter (fun x => decide (x ∈ l1))).length = l2.length := by rw [← e]; exact hl
  rw [List.length_filter_eq_length_iff] at hlen
  have := List.filter_eq_self.2 hlen
  rw [← e] at this
  exact this.symm
/-- all words below the first set bit are 0 -/
theorem eqs_start {ws : List Nat} {Q : List (Nat × Nat)} {lo : Nat} (hb : LoB ws lo) (hok : ∀ j, Lt64 (wf ws j)) : EqI ws Q 0 (lo / 64) := by
  refine ⟨fun i hi => ?_, by simp⟩
  show wf ws i = 0
  apply Nat.eq_of_testBit_eq
  intro t
  rw [Nat.zero_testBit]
  rcases Nat.lt_or_ge t 64 with ht | ht
  · cases hc : (wf ws i).testBit t with
    | false => rfl
    | true =>
      have := hb.2 (64 * i + t) (by unfold bit; rw [show (64 * i + t) / 64 = i by omega, show (64 * i + t) % 64 = t by omega]; exact hc)
      omega
  · have hx := hok i
    rw [lt64_iff] at hx
    exact Nat.testBit_lt_two_pow (Nat.lt_of_lt_of_le hx (Nat.pow_le_pow_right (by omega) ht))
/-- the last word is not 0 -/
theorem hi_nz {ws : List Nat} {hi : Nat} (hb : HiB ws hi) : wf ws (hi / 64) ≠ 0 := by
  intro h0
  have : (wf ws (hi / 64)).testBit (hi % 64) = true := hb.1
  rw [h0] at this; simp at this
section
variable {w : World} {p1 c1 lo hi p2 cb2 ci2 : Nat} {a1 ab2 ai2 : Option Addr} {ws l1 l2 : List Nat} {any : Bool} {Q : List (Nat × Nat)}
set_option maxRecDepth 100000 in
set_option maxHeartbeats 3200000 in
theorem equalsSD (h2 : Sp w p2 ab2 cb2 ai2 ci2 Q) (h1 : Dn w p1 a1 c1 ws lo hi any) (he : Ends ws lo hi any) (r1 : Rep (wf ws) l1) (r2 : Rep (wd Q) l2) (hl : l1.length = l2.length) (hn1 : l1 ≠ []) (hn2 : Q ≠ []) :
    Calls Try.prog 98 #[.pointer (some ⟨p2, 0, none⟩), .iface 85 (.pointer (some ⟨p1, 0, none⟩))] w (FV w (.bool (decide (l2 = l1)))) := by
  have hany : any = true := by
    have := any_set r1 he
    cases any with
    | true => rfl
    | false => cases l1 with
      | nil => exact absurd rfl hn1
      | cons x l => cases this
  have HHB := Lib.hid (he.2.2.2 hany).2
  have HLB := Lib.hid (he.2.2.2 hany).1
  have hhi := he.2.1
  have hlh := he.1
  have HGQ := Lib.hid h2.good
  have HOK := Lib.hid (fun j => h1.ok.at j)
  obtain ⟨r, HR⟩ : ∃ r, Hid (decide (l2 = l1) = r) := ⟨_, Lib.hid rfl⟩
  have HF : Hid (∀ i, wf ws i ≠ wd Q i → r = false) := Lib.hid (fun i hi => by
    rw [← HR.out, decide_eq_false_iff_not, eq_comm, eq_words HOK.out r1 HGQ.out r2]
    exact fun h => hi (h i))
  have HT : Hid (∀ k j, EqI ws Q k j → hi / 64 < j → r = true) := Lib.hid (fun k j hI hj => by
    rw [← HR.out, decide_eq_true_iff]
    exact eqs_end HGQ.out hI HHB.out hj r1 r2 hl)
  rw [HR.out]
  have hlt : hi < 64 * ws.length := by
    rcases Nat.lt_or_ge hi (64 * ws.length) with h | h
    · exact h
    · exact absurd (by have := List.getElem?_eq_none (l := ws) (i := hi / 64) (by omega); show ws.getD (hi / 64) 0 = 0; rw [List.getD_eq_getElem?_getD, this]; rfl) (hi_nz HHB.out)
  have HC : Hid (∀ wx, Same w wx → Calls Try.prog 52 #[.pointer (some ⟨p1, 0, none⟩)] wx fun e w' => e = .returned (.int .u64 ((64 * ws.length : Nat) : Int)) ∧ Same w w') := Lib.hid (fun wx hS => (capD (h1.still hS)).mono fun e w' h => ⟨h.1, by rw [h.2]; exact hS⟩)
  have HB : Hid (∀ wx, Same w wx → Calls Try.prog 51 #[.pointer (some ⟨p1, 0, none⟩)] wx fun e w' => e = .returned (.iface 118 (.pointer (some ⟨wx.heap.size, 0, none⟩))) ∧ w' = wx.alloc (dObj (((lo / 64 : Nat) : Int) - 1) (hi / 64) p1)) := Lib.hid (fun wx hS => blocksD (h1.still hS) hlh hhi)
  have hcp' : (((64 * ws.length : Nat) : Int) == 0) = false := by rw [beq_eq_false_iff_ne]; omega
  have hjh : hi / 64 < ws.length := by omega
  have hj0 : lo / 64 ≤ hi / 64 := Nat.div_le_div_right hlh
  clear hlt hhi hlh
  generalize 64 * ws.length = cq at *
  have H1 := Lib.hid h1
  have H2 := Lib.hid h2
  have hq1 := h2.sm
  have hws := h1.sm
  obtain ⟨n, HN⟩ : ∃ n, Hid (Q.length = n) := ⟨_, Lib.hid rfl⟩
  obtain ⟨nw, HNW⟩ : ∃ nw, Hid (ws.length = nw) := ⟨_, Lib.hid rfl⟩
  rw [HN.out] at hq1
  rw [HNW.out] at hws hjh
  have hn0 : ((n : Int) == 0) = false := by
    have hz : Q.length ≠ 0 := fun h => hn2 (List.eq_nil_of_length_eq_zero h)
    rw [beq_eq_false_iff_ne]; have := HN.out; omega
  have HOV : Hid (∀ k j, EqI ws Q k j → n ≤ k → j ≤ hi / 64 → r = false) := Lib.hid (fun k j hI hk hj => HF.out (hi / 64) (by rw [eqs_over HGQ.out hI (by have := HN.out; omega) hj]; exact hi_nz HHB.out))
  have HST : Hid (EqI ws Q 0 (lo / 64)) := Lib.hid (eqs_start HLB.out HOK.out)
  have hm1 : ∀ wx, (method 255 85 (.pointer (some ⟨p1, 0, none⟩)) "Capacity").run Try.prog wx = .ok (52, .pointer (some ⟨p1, 0, none⟩)) wx := by intro wx; kernel_rfl
  have hm2 : ∀ wx, (method 255 85 (.pointer (some ⟨p1, 0, none⟩)) "Blocks").run Try.prog wx = .ok (51, .pointer (some ⟨p1, 0, none⟩)) wx := by intro wx; kernel_rfl
  generalize lo / 64 = j0 at *
  generalize hi / 64 = t at *
  clear h1 h2 he r1 r2 hl hn1 hn2 HR hany HLB HHB
  go_enter Try.func98, Try.ntmps98
  go_wp2_with (go_at_call 52; refine (HC.out _ (Only.refl _ _)).mono ?_)
  rintro e w2 ⟨rfl, hS⟩
  have HS2 := Lib.hid hS
  clear hS
  go_wp2_with (go_at_call 51; refine (HB.out _ HS2.out).mono ?_)
  rintro e w3 ⟨rfl, hw3⟩
  obtain ⟨g, hg⟩ : ∃ g, w2.heap.size = g := ⟨_, rfl⟩
  rw [hg]
  have HG : Hid (w.heap.size ≤ g ∧ Same w w3 ∧ w3.heap[g]? = some (dObj ((j0 : Int) - 1) t p1)) := Lib.hid (by
    have h1 := HS2.out.size
    rw [hw3]
    refine ⟨by omega, Same.trans HS2.out ((Only.refl _ _).alloc _), ?_⟩
    rw [← hg]
    exact heap_alloc_new _ _)
  clear hw3 hg HC HB
  have hm3 : ∀ wx, (method 255 118 (.pointer (some ⟨g, 0, none⟩)) "Next").run Try.prog wx = .ok (124, .pointer (some ⟨g, 0, none⟩)) wx := by intro wx; kernel_rfl
  have hm4 : ∀ wx, (method 255 118 (.pointer (some ⟨g, 0, none⟩)) "Value").run Try.prog wx = .ok (125, .pointer (some ⟨g, 0, none⟩)) wx := by intro wx; kernel_rfl
  have HFIN : Hid (∀ wr, Only (fun k => k = g) w3 wr → Same w wr) := Lib.hid (fun wr ho => new_only HG.out.2.1 ho (fun j hf => by have := HG.out.1; omega))
  have H1K : Hid (∀ wr, Only (fun k => k = g) w3 wr → Dn wr p1 a1 c1 ws lo hi any) := Lib.hid (fun wr ho => (H1.out.still HG.out.2.1).keep ho (fun k hk e => by have := H1.out.lt k hk; have := HG.out.1; omega))
  have H2K : Hid (∀ wr, Only (fun k => k = g) w3 wr → Sp wr p2 ab2 cb2 ai2 ci2 Q) := Lib.hid (fun wr ho => (H2.out.still HG.out.2.1).keep ho (fun k hk e => by have := H2.out.lt k hk; have := HG.out.1; omega))
  go_wp2_with fail
  go_loopg [5] (t + 1) (fun kx s5 wr => ∃ (k j : Nat), k ≤ n ∧ j ≤ t + 1 ∧ t + 1 - j ≤ kx ∧ s5 = .int .u64 (k : Int) ∧ Hid (EqI ws Q k j ∧ wr.heap[g]? = some (dObj ((j : Int) - 1) t p1) ∧ Only (fun j => j = g) w3 wr))
  case atStart => exact ⟨0, j0, Nat.zero_le _, by omega, by omega, rfl, Lib.hid ⟨HST.out, HG.out.2.2, Only.refl _ _⟩⟩
  case round =>
    obtain ⟨k, j, hk, hj, hkx, rfl, HI⟩ := hrel
    have HNX : Hid (∀ b, decide (j ≤ t) = b → Calls Try.prog 124 #[.pointer (some ⟨g, 0, none⟩)] wr fun e w' => e = .returned (.bool b) ∧ w'.heap[g]? = some (dObj j t p1) ∧ Only (fun j => j = g) w3 w') := Lib.hid (fun b hb => by
      rw [← hb]
      refine (nextD HI.out.2.1 (j := j) (by omega) (by omega) (by omega)).mono ?_
      rintro e w' ⟨h1, h2, h3⟩
      exact ⟨h1, h2, HI.out.2.2.trans h3 (fun _ _ => id)⟩)
    by_cases hjt : j ≤ t
    · have HN1 := Lib.hid (HNX.out true (by simp [hjt]))
      have HV : Hid (∀ wx, wx.heap[g]? = some (dObj j t p1) → Only (fun j => j = g) w3 wx → Calls Try.prog 125 #[.pointer (some ⟨g, 0, none⟩)] wx fun e w' => e = .returned (.tuple #[.int .u64 (j : Int), .int .u64 ((wf ws j : Nat) : Int)]) ∧ w'.heap[g]? = some (dObj j t p1) ∧ Only (fun j => j = g) w3 w') := Lib.hid (fun wx ha ho => (valueD ha (H1K.out wx ho) (by have := HNW.out; omega)).mono fun e w' h => ⟨h.1, h.2.obj ha id, ho.trans h.2 (fun _ _ hf => hf.elim)⟩)
      obtain ⟨y, hy⟩ : ∃ y, wf ws j = y := ⟨_, rfl⟩
      rw [hy] at HV
      have HY := Lib.hid hy
      clear HNX hy
      go_wp2_with (go_at_call 124; refine HN1.out.mono ?_)
      rintro e w4 ⟨rfl, ha4, ho4⟩
      have H4 := Lib.hid (And.intro ha4 ho4)
      clear ha4 ho4 HN1
      go_wp2_with (go_at_call 125; refine (HV.out _ H4.out.1 H4.out.2).mono ?_)
      rintro e w5 ⟨rfl, ha5, ho5⟩
      have H5 := Lib.hid (And.intro ha5 ho5)
      have hsp := H2K.out w5 ho5
      have g0 := hsp.c0
      have g1 := hsp.c1
      rw [HN.out] at g0 g1
      clear ha5 ho5 HV H4
      by_cases hkn : k < n
      · have hkn' : (k : Int) < (n : Int) := by omega
        have hkn2 : ¬ (n : Int) ≤ (k : Int) := by omega
        have hk0 : (0 : Int) ≤ (k : Int) := by omega
        have hw1 : IntKind.u64.wrap ((k : Int) + 1) = ((k + 1 : Nat) : Int) := by rw [IntKind.wrap_u64]; omega
        have hw2 : IntKind.u64.wrap (n : Int) = (n : Int) := by rw [IntKind.wrap_u64]; omega
        obtain ⟨x, hx⟩ : ∃ x, Q[k]? = some x := ⟨Q[k]'(by have := HN.out; omega), List.getElem?_eq_getElem _⟩
        obtain ⟨bb, ii, q1, q2, hc⟩ := hsp.at (by have := HN.out; omega)
        have f2 := (hc k x hx).1
        have f1 := (hc k x hx).2
        have HX := Lib.hid hx
        have HLT : Hid (j < x.1 → y ≠ 0 → r = false) := Lib.hid (fun h1 h2 => HF.out j (by rw [eqs_less HGQ.out HI.out.1 HX.out h1, HY.out]; exact h2))
        have HGT : Hid (x.1 < j → r = false) := Lib.hid (fun h1 => HF.out x.1 (eqs_more HGQ.out HI.out.1 HX.out h1))
        have HNE : Hid (x.1 = j → x.2 ≠ y → r = false) := Lib.hid (fun h1 h2 => HF.out j (by rw [HY.out, ← h1, wd_mem HGQ.out.1 (j := x.1) (b := x.2) (List.mem_of_getElem? HX.out)]; exact fun h => h2 h.symm))
        have HSK : Hid (y = 0 → EqI ws Q k (j + 1)) := Lib.hid (fun h => eqs_skip HGQ.out HI.out.1 (by rw [HY.out]; exact h))
        have HTK : Hid (x.1 = j → x.2 = y → EqI ws Q (k + 1) (j + 1)) := Lib.hid (fun h1 h2 => eqs_take HGQ.out HI.out.1 HX.out h1 (by rw [HY.out]; exact h2.symm))
        have HEQ := Lib.hid (fun wx => equalsW x.2 y wx)
        generalize x.1 = x1 at *
        generalize x.2 = x2 at *
        subst q1
        subst q2
        clear hsp hc hx
        have HNXT : Hid (∀ k', EqI ws Q k' (j + 1) → EqI ws Q k' (j + 1) ∧ w5.heap[g]? = some (dObj (((j + 1 : Nat) : Int) - 1) t p1) ∧ Only (fun j => j = g) w3 w5) := Lib.hid (fun k' h => ⟨h, by rw [show ((j + 1 : Nat) : Int) - 1 = (j : Int) by omega]; exact H5.out.1, H5.out.2⟩)
        rcases Nat.lt_trichotomy j x1 with hlt | heq | hgt
        · have hlt' : (j : Int) < (x1 : Int) := by omega
          by_cases hy0 : y = 0
          · have hy' : ¬ (0 : Int) < (y : Int) := by omega
            have HE := Lib.hid (HNXT.out _ (HSK.out hy0))
            go_wp2_with fail
            go_roundg (t + 1 - (j + 1))
            case measure => omega
            case rel => exact ⟨k, j + 1, by omega, by omega, Nat.le_refl _, rfl, HE⟩
          · have hy' : (0 : Int) < (y : Int) := by omega
            have HRF := Lib.hid (HLT.out hlt hy0)
            go_wp2_with fail
            go_ret
            exact ⟨by rw [HRF.out]; rfl, HFIN.out _ H5.out.2⟩
        · have hlt' : ¬ (j : Int) < (x1 : Int) := by omega
          have hgt' : ¬ (x1 : Int) < (j : Int) := by omega
          by_cases hye : x2 = y
          · have HEQ1 : Hid (∀ wx, Calls Try.prog 71 #[.int .u64 (x2 : Int), .int .u64 (y : Int)] wx fun e w' => e = .returned (.bool true) ∧ w' = wx) := Lib.hid (fun wx => by have := HEQ.out wx; rw [decide_eq_true hye] at this; exact this)
            have HE := Lib.hid (HNXT.out _ (HTK.out heq.symm hye))
            clear HEQ hye heq
            go_wp2_with (go_at_call 71; refine (HEQ1.out _).mono ?_)
            rintro e w6 ⟨rfl, rfl⟩
            go_wp2_with fail
            go_roundg (t + 1 - (j + 1))
            case measure => omega
            case rel => exact ⟨k + 1, j + 1, by omega, by omega, Nat.le_refl _, by go_num, HE⟩
          · have HEQ1 : Hid (∀ wx, Calls Try.prog 71 #[.int .u64 (x2 : Int), .int .u64 (y : Int)] wx fun e w' => e = .returned (.bool false) ∧ w' = wx) := Lib.hid (fun wx => by have := HEQ.out wx; rw [decide_eq_false hye] at this; exact this)
            have HRF := Lib.hid (HNE.out heq.symm hye)
            clear HEQ hye heq
            go_wp2_with (go_at_call 71; refine (HEQ1.out _).mono ?_)
            rintro e w6 ⟨rfl, rfl⟩
            go_wp2_with fail
            go_ret
            exact ⟨by rw [HRF.out]; rfl, HFIN.out _ H5.out.2⟩
        · have hlt' : ¬ (j : Int) < (x1 : Int) := by omega
          have hgt' : (x1 : Int) < (j : Int) := by omega
          have HRF := Lib.hid (HGT.out hgt)
          go_wp2_with fail
          go_ret
          exact ⟨by rw [HRF.out]; rfl, HFIN.out _ H5.out.2⟩
      · have hkn2 : (n : Int) ≤ (k : Int) := by omega
        have hw2 : IntKind.u64.wrap (n : Int) = (n : Int) := by rw [IntKind.wrap_u64]; omega
        have HRF := Lib.hid (HOV.out k j HI.out.1 (by omega) hjt)
        clear hsp
        go_wp2_with fail
        go_ret
        exact ⟨by rw [HRF.out]; rfl, HFIN.out _ H5.out.2⟩
    · have HN1 := Lib.hid (HNX.out false (by simp [hjt]))
      have HRT := Lib.hid (HT.out k j HI.out.1 (by omega))
      clear HNX
      go_wp2_with (go_at_call 124; refine HN1.out.mono ?_)
      rintro e w4 ⟨rfl, ha4, ho4⟩
      have H4 := Lib.hid (And.intro ha4 ho4)
      go_wp2_with fail
      go_ret
      exact ⟨by rw [HRT.out]; rfl, HFIN.out _ H4.out.2⟩
end
end Go.Proofs.Ytacjkbljokjdkaa.ba
namespace Go.Proofs.Ytacjkbljokjdkaa.ba
open Go.RowKit Go.Proofs.Ytacjkbljokjdkaa.base Go.Proofs.Ytacjkbljokjdkaa.heap Go.Proofs.Ytacjkbljokjdkaa.rows Go.Proofs.Ytacjkbljokjdkaa.bit Go.Proofs.Ytacjkbljokjdkaa.bs
set_option linter.unusedVariables false
theorem pairs_ne {P : List (Nat × Nat)} (h : Good P) {l : List Nat} (hr : Rep (wd P) l) (hl : l ≠ []) : P ≠ [] := fun e => by
  have := (pairs_len h hr).2
  subst e
  exact hl this
theorem room_eq {P : List (Nat × Nat)} {l : List Nat} (hg : Good P) (hr : Rep (wd P) l) {q : Nat} (h : ∀ k ∈ l, k < 64 * q) : ∀ x ∈ P, x.1 < q := fun x hx => by
  obtain ⟨k, hk, e⟩ := pair_bit hg hr hx
  have := h k hk
  omega
theorem does_eqDS {s : List BA} {i j : Nat} {d e : BA} (hd : s[i]? = some d) (hdd : d.dense = true) (he : s[j]? = some e) (hed : e.dense = false) (hb : ∀ k ∈ e.set, k < 64 * d.words) (hn1 : d.set ≠ []) (hn2 : e.set ≠ []) : Does s { op := 7, on := i, by_ := j } s { yes := decide (d.set = e.set) } := by
  intro w q c a l h hs hl
  obtain ⟨p, ab, cb, ws, lo, hi, any, hx, h1, h2, h3, h4⟩ := dense_at hd hdd h hs
  obtain ⟨p', ab', cb', ai', ci', P', hx', h1', h2', h3'⟩ := sparse_at he hed h hs
  rw [h1] at hb
  exact (stepEquals h i j p d _ hx _ hx' _ (Lib.hid (fun wx hS => equalsDS (h2.still hS) h4 (h2'.still hS) h3 h3' (room_eq h2'.good h3' hb) hn1 (pairs_ne h2'.good h3' hn2)))).mono fun e w' hp => does_ask h hs { yes := decide (_ = _) } rfl hp
theorem does_eqSD {s : List BA} {i j : Nat} {d e : BA} (hd : s[i]? = some d) (hdd : d.dense = true) (he : s[j]? = some e) (hed : e.dense = false) (hl : d.set.length = e.set.length) (hn1 : d.set ≠ []) : Does s { op := 7, on := j, by_ := i } s { yes := decide (d.set = e.set) } := by
  intro w q c a l h hs hll
  obtain ⟨p, ab, cb, ws, lo, hi, any, hx, h1, h2, h3, h4⟩ := dense_at hd hdd h hs
  obtain ⟨p', ab', cb', ai', ci', P', hx', h1', h2', h3'⟩ := sparse_at he hed h hs
  have hn2 : e.set ≠ [] := fun e0 => hn1 (List.eq_nil_of_length_eq_zero (by rw [hl, e0]; rfl))
  have e0 : decide (d.set = e.set) = decide (e.set = d.set) := by rw [decide_eq_decide]; exact eq_comm
  rw [e0]
  exact (stepEqualsS h j i p' e _ hx' _ hx _ (Lib.hid (fun wx hS => equalsSD (h2'.still hS) (h2.still hS) h4 h3 h3' hl hn1 (pairs_ne h2'.good h3' hn2)))).mono fun e w' hp => does_ask h hs { yes := decide (_ = _) } rfl hp
/-- the run of a law that asks in either order -/
theorem runs_ask2 {x y : Bool} {op m1 q1 m2 q2 : Nat} {L1 L2 : List Nat} {b : Bool} (g1 : MadeG x m1 q1) (g2 : MadeG y m2 q2) (hL1 : L1.length ≤ 40) (hL2 : L2.length ≤ 40)
    (h : Does [⟨x, q1, madeS x q1 L1⟩, ⟨y, q2, madeS y q2 L2⟩] { op := op, on := 0, by_ := 1 } [⟨x, q1, madeS x q1 L1⟩, ⟨y, q2, madeS y q2 L2⟩] { yes := b })
    (h' : Does [⟨x, q1, madeS x q1 L1⟩, ⟨y, q2, madeS y q2 L2⟩] { op := op, on := 1, by_ := 0 } [⟨x, q1, madeS x q1 L1⟩, ⟨y, q2, madeS y q2 L2⟩] { yes := b }) :
    ∃ Y, Y.length = L1.length + 1 + (L2.length + 1) ∧ Runs [] (madeT x m1 q1 0 L1 ++ madeT y m2 q2 1 L2 ++ ask2T op) (Y ++ ask2Y (madeS x q1 L1) b) := by
  obtain ⟨Y1, l1, r1⟩ := goes_made g1 [] 0 L1 rfl (by omega) hL1
  obtain ⟨Y2, l2, r2⟩ := goes_made g2 [⟨x, q1, madeS x q1 L1⟩] 1 L2 rfl (by omega) hL2
  refine ⟨Y1 ++ Y2, by rw [List.length_append, l1, l2], ?_⟩
  rw [List.append_assoc, List.append_assoc]
  refine r1.runs (r2.runs ?_)
  exact ⟨by simp, _, _, _, does_count_ (i := 0) rfl (fine_made _ _ _ hL1), rfl, by simp, _, _, _, h, rfl, by simp, _, _, _, h', rfl, rfl⟩
theorem isSame (A B : List Nat) : IsC 12 A B (decide (A = B)) := by
  intro sa sc sb scb wx h1 h2
  exact (baSameQ h1.rl h2.rl).mono fun e w' ⟨he, m, hm⟩ => ⟨he, by rw [hm]; exact (Only.refl _ _).drewN m⟩
set_option maxRecDepth 100000 in
set_option maxHeartbeats 1600000 in
theorem fitsAsMany (x y : Bool) (q1 q2 : Nat) (A B : List Nat) : FitsC 13 x y q1 q2 A B (decide (A.length = B.length) && decide (0 < A.length)) := by
  intro sa sc sb scb wx h1 h2
  have b1 := h1.bound
  have b2 := h2.bound
  have e1 : decide (A.length = B.length) = decide ((A.length : Int) = (B.length : Int)) := by rw [decide_eq_decide]; omega
  have e2 : decide (0 < A.length) = decide ((0 : Int) < (A.length : Int)) := by rw [decide_eq_decide]; omega
  rw [e1, e2]
  have HS : Hid (∀ X Y : Obj, Same wx ((wx.alloc X).alloc Y)) := Lib.hid (fun X Y => ((Only.refl _ _).alloc _).alloc _)
  obtain ⟨j1, HJ1⟩ : ∃ j, Hid (A.length = j) := ⟨_, Lib.hid rfl⟩
  obtain ⟨j2, HJ2⟩ : ∃ j, Hid (B.length = j) := ⟨_, Lib.hid rfl⟩
  rw [HJ1.out] at b1
  rw [HJ2.out] at b2
  rw [HJ1.out, HJ2.out]
  clear h1 h2 e1 e2
  by_cases hj : j1 = j2
  · subst hj
    have hd : decide ((j1 : Int) = (j1 : Int)) = true := by simp
    rw [hd, Bool.true_and]
    unfold bav
    go_enter Try.func13, Try.ntmps13
    go_wp2_with fail
    go_ret
    exact ⟨rfl, HS.out _ _⟩
  · have hd : decide ((j1 : Int) = (j2 : Int)) = false := by rw [decide_eq_false_iff_not]; omega
    have hne : ((j1 : Int) == (j2 : Int)) = false := by rw [beq_eq_false_iff_ne]; omega
    rw [hd, Bool.false_and]
    unfold bav
    go_enter Try.func13, Try.ntmps13
    go_wp2_with fail
    go_ret
    exact ⟨rfl, HS.out _ _⟩
end Go.Proofs.Ytacjkbljokjdkaa.ba
