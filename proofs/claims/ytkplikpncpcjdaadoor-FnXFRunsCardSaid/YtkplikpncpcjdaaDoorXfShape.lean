/-
  The shape of an x-fast trie: its nodes in memory, what holds of their threads; the successor of a key.
-/
import Derived.Test.YtkplikpncpcjdaaDoorXfFind
import Derived.Deep.CutBlock
import Derived.Deep.DeepCutAuto
namespace Go.Proofs.YtkplikpncpcjdaaDoor.xf
open Go.RowKit Go.Proofs.YtkplikpncpcjdaaDoor.base Go.Proofs.YtkplikpncpcjdaaDoor.heap Go.Proofs.YtkplikpncpcjdaaDoor.rows Go.Proofs.YtkplikpncpcjdaaDoor.mapn
set_option linter.unusedVariables false

/-- which nodes there are (by depth and prefix), their children, the leaves' numbers -/
structure Sh where
  m : Nat
  lk : Lk
  ch : Nat → Nat → Nat → Option Nat
  ent : Nat → Int
namespace Sh
variable (S : Sh)
/-- there is an entry with a key -/
def K (k : Nat) : Prop := S.lk S.m k ≠ none
def entv (d p : Nat) : Value := if d = S.m then item p (S.ent p) else .nilIface
def par : Nat → Nat → Option Nat
  | 0, _ => none
  | d + 1, p => S.lk d (p / 2)
/-- there is a greater one; a lesser one -/
def More (k : Nat) : Prop := ∃ k', S.K k' ∧ k < k'
def Less (k : Nat) : Prop := ∃ k', S.K k' ∧ k' < k
/-- a child on the left, on the right of an inner node -/
def Ch0 (d p : Nat) (c : Option Nat) : Prop :=
  (d + 1 < S.m ∧ S.lk (d + 1) (2 * p) ≠ none ∧ c = S.lk (d + 1) (2 * p)) ∨
  (¬ (d + 1 < S.m ∧ S.lk (d + 1) (2 * p) ≠ none) ∧ ((c = none ∧ S.lk (d + 1) (2 * p) = none ∧ ∀ k, S.K k → p * 2 ^ (S.m - d) ≤ k) ∨ ∃ k, S.K k ∧ c = S.lk S.m k ∧ (S.More k ∨ d + 1 = S.m ∧ k = 2 * p)))
def Ch1 (d p : Nat) (c : Option Nat) : Prop :=
  (d + 1 < S.m ∧ S.lk (d + 1) (2 * p + 1) ≠ none ∧ c = S.lk (d + 1) (2 * p + 1)) ∨
  (¬ (d + 1 < S.m ∧ S.lk (d + 1) (2 * p + 1) ≠ none) ∧ ((c = none ∧ S.lk (d + 1) (2 * p + 1) = none ∧ ∀ k, S.K k → k < (p + 1) * 2 ^ (S.m - d)) ∨ ∃ k, S.K k ∧ c = S.lk S.m k ∧ (S.Less k ∨ d + 1 = S.m ∧ k = 2 * p + 1)))
/-- a leaf's neighbours -/
def Lf0 (k : Nat) (c : Option Nat) : Prop := (c = none ∧ ¬ S.Less k) ∨ (S.Less k ∧ ∃ k', S.K k' ∧ c = S.lk S.m k' ∧ S.More k')
def Lf1 (k : Nat) (c : Option Nat) : Prop := (c = none ∧ ¬ S.More k) ∨ (S.More k ∧ ∃ k', S.K k' ∧ c = S.lk S.m k' ∧ S.Less k')
/-- what holds of a trie (its keys are not in order along the leaves: that is not asked) -/
structure Ok : Prop where
  m2 : 2 ≤ S.m ∧ S.m ≤ 64
  tree : Tree S.m S.lk
  root : ∃ r, S.lk 0 0 = some r
  rng : ∀ d p, d ≤ S.m → S.lk d p ≠ none → p < 2 ^ d
  sub : ∀ d p, d ≤ S.m → S.lk d p ≠ none → d = 0 ∨ ∃ k, S.K k ∧ pre S.m d k = p
  inj : ∀ d p d' p' b, d ≤ S.m → d' ≤ S.m → S.lk d p = some b → S.lk d' p' = some b → d = d' ∧ p = p'
  in0 : ∀ d p, d < S.m → S.lk d p ≠ none → S.Ch0 d p (S.ch d p 0)
  in1 : ∀ d p, d < S.m → S.lk d p ≠ none → S.Ch1 d p (S.ch d p 1)
  lf0 : ∀ k, S.K k → S.Lf0 k (S.ch S.m k 0)
  lf1 : ∀ k, S.K k → S.Lf1 k (S.ch S.m k 1)
end Sh
/-- the nodes in memory -/
def Mem (w : World) (S : Sh) : Prop := ∀ d p b, d ≤ S.m → S.lk d p = some b → Nd w b (S.entv d p) (S.ch d p 0) (S.ch d p 1) (S.par d p)
theorem Mem.still {w w' : World} {S : Sh} (h : Mem w S) (ho : Same w w') : Mem w' S := fun d p b hd hb => (h d p b hd hb).still ho
theorem Mem.keep {w w' : World} {S : Sh} {T : Nat → Prop} (h : Mem w S) (ho : Only T w w') (hn : ∀ d p b, d ≤ S.m → S.lk d p = some b → ¬ T b) : Mem w' S := fun d p b hd hb => (h d p b hd hb).keep ho (hn d p b hd hb)
theorem Mem.inner {w : World} {S : Sh} (h : Mem w S) {d p b : Nat} (hd : d < S.m) (hb : S.lk d p = some b) : Nd w b .nilIface (S.ch d p 0) (S.ch d p 1) (S.par d p) := by
  have := h d p b (by omega) hb
  unfold Sh.entv at this
  rwa [if_neg (by omega)] at this
theorem Mem.leaf {w : World} {S : Sh} (h : Mem w S) {k b : Nat} (hb : S.lk S.m k = some b) : Nd w b (item k (S.ent k)) (S.ch S.m k 0) (S.ch S.m k 1) (S.par S.m k) := by
  have := h S.m k b (Nat.le_refl _) hb
  unfold Sh.entv at this
  rwa [if_pos rfl] at this
theorem Sh.K.get {S : Sh} {k : Nat} (h : S.K k) : ∃ b, S.lk S.m k = some b := by
  unfold Sh.K at h
  cases hb : S.lk S.m k with
  | none => exact absurd hb h
  | some b => exact ⟨b, rfl⟩
/-- a key's prefixes are there -/
theorem Sh.Ok.up {S : Sh} (h : S.Ok) {k : Nat} (hk : S.K k) : ∀ d, d ≤ S.m → S.lk d (pre S.m d k) ≠ none := by
  have h2 : ∀ e d, d + e = S.m → S.lk d (pre S.m d k) ≠ none := by
    intro e
    induction e with
    | zero =>
      intro d hd
      obtain rfl : d = S.m := by omega
      rw [pre_full]; exact hk
    | succ e ih =>
      intro d hd
      have := h.tree d _ (by omega) (ih (d + 1) (by omega))
      rwa [pre_half (by omega)] at this
  intro d hd
  exact h2 (S.m - d) d (by omega)
theorem Sh.Ok.lt {S : Sh} (h : S.Ok) {k : Nat} (hk : S.K k) : k < 2 ^ S.m := h.rng S.m k (Nat.le_refl _) hk
/-- the trie's own record -/
structure TObj (w : World) (tb lb m root num : Nat) (mn mx : Option Nat) : Prop where
  obj : w.heap[tb]? = some (.cells #[.slice (some ⟨lb, 0, none⟩) m m, op (some root), .int .u64 (num : Int), .int .u8 (m : Int), .int .u8 ((64 : Int) - (m : Int)), op mn, op mx] 69 (0, 0))
/-- the least and the greatest -/
def Ends (S : Sh) (mn mx : Option Nat) : Prop := ((∀ k, ¬ S.K k) ∧ mn = none ∧ mx = none) ∨ ∃ k1 k2, S.K k1 ∧ S.K k2 ∧ (∀ k, S.K k → k1 ≤ k ∧ k ≤ k2) ∧ mn = S.lk S.m k1 ∧ mx = S.lk S.m k2
theorem methodK (k : Nat) (v : Int) (w : World) : (method 211 52 (.agg #[.int .u64 (k : Int), .int .i64 v]) "Key").run Tryd.prog w = .ok (62, .agg #[.int .u64 (k : Int), .int .i64 v]) w := by kernel_rfl
theorem nilK (k : Nat) (v : Int) (w : World) : (nilAhead 211 52 (.agg #[.int .u64 (k : Int), .int .i64 v]) "Key").run Tryd.prog w = .ok (some false) w := by kernel_rfl
section
variable {S : Sh} {D x : Nat}
/-- x is no key; its longest prefix that is there has D bits -/
structure Sh.Deep (S : Sh) (D x : Nat) : Prop where
  d : D < S.m
  lt : x < 2 ^ S.m
  ex : ∀ d, 1 ≤ d → d ≤ D → S.lk d (pre S.m d x) ≠ none
  no : S.lk (D + 1) (pre S.m (D + 1) x) = none
theorem Sh.Deep.at (h : S.Deep D x) (ho : S.Ok) : S.lk D (pre S.m D x) ≠ none := by
  rcases Nat.eq_zero_or_pos D with h0 | h0
  · subst h0
    obtain ⟨r, hr⟩ := ho.root
    rw [pre_zero h.lt, hr]; simp
  · exact h.ex D h0 (Nat.le_refl _)
theorem Sh.Deep.notK (h : S.Deep D x) (ho : S.Ok) : ¬ S.K x := fun hk => absurd h.no (ho.up hk (D + 1) (by have := h.d; omega))
theorem Sh.Deep.none' (h : S.Deep D x) (ho : S.Ok) {k : Nat} (hk : S.K k) : pre S.m (D + 1) k ≠ pre S.m (D + 1) x := fun e => by
  have := ho.up hk (D + 1) (by have := h.d; omega)
  rw [e, h.no] at this
  exact this rfl
/-- there is a key under the deepest node -/
theorem Sh.Deep.under (h : S.Deep D x) (ho : S.Ok) {k1 : Nat} (h1 : S.K k1) : ∃ k, S.K k ∧ pre S.m D k = pre S.m D x := by
  rcases ho.sub D _ (by have := h.d; omega) (h.at ho) with h0 | ⟨k, hk, hp⟩
  · subst h0
    exact ⟨k1, h1, by rw [pre_zero h.lt, pre_zero (ho.lt h1)]⟩
  · exact ⟨k, hk, hp⟩
theorem pow_split {m D : Nat} (h : D < m) : 2 ^ (m - D) = 2 * 2 ^ (m - (D + 1)) := by rw [show m - D = (m - (D + 1)) + 1 by omega, Nat.pow_succ, Nat.mul_comm]
theorem Sh.Deep.right (h : S.Deep D x) (ho : S.Ok) (hs : side S.m D x = 1) : (S.ch D (pre S.m D x) 1 = none ∧ ∀ k, S.K k → k < x) ∨ ∃ k, S.K k ∧ S.ch D (pre S.m D x) 1 = S.lk S.m k ∧ S.Less k := by
  have hp := pre_succ (k := x) h.d
  rw [hs] at hp
  have hno := h.no
  rw [hp] at hno
  rcases ho.in1 D _ h.d (h.at ho) with ⟨_, h2, _⟩ | ⟨_, ⟨h2, _, h3⟩ | ⟨k, h2, h3, h4⟩⟩
  · exact absurd hno h2
  · refine .inl ⟨h2, fun k hk => ?_⟩
    have h5 := h3 k hk
    rcases Nat.lt_or_ge k x with h6 | h6
    · exact h6
    · refine absurd ?_ (h.none' ho hk)
      have h7 := (pre_lo hp).1
      refine (pre_of ?_ ?_).trans hp.symm
      · omega
      · rw [pow_split h.d, ← Nat.mul_assoc] at h5
        have e : (2 * pre S.m D x + 1 + 1) = (pre S.m D x + 1) * 2 := by omega
        rw [e]; exact h5
  · refine .inr ⟨k, h2, h3, ?_⟩
    rcases h4 with h4 | ⟨h5, h6⟩
    · exact h4
    · exact absurd (by rw [h6, h5, pre_full, pre_full]; rw [h5, pre_full] at hp; omega) (h.none' ho h2)
theorem Sh.Deep.left (h : S.Deep D x) (ho : S.Ok) (hs : side S.m D x = 0) {k1 : Nat} (h1 : S.K k1) (h1x : k1 < x) : (∃ k, S.K k ∧ S.ch D (pre S.m D x) 0 = S.lk S.m k ∧ S.More k) ∧ ((D + 1 < S.m ∧ S.lk (D + 1) (2 * pre S.m D x + 1) ≠ none ∧ S.ch D (pre S.m D x) 1 = S.lk (D + 1) (2 * pre S.m D x + 1)) ∨ ∃ k, S.K k ∧ S.ch D (pre S.m D x) 1 = S.lk S.m k ∧ S.Less k) := by
  have hp := pre_succ (k := x) h.d
  rw [hs, Nat.add_zero] at hp
  have hno := h.no
  rw [hp] at hno
  constructor
  · rcases ho.in0 D _ h.d (h.at ho) with ⟨_, h2, _⟩ | ⟨_, ⟨h2, _, h3⟩ | ⟨k, h2, h3, h4⟩⟩
    · exact absurd hno h2
    · refine absurd ?_ (h.none' ho h1)
      have h5 := h3 k1 h1
      have h7 := (pre_lo hp).2
      refine (pre_of ?_ ?_).trans hp.symm
      · rw [pow_split h.d, ← Nat.mul_assoc, Nat.mul_comm _ 2] at h5
        exact h5
      · omega
    · refine ⟨k, h2, h3, ?_⟩
      rcases h4 with h4 | ⟨h5, h6⟩
      · exact h4
      · exact absurd (by rw [h6, h5, pre_full, pre_full]; rw [h5, pre_full] at hp; omega) (h.none' ho h2)
  · rcases ho.in1 D _ h.d (h.at ho) with h2 | ⟨_, ⟨h2, h3, _⟩ | ⟨k, h2, h3, h4⟩⟩
    · exact .inl h2
    · obtain ⟨k, hk, hkp⟩ := h.under ho h1
      have h5 := pre_succ (k := k) h.d
      have h6 := ho.up hk (D + 1) (by have := h.d; omega)
      have h8 := side_lt S.m D k
      rw [hkp] at h5
      rcases Nat.eq_zero_or_pos (side S.m D k) with h7 | h7
      · rw [h7, Nat.add_zero, ← hp] at h5
        exact absurd h5 (h.none' ho hk)
      · rw [show side S.m D k = 1 by omega] at h5
        rw [h5, h3] at h6
        exact absurd rfl h6
    · refine .inr ⟨k, h2, h3, ?_⟩
      rcases h4 with h4 | ⟨h5, h6⟩
      · exact h4
      · refine ⟨k1, h1, ?_⟩
        rw [h5, pre_full] at hp
        omega
theorem Sh.Ok.next (ho : S.Ok) {k : Nat} (hk : S.K k) (hm : S.More k) : ∃ k', S.K k' ∧ S.ch S.m k 1 = S.lk S.m k' ∧ S.Less k' := by
  rcases ho.lf1 k hk with ⟨_, h⟩ | ⟨_, h⟩
  · exact absurd hm h
  · exact h
theorem Sh.Ok.prev (ho : S.Ok) {k : Nat} (hk : S.K k) (hm : S.Less k) : ∃ k', S.K k' ∧ S.ch S.m k 0 = S.lk S.m k' ∧ S.More k' := by
  rcases ho.lf0 k hk with ⟨_, h⟩ | ⟨_, h⟩
  · exact absurd hm h
  · exact h
end
/-- said of successor -/
def SuP (S : Sh) (x : Nat) (w : World) (e : Ending) (w' : World) : Prop :=
  ∃ r, e = .returned (op r) ∧ Same w w' ∧ ((r = none ∧ ∀ k, S.K k → k < x) ∨ ∃ k, S.K k ∧ r = S.lk S.m k ∧ S.Less k ∧ ∃ k', S.K k' ∧ x < k')
set_option maxRecDepth 100000 in
set_option maxHeartbeats 3200000 in
theorem succ_none (w : World) (S : Sh) (tb lb root num : Nat) (x : Nat) (h : TObj w tb lb S.m root num none none) (hK : ∀ k, ¬ S.K k) :
    Calls Tryd.prog 36 #[op (some tb), .int .u64 (x : Int)] w (SuP S x w) := by
  have t1 : w.cell? ⟨tb, 1, none⟩ = some (.pointer (some ⟨root, 0, none⟩)) := block_cell h.obj rfl
  have t5 : w.cell? ⟨tb, 5, none⟩ = some (.pointer none) := block_cell h.obj rfl
  have lt := lt_of_heap h.obj
  have HK := Lib.hid hK
  clear h hK
  show Calls Tryd.prog 36 #[.pointer (some ⟨tb, 0, none⟩), .int .u64 (x : Int)] w _
  go_enter Tryd.func36, Tryd.ntmps36
  go_wp2_with fail
  go_ret
  exact ⟨none, rfl, Only.refl _ _, .inl ⟨rfl, fun k hk => absurd hk (HK.out k)⟩⟩
set_option maxRecDepth 100000 in
set_option maxHeartbeats 3200000 in
theorem pred_none (w : World) (S : Sh) (tb lb root num : Nat) (x : Nat) (h : TObj w tb lb S.m root num none none) :
    Calls Tryd.prog 37 #[op (some tb), .int .u64 (x : Int)] w fun e w' => e = .returned (.pointer none) ∧ w = w' := by
  have t1 : w.cell? ⟨tb, 1, none⟩ = some (.pointer (some ⟨root, 0, none⟩)) := block_cell h.obj rfl
  have t6 : w.cell? ⟨tb, 6, none⟩ = some (.pointer none) := block_cell h.obj rfl
  have lt := lt_of_heap h.obj
  clear h
  show Calls Tryd.prog 37 #[.pointer (some ⟨tb, 0, none⟩), .int .u64 (x : Int)] w _
  go_enter Tryd.func37, Tryd.ntmps37
  go_wp2_with fail
  go_ret
  exact ⟨rfl, rfl⟩
set_option maxRecDepth 100000 in
set_option maxHeartbeats 3200000 in
theorem succ_gt (w : World) (S : Sh) (tb lb root num : Nat) (md : Nat → Nat) (mn mx : Option Nat) (x k1 k2 : Nat) (h : TObj w tb lb S.m root num mn mx) (hT : Tabs w) (hL : Lay w S.m lb md S.lk) (hM : Mem w S) (hO : S.Ok) (hr : S.lk 0 0 = some root)
    (h1 : S.K k1) (h2 : S.K k2) (h12 : ∀ k, S.K k → k1 ≤ k ∧ k ≤ k2) (hmn : mn = S.lk S.m k1) (hmx : mx = S.lk S.m k2) (hx : x < 2 ^ S.m) (hxk : ¬ S.K x) (hlt : k1 < x) :
    Calls Tryd.prog 36 #[op (some tb), .int .u64 (x : Int)] w (SuP S x w) := by
  obtain ⟨b1, hb1⟩ := h1.get
  obtain ⟨b2, hb2⟩ := h2.get
  rw [hb1] at hmn
  rw [hb2] at hmx
  subst hmn
  subst hmx
  have t0 : w.cell? ⟨tb, 0, none⟩ = some (.slice (some ⟨lb, 0, none⟩) S.m S.m) := block_cell h.obj rfl
  have t1 : w.cell? ⟨tb, 1, none⟩ = some (.pointer (some ⟨root, 0, none⟩)) := block_cell h.obj rfl
  have t3 : w.cell? ⟨tb, 3, none⟩ = some (.int .u8 (S.m : Int)) := block_cell h.obj rfl
  have t5 : w.cell? ⟨tb, 5, none⟩ = some (.pointer (some ⟨b1, 0, none⟩)) := block_cell h.obj rfl
  have t6 : w.cell? ⟨tb, 6, none⟩ = some (.pointer (some ⟨b2, 0, none⟩)) := block_cell h.obj rfl
  have lt := lt_of_heap h.obj
  have n1 := (hM.leaf hb1)
  have n2 := (hM.leaf hb2)
  have e1 := n1.e
  have e2 := n2.e
  have l1 := n1.lt
  have l2 := n2.lt
  have m1 := methodK k1 (S.ent k1)
  have m2 := methodK k2 (S.ent k2)
  have q1 := nilK k1 (S.ent k1)
  have q2 := nilK k2 (S.ent k2)
  have HT := Lib.hid hT
  have HL := Lib.hid hL
  have HM := Lib.hid hM
  have HO := Lib.hid hO
  have HX := Lib.hid hx
  have HXK := Lib.hid hxk
  have H12 := Lib.hid h12
  have HK1 := Lib.hid h1
  have HK2 := Lib.hid h2
  have HR := Lib.hid hr
  obtain ⟨hm2, hm64⟩ := hO.m2
  have HKEY : Hid (∀ k v wx, Calls Tryd.prog 62 #[.agg #[.int .u64 ((k : Nat) : Int), .int .i64 v]] wx fun en w' => en = .returned (.int .u64 (k : Int)) ∧ Same wx w') := Lib.hid (fun k v wx => key_of k v wx)
  have HTO := Lib.hid h
  have hx1 : ¬ (x : Int) ≤ (k1 : Int) := by omega
  clear hT hL hM hO hx hxk h12 h1 h2 hr n1 n2 hb1 hb2 h
  show Calls Tryd.prog 36 #[.pointer (some ⟨tb, 0, none⟩), .int .u64 (x : Int)] w _
  go_enter Tryd.func36, Tryd.ntmps36
  have HF : Hid (∀ wx, Same w wx → wx.cell? ⟨tb, 0, none⟩ = some (.slice (some ⟨lb, 0, none⟩) S.m S.m) ∧ wx.cell? ⟨tb, 1, none⟩ = some (.pointer (some ⟨root, 0, none⟩)) ∧ wx.cell? ⟨tb, 3, none⟩ = some (.int .u8 (S.m : Int)) ∧ wx.cell? ⟨tb, 5, none⟩ = some (.pointer (some ⟨b1, 0, none⟩)) ∧ wx.cell? ⟨tb, 6, none⟩ = some (.pointer (some ⟨b2, 0, none⟩)) ∧ wx.cell? ⟨b2, 0, none⟩ = some (item k2 (S.ent k2)) ∧ tb < wx.heap.size ∧ b2 < wx.heap.size) := Lib.hid (fun wx hx => by
    have ho := hx.obj HTO.out.obj id
    exact ⟨block_cell ho rfl, block_cell ho rfl, block_cell ho rfl, block_cell ho rfl, block_cell ho rfl, (hx.cell (p := ⟨b2, 0, none⟩) l2 id).trans e2, lt_of_heap ho, Nat.lt_of_lt_of_le l2 hx.size⟩)
  go_wp2_with fail
  refine (HKEY.out _ _ _).mono ?_
  rintro e w1 ⟨rfl, hs1⟩
  have HS1 := Lib.hid hs1
  clear hs1 t0 t1 t3 t5 t6 lt e1 e2 l1 l2
  obtain ⟨t0, t1, t3, t5, t6, e2, lt, l2⟩ := HF.out w1 HS1.out
  go_wp2_with fail
  refine (HKEY.out _ _ _).mono ?_
  rintro e w2 ⟨rfl, hs2⟩
  have HS2 : Hid (Same w w2) := Lib.hid (HS1.out.trans hs2)
  clear hs2 t0 t1 t3 t5 t6 lt e2 l2 HS1
  obtain ⟨t0, t1, t3, t5, t6, e2, lt, l2⟩ := HF.out w2 HS2.out
  by_cases hgt : (k2 : Int) < (x : Int)
  · go_wp2_with fail
    go_ret
    exact ⟨none, rfl, HS2.out, .inl ⟨rfl, fun k hk => by have := (H12.out k hk).2; omega⟩⟩
  have hxk2 : x ≠ k2 := fun e => HXK.out (by rw [e]; exact HK2.out)
  have HGT : Hid (x < k2) := Lib.hid (by omega)
  obtain ⟨mi, hmi⟩ : ∃ mi, S.m - 1 = mi := ⟨_, rfl⟩
  have hmi1 : mi < S.m := by omega
  have hu : ((S.m : Int) - 1) = (mi : Int) := by omega
  have HLX : Hid (S.lk S.m x = none) := Lib.hid (by
    cases hb : S.lk S.m x with
    | none => rfl
    | some b => exact absurd (show S.K x from fun e => by rw [hb] at e; cases e) HXK.out)
  have hlook : ∀ n, (Instr.lookup 76 (.map (some (md mi))) (.int .u64 (x : Int)) false).run Tryd.prog (w2.drewN n) = .ok (.pointer none) (w2.drewN n) := fun n => by
    have := (HL.out.still (HS2.out.drewN n)).look hmi1 HX.out false
    rw [show mi + 1 = S.m by omega, cut_full, pre_full, HLX.out] at this
    exact this
  have c0 := (HL.out.still HS2.out).row mi hmi1
  have hlb : lb < w2.heap.size := (HL.out.still HS2.out).lb
  have hmm : (mi : Int) < (S.m : Int) := by omega
  go_upto_region 7 with fail
  go_quiet (fail)
  obtain ⟨w3, hw3⟩ : ∃ w3, w2.drewN nq = w3 := ⟨_, rfl⟩
  have HS3 : Hid (Same w w3) := Lib.hid (by rw [← hw3]; exact HS2.out.drewN _)
  rw [hw3]
  clear hw3 hgt t0 t1 t3 t5 t6 lt e2 l2 hlook c0 hlb HS2
  obtain ⟨t0, t1, t3, t5, t6, e2, lt, l2⟩ := HF.out w3 HS3.out
  have HSE : Hid (Calls Tryd.prog 38 #[.slice (some ⟨lb, 0, none⟩) S.m S.m, .int .u64 (x : Int)] w3 (SeP S.m S.lk x w3)) := Lib.hid (search w3 S.m lb md S.lk x (HT.out.still HS3.out) (HL.out.still HS3.out) HX.out HLX.out HO.out.tree)
  go_wp2_with fail
  refine HSE.out.mono ?_
  rintro e w4 ⟨D, r, rfl, hs4, hD, hex, hno, hr⟩
  have HS4 : Hid (Same w w4) := Lib.hid (HS3.out.trans hs4)
  have HDP : Hid (S.Deep D x) := Lib.hid ⟨hD, HX.out, hex, hno⟩
  clear hs4 t0 t1 t3 t5 t6 lt e2 l2 HS3 HSE hex hno hu hmm
  obtain ⟨t0, t1, t3, t5, t6, e2, lt, l2⟩ := HF.out w4 HS4.out
  obtain ⟨bn, hbn⟩ : ∃ b, S.lk D (pre S.m D x) = some b := by
    cases hb : S.lk D (pre S.m D x) with
    | none => exact absurd hb (HDP.out.at HO.out)
    | some b => exact ⟨b, rfl⟩
  have HBN := Lib.hid hbn
  have HMD := Lib.hid (HM.out.still HS4.out)
  have hnd := HMD.out.inner hD hbn
  have z0 := hnd.c0
  have z1 := hnd.c1
  have lbn := hnd.lt
  clear hnd hbn
  have hgtx : ∃ k', S.K k' ∧ x < k' := ⟨k2, HK2.out, HGT.out⟩
  have HGX := Lib.hid hgtx
  have HHR := Lib.hid hr
  clear hgtx hr hD
  by_cases hD0 : D = 0
  case pos =>
    subst hD0
    have hbr : bn = root := by
      have h1 := HBN.out
      rw [pre_zero HX.out, HR.out] at h1
      cases h1; rfl
    subst hbr
    have hr := HHR.out
    rw [if_pos rfl] at hr
    subst hr
    rw [show op (none : Option Nat) = Value.pointer none from rfl]
    go_upto_region 15 with fail
    rcases Nat.eq_zero_or_pos (side S.m 0 x) with hs | hs
    · obtain ⟨⟨k0, hk0, hc0, hm0⟩, h1'⟩ := HDP.out.left HO.out hs HK1.out hlt
      obtain ⟨b0, hb0⟩ := hk0.get
      have hn0 := HMD.out.leaf hb0
      rw [hc0, hb0] at z0
      have z0' : w4.cell? ⟨bn, 1, none⟩ = some (.pointer (some ⟨b0, 0, none⟩)) := z0
      have HIL := Lib.hid (isLeaf_leaf w4 b0 k0 _ _ _ _ hn0)
      have y1 := hn0.c1
      have lb0 := hn0.lt
      obtain ⟨k', hk', hc', hl'⟩ := HO.out.next hk0 hm0
      obtain ⟨b', hb'⟩ := hk'.get
      rw [hc', hb'] at y1
      have y1' : w4.cell? ⟨b0, 2, none⟩ = some (.pointer (some ⟨b', 0, none⟩)) := y1
      have HFIN := Lib.hid (And.intro hk' (And.intro hb' hl'))
      clear z0 y1 hn0 hc0 hm0 hb0 hk0 hc' hk' hb' hl' hs
      rcases h1' with ⟨hd1, hne, hc1⟩ | ⟨k, hk, hc1, hl⟩
      · obtain ⟨bi, hbi⟩ : ∃ b, S.lk (0 + 1) (2 * pre S.m 0 x + 1) = some b := by
          cases hb : S.lk (0 + 1) (2 * pre S.m 0 x + 1) with
          | none => exact absurd hb hne
          | some b => exact ⟨b, rfl⟩
        have HII := Lib.hid (isInternal_in w4 bi _ _ _ (HMD.out.inner hd1 hbi))
        rw [hc1, hbi] at z1
        have z1' : w4.cell? ⟨bn, 2, none⟩ = some (.pointer (some ⟨bi, 0, none⟩)) := z1
        clear z1 hne hc1 hbi hd1
        go_wp2_with fail
        refine HII.out.mono ?_
        rintro e w5 ⟨rfl, rfl⟩
        go_wp2_with fail
        refine HIL.out.mono ?_
        rintro e w5 ⟨rfl, rfl⟩
        go_wp2_with fail
        go_ret
        exact ⟨some b', rfl, HS4.out, .inr ⟨k', HFIN.out.1, HFIN.out.2.1.symm, HFIN.out.2.2, HGX.out⟩⟩
      · obtain ⟨bk, hbk⟩ := hk.get
        have HII := Lib.hid (isInternal_leaf w4 bk k _ _ _ _ (HMD.out.leaf hbk))
        rw [hc1, hbk] at z1
        have z1' : w4.cell? ⟨bn, 2, none⟩ = some (.pointer (some ⟨bk, 0, none⟩)) := z1
        have HF2 := Lib.hid (And.intro hk (And.intro hbk hl))
        clear z1 hc1 hbk hk hl
        go_wp2_with fail
        refine HII.out.mono ?_
        rintro e w5 ⟨rfl, rfl⟩
        go_wp2_with fail
        go_ret
        exact ⟨some bk, rfl, HS4.out, .inr ⟨k, HF2.out.1, HF2.out.2.1.symm, HF2.out.2.2, HGX.out⟩⟩
    · have hs1 : side S.m 0 x = 1 := by have := side_lt S.m 0 x; omega
      rcases HDP.out.right HO.out hs1 with ⟨hc1, hl⟩ | ⟨k, hk, hc1, hl⟩
      · have HII := Lib.hid (isInternal_nil w4)
        rw [hc1] at z1
        have z1' : w4.cell? ⟨bn, 2, none⟩ = some (.pointer none) := z1
        have HF2 := Lib.hid hl
        clear z1 hc1 hl hs hs1 z0
        go_wp2_with fail
        refine HII.out.mono ?_
        rintro e w5 ⟨rfl, rfl⟩
        go_wp2_with fail
        go_ret
        exact ⟨none, rfl, HS4.out, .inl ⟨rfl, HF2.out⟩⟩
      · obtain ⟨bk, hbk⟩ := hk.get
        have HII := Lib.hid (isInternal_leaf w4 bk k _ _ _ _ (HMD.out.leaf hbk))
        rw [hc1, hbk] at z1
        have z1' : w4.cell? ⟨bn, 2, none⟩ = some (.pointer (some ⟨bk, 0, none⟩)) := z1
        have HF2 := Lib.hid (And.intro hk (And.intro hbk hl))
        clear z1 hc1 hbk hk hl hs hs1 z0
        go_wp2_with fail
        refine HII.out.mono ?_
        rintro e w5 ⟨rfl, rfl⟩
        go_wp2_with fail
        go_ret
        exact ⟨some bk, rfl, HS4.out, .inr ⟨k, HF2.out.1, HF2.out.2.1.symm, HF2.out.2.2, HGX.out⟩⟩
  case neg =>
    have hr := HHR.out
    rw [if_neg hD0, HBN.out] at hr
    subst hr
    rw [show op (some bn) = Value.pointer (some ⟨bn, 0, none⟩) from rfl]
    go_upto_region 15 with fail
    rcases Nat.eq_zero_or_pos (side S.m D x) with hs | hs
    · obtain ⟨⟨k0, hk0, hc0, hm0⟩, h1'⟩ := HDP.out.left HO.out hs HK1.out hlt
      obtain ⟨b0, hb0⟩ := hk0.get
      have hn0 := HMD.out.leaf hb0
      rw [hc0, hb0] at z0
      have z0' : w4.cell? ⟨bn, 1, none⟩ = some (.pointer (some ⟨b0, 0, none⟩)) := z0
      have HIL := Lib.hid (isLeaf_leaf w4 b0 k0 _ _ _ _ hn0)
      have y1 := hn0.c1
      have lb0 := hn0.lt
      obtain ⟨k', hk', hc', hl'⟩ := HO.out.next hk0 hm0
      obtain ⟨b', hb'⟩ := hk'.get
      rw [hc', hb'] at y1
      have y1' : w4.cell? ⟨b0, 2, none⟩ = some (.pointer (some ⟨b', 0, none⟩)) := y1
      have HFIN := Lib.hid (And.intro hk' (And.intro hb' hl'))
      clear z0 y1 hn0 hc0 hm0 hb0 hk0 hc' hk' hb' hl' hs
      rcases h1' with ⟨hd1, hne, hc1⟩ | ⟨k, hk, hc1, hl⟩
      · obtain ⟨bi, hbi⟩ : ∃ b, S.lk (D + 1) (2 * pre S.m D x + 1) = some b := by
          cases hb : S.lk (D + 1) (2 * pre S.m D x + 1) with
          | none => exact absurd hb hne
          | some b => exact ⟨b, rfl⟩
        have HII := Lib.hid (isInternal_in w4 bi _ _ _ (HMD.out.inner hd1 hbi))
        rw [hc1, hbi] at z1
        have z1' : w4.cell? ⟨bn, 2, none⟩ = some (.pointer (some ⟨bi, 0, none⟩)) := z1
        clear z1 hne hc1 hbi hd1
        go_wp2_with fail
        refine HII.out.mono ?_
        rintro e w5 ⟨rfl, rfl⟩
        go_wp2_with fail
        refine HIL.out.mono ?_
        rintro e w5 ⟨rfl, rfl⟩
        go_wp2_with fail
        go_ret
        exact ⟨some b', rfl, HS4.out, .inr ⟨k', HFIN.out.1, HFIN.out.2.1.symm, HFIN.out.2.2, HGX.out⟩⟩
      · obtain ⟨bk, hbk⟩ := hk.get
        have HII := Lib.hid (isInternal_leaf w4 bk k _ _ _ _ (HMD.out.leaf hbk))
        rw [hc1, hbk] at z1
        have z1' : w4.cell? ⟨bn, 2, none⟩ = some (.pointer (some ⟨bk, 0, none⟩)) := z1
        have HF2 := Lib.hid (And.intro hk (And.intro hbk hl))
        clear z1 hc1 hbk hk hl
        go_wp2_with fail
        refine HII.out.mono ?_
        rintro e w5 ⟨rfl, rfl⟩
        go_wp2_with fail
        go_ret
        exact ⟨some bk, rfl, HS4.out, .inr ⟨k, HF2.out.1, HF2.out.2.1.symm, HF2.out.2.2, HGX.out⟩⟩
    · have hs1 : side S.m D x = 1 := by have := side_lt S.m D x; omega
      rcases HDP.out.right HO.out hs1 with ⟨hc1, hl⟩ | ⟨k, hk, hc1, hl⟩
      · have HII := Lib.hid (isInternal_nil w4)
        rw [hc1] at z1
        have z1' : w4.cell? ⟨bn, 2, none⟩ = some (.pointer none) := z1
        have HF2 := Lib.hid hl
        clear z1 hc1 hl hs hs1 z0
        go_wp2_with fail
        refine HII.out.mono ?_
        rintro e w5 ⟨rfl, rfl⟩
        go_wp2_with fail
        go_ret
        exact ⟨none, rfl, HS4.out, .inl ⟨rfl, HF2.out⟩⟩
      · obtain ⟨bk, hbk⟩ := hk.get
        have HII := Lib.hid (isInternal_leaf w4 bk k _ _ _ _ (HMD.out.leaf hbk))
        rw [hc1, hbk] at z1
        have z1' : w4.cell? ⟨bn, 2, none⟩ = some (.pointer (some ⟨bk, 0, none⟩)) := z1
        have HF2 := Lib.hid (And.intro hk (And.intro hbk hl))
        clear z1 hc1 hbk hk hl hs hs1 z0
        go_wp2_with fail
        refine HII.out.mono ?_
        rintro e w5 ⟨rfl, rfl⟩
        go_wp2_with fail
        go_ret
        exact ⟨some bk, rfl, HS4.out, .inr ⟨k, HF2.out.1, HF2.out.2.1.symm, HF2.out.2.2, HGX.out⟩⟩
end Go.Proofs.YtkplikpncpcjdaaDoor.xf
