/-
  What the proofs of this claim share, part 3 of 8: small laws and walks of the functions that it reaches.
-/
import Derived.Test.YtacjkbljokjdkaaGreatMB
import Derived.BigQuiet
import Derived.Defers
import Derived.Recover
namespace Go.Proofs.YtacjkbljokjdkaaGreat.ba
open Go.RowKit Go.Proofs.YtacjkbljokjdkaaGreat.base Go.Proofs.YtacjkbljokjdkaaGreat.heap Go.Proofs.YtacjkbljokjdkaaGreat.rows Go.Proofs.YtacjkbljokjdkaaGreat.bit Go.Proofs.YtacjkbljokjdkaaGreat.bs
set_option linter.unusedVariables false

/-- a new dense bit array is handed back -/
def NewD (ws : List Nat) (lo hi : Nat) (any : Bool) (w : World) (e : Ending) (w' : World) : Prop :=
  ∃ p a c, e = .returned (.pointer (some ⟨p, 0, none⟩)) ∧ Dn w' p a c ws lo hi any ∧ Same w w' ∧ ∀ k, Ft p a k → w.heap.size ≤ k
theorem U_zeros (n : Nat) : (madeCells #[Value.int .u64 0] n).toList = U (List.replicate n 0) := by
  have := made_one (.int .u64 0) rfl n
  rw [Nat.mul_one] at this
  rw [show U (List.replicate n 0) = List.replicate n (Value.int .u64 0) by simp [U]]
  exact this
theorem dn_made {w : World} {p g n lo hi : Nat} {any : Bool} (h1 : w.heap[p]? = some (.cells #[.slice (some ⟨g, 0, none⟩) n n, .int .u64 (lo : Int), .int .u64 (hi : Int), .bool any] 90 (0, 0))) (h2 : w.heap[g]? = some (.cells (madeCells #[.int .u64 0] n) 74 (0, 0))) (hn : n ≤ 1000000) (hne : g ≠ p) :
    Dn w p (some ⟨g, 0, none⟩) n (List.replicate n 0) lo hi any := by
  refine ⟨by rw [List.length_replicate]; exact h1, ?_, Ok.zeros n, (by simp), hne, by rw [List.length_replicate]; exact hn⟩
  rw [List.length_replicate]
  have := Own.of_block (e := 74) (size := 1) h2 n n (Nat.le_refl _) (by unfold maxLen; omega) (by simp [madeCells]) (by rw [U_zeros]; intro u hu; exact U_one _ u (List.mem_of_mem_take hu))
  rw [U_zeros, List.take_of_length_le (by rw [U_len, List.length_replicate]; omega)] at this
  exact this

theorem new_old (w : World) (A B : Obj) : ((w.alloc A).alloc B).heap[w.heap.size]? = some A := by
  show ((w.heap.push A).push B)[w.heap.size]? = _
  rw [Array.getElem?_push, if_neg (by simp), Array.getElem?_push, if_pos rfl]
theorem new_foot (w : World) : ∀ k, Ft (w.heap.size + 1) (some ⟨w.heap.size, 0, none⟩) k → w.heap.size ≤ k := by
  rintro k (rfl | h)
  · omega
  · have : w.heap.size = k := h
    omega
set_option maxRecDepth 100000 in
set_option maxHeartbeats 1600000 in
theorem newD0 (size : Nat) (hsz : size ≤ 64000000) (aa : Option Addr) (m ac : Nat) (w : World) (hm : m = 0 ∨ (m = 1 ∧ ∃ ad, aa = some ad ∧ ad.spot = none ∧ w.cell? ad = some (.bool false))) :
    Calls Tryz.prog 36 #[.int .u64 (size : Int), .slice aa m ac] w (NewD (List.replicate ((size + 63) / 64) 0) 0 0 false w) := by
  have HIW : Hid (∀ wx, Calls Tryz.prog 38 #[.int .u64 (size : Int)] wx fun e w' => e = .returned (.tuple #[.int .u64 ((size / 64 : Nat) : Int), .int .u64 ((size % 64 : Nat) : Int)]) ∧ w' = wx) := Lib.hid (fun wx => indexW size (by unfold Lt64; omega) wx)
  obtain ⟨n, HN⟩ : ∃ n, Hid ((size + 63) / 64 = n) := ⟨_, Lib.hid rfl⟩
  rw [HN.out]
  have hn : n ≤ 1000000 := by have := HN.out; omega
  have hmk := make_eq (P := Tryz.prog) (e := 74) (size := 1) (t := 88) (z := .int .u64 0) (bytes := 8) .u64 .u64 Tryz.underlying88 (by kernel_rfl) n (by omega) (by omega)
  have HS : Hid (size % 64 = 0 → size / 64 = n) := Lib.hid (fun h => by have := HN.out; omega)
  have HS2 : Hid (¬ size % 64 = 0 → size / 64 + 1 = n) := Lib.hid (fun h => by have := HN.out; omega)
  have hq : size / 64 ≤ 1000000 := by omega
  have HM := Lib.hid hm
  clear hm
  generalize size / 64 = q at *
  generalize size % 64 = r at *
  go_enter Tryz.func36, Tryz.ntmps36
  go_wp2_with fail
  refine (HIW.out _).mono ?_
  rintro e w1 ⟨rfl, rfl⟩
  go_upto_if 15 with fail
  go_cut [5] (fun v wx => v = .int .u64 (n : Int) ∧ wx = w1)
  case first =>
    by_cases hr : r = 0
    · have hq2 := HS.out hr
      subst hr
      subst hq2
      go_wp2_with fail
      go_meet
      exact ⟨rfl, rfl⟩
    · have hq2 := HS2.out hr
      have hr' : (0 : Int) < (r : Int) := by omega
      subst hq2
      have h5 : IntKind.u64.wrap ((q : Int) + 1) = (q : Int) + 1 := by rw [IntKind.wrap_u64]; omega
      go_wp2_with fail
      go_meet
      exact ⟨by go_num, rfl⟩
  case rest =>
    obtain ⟨rfl, rfl⟩ := hcut
    rcases HM.out with rfl | ⟨rfl, ad, rfl, hsp, hcell⟩
    · go_wp2_with fail
      go_ret
      exact ⟨wc.heap.size + 1, _, n, rfl, dn_made (heap_alloc_new' _ _ _ (by simp)) (new_old wc _ _) hn (by omega), ((Only.refl _ _).alloc _).alloc _, new_foot wc⟩
    · obtain ⟨ab, ao, sp⟩ := ad
      have : sp = none := hsp
      subst this
      have hab : ab < wc.heap.size := World.block_lt_of_cell? wc _ hcell
      go_wp2_with fail
      go_ret
      exact ⟨wc.heap.size + 1, _, n, rfl, dn_made (heap_alloc_new' _ _ _ (by simp)) (new_old wc _ _) hn (by omega), ((Only.refl _ _).alloc _).alloc _, new_foot wc⟩
end Go.Proofs.YtacjkbljokjdkaaGreat.ba
namespace Go.Proofs.YtacjkbljokjdkaaGreat.ba
open Go.RowKit Go.Proofs.YtacjkbljokjdkaaGreat.base Go.Proofs.YtacjkbljokjdkaaGreat.heap Go.Proofs.YtacjkbljokjdkaaGreat.rows Go.Proofs.YtacjkbljokjdkaaGreat.bit Go.Proofs.YtacjkbljokjdkaaGreat.bs
set_option linter.unusedVariables false

/-- n words, of which k are reckoned -/
def tab (f : Nat → Nat) (k n : Nat) : List Nat := (List.range n).map fun j => if j < k then f j else 0
theorem tab_len (f : Nat → Nat) (k n : Nat) : (tab f k n).length = n := by simp [tab]
theorem tab_get (f : Nat → Nat) (k n j : Nat) : (tab f k n).getD j 0 = if j < n ∧ j < k then f j else 0 := by
  simp only [tab, List.getD_eq_getElem?_getD, List.getElem?_map]
  by_cases h : j < n
  · rw [List.getElem?_range h]; simp [h]
  · rw [List.getElem?_eq_none (by simpa using Nat.le_of_not_lt h)]; simp [h]
theorem tab_zero (f : Nat → Nat) (n : Nat) : tab f 0 n = List.replicate n 0 := by
  apply List.ext_getElem?
  intro j
  simp only [tab, List.getElem?_map, List.getElem?_replicate]
  by_cases h : j < n
  · rw [List.getElem?_range h]; simp [h]
  · rw [List.getElem?_eq_none (by simpa using Nat.le_of_not_lt h)]; simp [h]
theorem tab_set (f : Nat → Nat) (k n : Nat) (h : k < n) : (tab f k n).set k (f k) = tab f (k + 1) n := by
  apply List.ext_getElem?
  intro j
  simp only [tab, List.getElem?_set, List.getElem?_map, List.length_map, List.length_range]
  by_cases hj : j < n
  · rw [List.getElem?_range hj]
    by_cases e : k = j
    · subst e; simp [h]
    · simp only [e, if_false, Option.map_some]
      congr 1
      by_cases h2 : j < k
      · rw [if_pos h2, if_pos (by omega)]
      · rw [if_neg h2, if_neg (by omega)]
  · rw [List.getElem?_eq_none (by simpa using Nat.le_of_not_lt hj)]
    have : ¬ k = j := by omega
    simp [this]

/-- the ends are told -/
def Fin (ws : List Nat) (lo hi : Nat) (any : Bool) : Prop := (NoB ws ∧ lo = 0 ∧ hi = 0 ∧ any = false) ∨ (LoB ws lo ∧ HiB ws hi ∧ any = true)
/-- a new dense bit array of these words, its ends told, behind the interface type -/
def ResD (ws : List Nat) (w : World) (e : Ending) (w' : World) : Prop :=
  ∃ p a c lo hi any, e = .returned (.iface 80 (.pointer (some ⟨p, 0, none⟩))) ∧ Dn w' p a c ws lo hi any ∧ Fin ws lo hi any ∧ Same w w' ∧ ∀ k, Ft p a k → w.heap.size ≤ k

theorem new_only4 {w w1 w2 w3 w4 : World} {p : Nat} {a : Option Addr} (h : Same w w1 ∧ ∀ k, Ft p a k → w.heap.size ≤ k) (h2 : Only (Ft p a) w1 w2) (h3 : Only (fun k => k = p) w2 w3) (h4 : Only (fun k => k = p) w3 w4) : Same w w4 :=
  new_only h.1 ((h2.trans h3 (fun _ _ e => .inl e)).trans h4 (fun _ _ e => .inl e)) h.2

set_option maxRecDepth 100000 in
set_option maxHeartbeats 1600000 in
theorem nandDD {w : World} {p1 c1 lo1 hi1 p2 c2 lo2 hi2 : Nat} {a1 a2 : Option Addr} {ws1 ws2 : List Nat} {any1 any2 : Bool} (h1 : Dn w p1 a1 c1 ws1 lo1 hi1 any1) (h2 : Dn w p2 a2 c2 ws2 lo2 hi2 any2) (hle : ws1.length ≤ ws2.length) :
    Calls Tryz.prog 80 #[.pointer (some ⟨p1, 0, none⟩), .pointer (some ⟨p2, 0, none⟩)] w (ResD (tab (fun j => nandW (ws1.getD j 0) (ws2.getD j 0)) ws1.length ws1.length) w) := by
  have H1 := Lib.hid h1
  have H2 := Lib.hid h2
  obtain ⟨b1, ha1, hb1, _, c10, _, _, _, _, _, _⟩ := h1.facts
  have hsm := h1.sm
  have hbd1 := h1.row.bound
  have hbd2 := h2.row.bound
  have HLE := Lib.hid hle
  obtain ⟨n, HN⟩ : ∃ n, Hid (ws1.length = n) := ⟨_, Lib.hid rfl⟩
  obtain ⟨n2, HN2⟩ : ∃ n2, Hid (ws2.length = n2) := ⟨_, Lib.hid rfl⟩
  rw [HN.out] at c10 hsm hbd1 hle ⊢
  rw [HN2.out] at hle hbd2
  have HLF : Hid (∀ j, Lt64 (nandW (ws1.getD j 0) (ws2.getD j 0))) := Lib.hid (fun j => nandW_lt (h1.ok.at j))
  have h64 : IntKind.u64.wrap (n : Int) = (n : Int) := by rw [IntKind.wrap_u64]; omega
  have h65 : IntKind.u64.wrap ((n : Int) * 64) = ((64 * n : Nat) : Int) := by rw [IntKind.wrap_u64]; omega
  have HNEW : Hid (Calls Tryz.prog 36 #[.int .u64 ((64 * n : Nat) : Int), .slice none 0 0] w (NewD (tab (fun j => nandW (ws1.getD j 0) (ws2.getD j 0)) 0 n) 0 0 false w)) := Lib.hid (by
    have := newD0 (64 * n) (by omega) none 0 0 w (.inl rfl)
    rw [show (64 * n + 63) / 64 = n by omega] at this
    rw [tab_zero]; exact this)
  generalize 64 * n = n64 at *
  clear h1 h2
  subst ha1
  go_enter Tryz.func80, Tryz.ntmps80
  go_wp2_with fail
  refine HNEW.out.mono ?_
  rintro e w1 ⟨p3, a3, c3, rfl, hd3, hs1, hf3⟩
  have HS1 : Hid (Same w w1 ∧ ∀ k, Ft p3 a3 k → w.heap.size ≤ k) := Lib.hid ⟨hs1, hf3⟩
  have HI0 : Hid (Dn w1 p3 a3 c3 (tab (fun j => nandW (ws1.getD j 0) (ws2.getD j 0)) 0 n) 0 0 false ∧ Only (Ft p3 a3) w1 w1) := Lib.hid ⟨hd3, Only.refl _ _⟩
  clear hd3 hs1 hf3 HNEW
  go_wp2_with fail
  go_loopw [7] (fun i wr => ∃ k : Nat, k ≤ n ∧ i = .int .u64 (k : Int) ∧ Hid (Dn wr p3 a3 c3 (tab (fun j => nandW (ws1.getD j 0) (ws2.getD j 0)) k n) 0 0 false ∧ Only (Ft p3 a3) w1 wr)) (fun i _ => n - (intOf i).toNat)
  case atStart => exact ⟨0, Nat.zero_le _, rfl, HI0⟩
  case round =>
    clear HI0
    obtain ⟨k, hk, rfl, HI⟩ := hrel
    by_cases hkn : k < n
    · have hkn' : (k : Int) < (n : Int) := by omega
      have hk0 : (0 : Int) ≤ (k : Int) := by omega
      have hkn2 : (k : Int) < (n2 : Int) := by omega
      have hap : ∀ {p : Nat} {a : Option Addr}, (∀ j, Ft p a j → j < w.heap.size) → ∀ j, Ft p a j → ¬ Ft p3 a3 j := fun hl j hj hf => by have := hl j hj; have := HS1.out.2 j hf; omega
      obtain ⟨b, ha, _, _, d0, _, _, _, _, hc, _⟩ := ((H1.out.still HS1.out.1).keep HI.out.2 (hap H1.out.lt)).facts
      cases ha
      obtain ⟨b2, ha2, _, _, e0, _, _, _, _, hc2, _⟩ := ((H2.out.still HS1.out.1).keep HI.out.2 (hap H2.out.lt)).facts
      obtain ⟨b3, ha3, hb3, hb3p, g0, _, _, _, _, hc3, hfb⟩ := HI.out.1.facts
      have d1 := hc k (by rw [HN.out]; exact hkn)
      have e1 := hc2 k (by rw [HN2.out]; omega)
      have g1 := hc3 k (by rw [tab_len]; exact hkn)
      have f1 := hfb k
      rw [HN.out] at d0
      rw [HN2.out] at e0
      rw [tab_len] at g0
      have hz : (tab (fun j => nandW (ws1.getD j 0) (ws2.getD j 0)) k n).getD k 0 = 0 := by rw [tab_get, if_neg (by omega)]
      rw [hz] at g1
      have HA3 := Lib.hid ha3
      have HOP : Hid (∀ wx, Calls Tryz.prog 94 #[.int .u64 ((ws1.getD k 0 : Nat) : Int), .int .u64 ((ws2.getD k 0 : Nat) : Int)] wx fun e w' => e = .returned (.int .u64 ((nandW (ws1.getD k 0) (ws2.getD k 0) : Nat) : Int)) ∧ w' = wx) := Lib.hid (fun wx => nandWc _ _ (H1.out.ok.at k) (H2.out.ok.at k) wx)
      have HST : Hid (∀ w', w' = (wr.setCell ⟨b3, k, none⟩ (.int .u64 ((nandW (ws1.getD k 0) (ws2.getD k 0) : Nat) : Int))).drew → Dn w' p3 a3 c3 (tab (fun j => nandW (ws1.getD j 0) (ws2.getD j 0)) (k + 1) n) 0 0 false ∧ Only (Ft p3 a3) w1 w') := Lib.hid (by
        rintro w' rfl
        obtain ⟨q1, q2⟩ := HI.out.1.put ha3 k (nandW (ws1.getD k 0) (ws2.getD k 0)) (by rw [tab_len]; exact hkn) (HLF.out k) (Only.refl _ _) HI.out.1.obj
        rw [tab_set _ _ _ hkn] at q1
        exact ⟨q1.still ((Only.refl _ _).drew), (HI.out.2.trans q2 (fun _ _ h => h)).drew⟩)
      clear hc hc2 hc3 hfb hz hap c10
      generalize nandW (ws1.getD k 0) (ws2.getD k 0) = y at *
      generalize ws1.getD k 0 = x1 at *
      generalize ws2.getD k 0 = x2 at *
      go_wp2_with fail
      refine wp_region_still_tail 21 (by kernel_rfl) (by kernel_rfl) ?_
      simp only [List.take_succ_cons, List.take_zero, List.drop_succ_cons, List.drop_zero]
      repeat still_step
      still_call (HOP.out _)
      repeat still_step
      refine wpStill_nil ?_
      go_wp2_with fail
      exact ⟨⟨k + 1, by omega, by go_num, Lib.hid (HST.out _ rfl)⟩, by first | (simp [intOf]; done) | (simp [intOf]; omega)⟩
    · have hkn' : ¬ (k : Int) < (n : Int) := by omega
      obtain rfl : k = n := by omega
      have HLO := Lib.hid (setLowest HI.out.1)
      go_wp2_with fail
      refine HLO.out.mono ?_
      clear HLF H1 H2 HLE HN HN2 c10 hsm hbd1 hbd2 hle h64 h65
      rintro e w2 ⟨rfl, ho2, hlo⟩
      have HO2 := Lib.hid ho2
      clear ho2
      rcases hlo with ⟨hnb, hd⟩ | ⟨lo, hlo, hd⟩
      · have HNB := Lib.hid hnb
        have HHI := Lib.hid (setHighest hd)
        clear hnb hd
        go_wp2_with fail
        refine HHI.out.mono ?_
        rintro e w3 ⟨rfl, ho3, hhi⟩
        rcases hhi with ⟨_, hd⟩ | ⟨hi, hhi, _⟩
        · have HD := Lib.hid hd
          clear hd
          have HS : Hid (Same w w3) := Lib.hid (new_only4 HS1.out HI.out.2 HO2.out ho3)
          clear ho3
          go_wp2_with fail
          go_ret
          exact ⟨p3, a3, c3, 0, 0, false, rfl, HD.out, .inl ⟨HNB.out, rfl, rfl, rfl⟩, HS.out, HS1.out.2⟩
        · have := hhi.1; rw [HNB.out hi] at this; cases this
      · have HNB := Lib.hid hlo
        have HHI := Lib.hid (setHighest hd)
        clear hlo hd
        go_wp2_with fail
        refine HHI.out.mono ?_
        rintro e w3 ⟨rfl, ho3, hhi⟩
        rcases hhi with ⟨hnb, _⟩ | ⟨hi, hhi, hd⟩
        · have := HNB.out.1; rw [hnb lo] at this; cases this
        · have HD := Lib.hid hd
          have HH := Lib.hid hhi
          clear hd hhi
          have HS : Hid (Same w w3) := Lib.hid (new_only4 HS1.out HI.out.2 HO2.out ho3)
          clear ho3
          go_wp2_with fail
          go_ret
          exact ⟨p3, a3, c3, lo, hi, true, rfl, HD.out, .inr ⟨HNB.out, HH.out, rfl⟩, HS.out, HS1.out.2⟩
end Go.Proofs.YtacjkbljokjdkaaGreat.ba
namespace Go.Proofs.YtacjkbljokjdkaaGreat.ba
open Go.RowKit Go.Proofs.YtacjkbljokjdkaaGreat.base Go.Proofs.YtacjkbljokjdkaaGreat.heap Go.Proofs.YtacjkbljokjdkaaGreat.rows Go.Proofs.YtacjkbljokjdkaaGreat.bit Go.Proofs.YtacjkbljokjdkaaGreat.bs
set_option linter.unusedVariables false

/-- an array, by its bits -/
structure BA where
  dense : Bool
  words : Nat
  set : List Nat
/-- what a dense one notes of its ends -/
def Ends (ws : List Nat) (lo hi : Nat) (any : Bool) : Prop := lo ≤ hi ∧ hi ≤ 64 * ws.length ∧ (any = false → NoB ws) ∧ (any = true → LoB ws lo ∧ HiB ws hi)
/-- the words at places -/
abbrev wf (ws : List Nat) (j : Nat) : Nat := ws.getD j 0
/-- a sparse bit array: its object, its blocks, their places -/
structure Sp (w : World) (p : Nat) (ab : Option Addr) (cb : Nat) (ai : Option Addr) (ci : Nat) (P : List (Nat × Nat)) : Prop where
  obj : w.heap[p]? = some (.cells #[.slice ab P.length cb, .slice ai P.length ci] 94 (0, 0))
  blk : Own 74 1 w ab P.length cb (U (P.map (·.2)))
  idx : Own 34 1 w ai P.length ci (U (P.map (·.1)))
  asc : PAsc P
  ok : ∀ x ∈ P, Lt64 x.2 ∧ x.2 ≠ 0 ∧ x.1 < 2 ^ 57
  nb : ¬ At ab p
  ni : ¬ At ai p
  bi : ∀ k, At ab k → ¬ At ai k
  sm : P.length ≤ 1000000
def Fs (p : Nat) (ab ai : Option Addr) (k : Nat) : Prop := k = p ∨ At ab k ∨ At ai k
/-- v is, in w, the array d; F: its blocks -/
inductive Arr (w : World) : Value → BA → (Nat → Prop) → Prop
  | dense (p : Nat) (a : Option Addr) (c : Nat) (ws : List Nat) (lo hi : Nat) (any : Bool) (l : List Nat) (h : Dn w p a c ws lo hi any) (hr : Rep (wf ws) l) (he : Ends ws lo hi any) : Arr w (.iface 80 (.pointer (some ⟨p, 0, none⟩))) ⟨true, ws.length, l⟩ (Ft p a)
  | sparse (p : Nat) (ab : Option Addr) (cb : Nat) (ai : Option Addr) (ci : Nat) (P : List (Nat × Nat)) (l : List Nat) (h : Sp w p ab cb ai ci P) (hr : Rep (wd P) l) : Arr w (.iface 82 (.pointer (some ⟨p, 0, none⟩))) ⟨false, 0, l⟩ (Fs p ab ai)
section
variable {w w' : World}
theorem Sp.keep {p cb ci : Nat} {ab ai : Option Addr} {P : List (Nat × Nat)} {S : Nat → Prop} (h : Sp w p ab cb ai ci P) (ho : Only S w w') (hn : ∀ k, Fs p ab ai k → ¬ S k) : Sp w' p ab cb ai ci P :=
  ⟨ho.obj h.obj (hn _ (.inl rfl)), h.blk.keep ho (fun k hk => hn k (.inr (.inl hk))), h.idx.keep ho (fun k hk => hn k (.inr (.inr hk))), h.asc, h.ok, h.nb, h.ni, h.bi, h.sm⟩
theorem Sp.lt {p cb ci : Nat} {ab ai : Option Addr} {P : List (Nat × Nat)} (h : Sp w p ab cb ai ci P) : ∀ k, Fs p ab ai k → k < w.heap.size := by
  rintro k (rfl | hk | hk)
  · exact lt_of_heap h.obj
  · exact h.blk.lt k hk
  · exact h.idx.lt k hk
theorem Arr.keep {v : Value} {d : BA} {F S : Nat → Prop} (h : Arr w v d F) (ho : Only S w w') (hn : ∀ k, F k → ¬ S k) : Arr w' v d F := by
  cases h with
  | dense p a c ws lo hi any l h hr he => exact .dense p a c ws lo hi any l (h.keep ho hn) hr he
  | sparse p ab cb ai ci P l h hr => exact .sparse p ab cb ai ci P l (h.keep ho hn) hr
theorem Arr.lt {v : Value} {d : BA} {F : Nat → Prop} (h : Arr w v d F) : ∀ k, F k → k < w.heap.size := by
  cases h with
  | dense p a c ws lo hi any l h hr he => exact h.lt
  | sparse p ab cb ai ci P l h hr => exact h.lt
theorem Arr.asc {v : Value} {d : BA} {F : Nat → Prop} (h : Arr w v d F) : Asc d.set := by
  cases h with
  | dense p a c ws lo hi any l h hr he => exact hr.1
  | sparse p ab cb ai ci P l h hr => exact hr.1
end
/-- an array behind its value, and its blocks -/
structure It where
  v : Value
  d : BA
  F : Nat → Prop
/-- several arrays; q: what holds them, a: their row -/
structure Sta (w : World) (q : Nat) (a : Option Addr) (c : Nat) (l : List It) : Prop where
  obj : w.heap[q]? = some (.cells #[.slice a l.length c] 53 (0, 0))
  row : Own 57 1 w a l.length c (l.map (·.v))
  nap : ¬ At a q
  arr : ∀ x ∈ l, Arr w x.v x.d x.F ∧ ¬ x.F q ∧ ∀ k, At a k → ¬ x.F k
  dis : l.Pairwise fun x y => ∀ k, x.F k → ¬ y.F k
/-- the blocks of all -/
def Fo (q : Nat) (a : Option Addr) (l : List It) (k : Nat) : Prop := k = q ∨ At a k ∨ ∃ x ∈ l, x.F k
section
variable {w w' : World} {q c : Nat} {a : Option Addr} {l : List It}
theorem Sta.keep {S : Nat → Prop} (h : Sta w q a c l) (ho : Only S w w') (hn : ∀ k, Fo q a l k → ¬ S k) : Sta w' q a c l :=
  ⟨ho.obj h.obj (hn _ (.inl rfl)), h.row.keep ho (fun k hk => hn k (.inr (.inl hk))), h.nap, fun x hx => ⟨(h.arr x hx).1.keep ho (fun k hk => hn k (.inr (.inr ⟨x, hx, hk⟩))), (h.arr x hx).2⟩, h.dis⟩
theorem Sta.still (h : Sta w q a c l) (ho : Same w w') : Sta w' q a c l := h.keep ho (fun _ _ => id)
theorem Sta.lt (h : Sta w q a c l) : ∀ k, Fo q a l k → k < w.heap.size := by
  rintro k (rfl | hk | ⟨x, hx, hk⟩)
  · exact lt_of_heap h.obj
  · exact h.row.lt k hk
  · exact (h.arr x hx).1.lt k hk
/-- the i-th array -/
theorem Sta.get (h : Sta w q a c l) {i : Nat} {x : It} (hx : l[i]? = some x) : Arr w x.v x.d x.F := (h.arr x (List.mem_of_getElem? hx)).1
/-- the i-th array has turned, and no other one -/
theorem Sta.set (h : Sta w q a c l) {i : Nat} {x y : It} (hx : l[i]? = some x) (hv : y.v = x.v) (hF : ∀ k, y.F k → x.F k ∨ w.heap.size ≤ k) (hy : Arr w' y.v y.d y.F) (ho : Only x.F w w') : Sta w' q a c (l.set i y) := by
  have hm := List.mem_of_getElem? hx
  have hi : i < l.length := (List.getElem?_eq_some_iff.1 hx).1
  have hxi : l[i] = x := by
    have := hx
    rw [List.getElem?_eq_getElem hi] at this
    exact Option.some.inj this
  have hmap : (l.set i y).map (·.v) = l.map (·.v) := by
    apply List.ext_getElem?
    intro j
    rw [List.getElem?_map, List.getElem?_map, List.getElem?_set]
    by_cases e : i = j
    · subst e
      simp [hi, hxi, hv]
    · simp [e]
  have hq := (h.arr x hm).2.1
  have ha := (h.arr x hm).2.2
  have hql := lt_of_heap h.obj
  refine ⟨?_, ?_, h.nap, ?_, ?_⟩
  · rw [List.length_set]; exact ho.obj h.obj hq
  · rw [List.length_set, hmap]; exact h.row.keep ho ha
  · intro z hz
    obtain ⟨j, hj, rfl⟩ := List.getElem_of_mem hz
    rw [List.length_set] at hj
    rw [List.getElem_set]
    by_cases e : i = j
    · simp only [e, if_true]
      refine ⟨hy, fun h1 => ?_, fun k hk h1 => ?_⟩
      · rcases hF q h1 with h2 | h2
        · exact hq h2
        · omega
      · rcases hF k h1 with h2 | h2
        · exact ha k hk h2
        · have := h.row.lt k hk; omega
    · simp only [e, if_false]
      have hz' := h.arr l[j] (List.getElem_mem hj)
      refine ⟨hz'.1.keep ho (fun k hk hk2 => ?_), hz'.2⟩
      rcases Nat.lt_or_gt_of_ne e with hlt | hlt
      · have := List.pairwise_iff_getElem.1 h.dis i j hi hj hlt k (by rw [hxi]; exact hk2)
        exact this hk
      · have := List.pairwise_iff_getElem.1 h.dis j i hj hi hlt k hk
        rw [hxi] at this
        exact this hk2
  · refine List.pairwise_iff_getElem.2 fun m n hm' hn' hmn k hk hk2 => ?_
    rw [List.length_set] at hm' hn'
    have hp := List.pairwise_iff_getElem.1 h.dis
    have hlt : ∀ j (hj : j < l.length) k, l[j].F k → k < w.heap.size := fun j hj k hk => (h.arr _ (List.getElem_mem hj)).1.lt k hk
    rw [List.getElem_set] at hk hk2
    by_cases e : i = m
    · simp only [e, if_true] at hk
      have e2 : ¬ i = n := by omega
      simp only [e2, if_false] at hk2
      rcases hF k hk with h1 | h1
      · exact hp m n hm' hn' hmn k (by subst e; rw [hxi]; exact h1) hk2
      · have := hlt n hn' k hk2; omega
    · simp only [e, if_false] at hk
      by_cases e2 : i = n
      · simp only [e2, if_true] at hk2
        rcases hF k hk2 with h1 | h1
        · exact hp m n hm' hn' hmn k hk (by subst e2; rw [hxi]; exact h1)
        · have := hlt m hm' k hk; omega
      · simp only [e2, if_false] at hk2
        exact hp m n hm' hn' hmn k hk hk2
theorem Fo.set {i : Nat} {x y : It} {n : Nat} (hx : l[i]? = some x) (hF : ∀ k, y.F k → x.F k ∨ n ≤ k) (k : Nat) (hk : Fo q a (l.set i y) k) : Fo q a l k ∨ n ≤ k := by
  rcases hk with h | h | ⟨z, hz, hk⟩
  · exact .inl (.inl h)
  · exact .inl (.inr (.inl h))
  · obtain ⟨j, hj, rfl⟩ := List.getElem_of_mem hz
    rw [List.length_set] at hj
    rw [List.getElem_set] at hk
    by_cases e : i = j
    · simp only [e, if_true] at hk
      exact (hF k hk).imp (fun h => .inr (.inr ⟨x, List.mem_of_getElem? hx, h⟩)) id
    · simp only [e, if_false] at hk
      exact .inl (.inr (.inr ⟨_, List.getElem_mem hj, hk⟩))
/-- a further array stands behind -/
theorem Sta.snoc {a' : Option Addr} {c' : Nat} {S : Nat → Prop} (h : Sta w q a c l) {y : It} (hobj : w'.heap[q]? = some (.cells #[.slice a' (l.length + 1) c'] 53 (0, 0))) (hrow : Own 57 1 w' a' (l.length + 1) c' (l.map (·.v) ++ [y.v]))
    (hy : Arr w' y.v y.d y.F) (hyq : ¬ y.F q) (hya : ∀ k, At a' k → ¬ y.F k) (hyl : ∀ x ∈ l, ∀ k, x.F k → ¬ y.F k) (ho : Only S w w') (hS : ∀ x ∈ l, ∀ k, x.F k → ¬ S k) (ha' : ∀ k, At a' k → At a k ∨ w.heap.size ≤ k) : Sta w' q a' c' (l ++ [y]) := by
  have hq := lt_of_heap h.obj
  refine ⟨by rw [List.length_append]; exact hobj, by rw [List.length_append, List.map_append]; exact hrow, fun e => ?_, fun x hx => ?_, List.pairwise_append.2 ⟨h.dis, List.pairwise_singleton _ _, fun x hx z hz => ?_⟩⟩
  · rcases ha' q e with h1 | h1
    · exact h.nap h1
    · omega
  · rcases List.mem_append.1 hx with hx | hx
    · have := h.arr x hx
      refine ⟨this.1.keep ho (hS x hx), this.2.1, fun k hk => ?_⟩
      rcases ha' k hk with h1 | h1
      · exact this.2.2 k h1
      · exact fun h2 => absurd (this.1.lt k h2) (by omega)
    · rw [List.mem_singleton] at hx
      subst hx
      exact ⟨hy, hyq, hya⟩
  · rw [List.mem_singleton] at hz
    subst hz
    exact hyl x hx
end
/-- a new dense array is one by its bits -/
theorem Arr.ofFin {w w' : World} {p : Nat} {a : Option Addr} {c lo hi : Nat} {ws l : List Nat} {any : Bool} (h : Dn w' p a c ws lo hi any) (hf : Fin ws lo hi any) (hr : Rep (wf ws) l) : Arr w' (.iface 80 (.pointer (some ⟨p, 0, none⟩))) ⟨true, ws.length, l⟩ (Ft p a) := by
  refine .dense p a c ws lo hi any l h hr ?_
  rcases hf with ⟨h1, rfl, rfl, rfl⟩ | ⟨h1, h2, rfl⟩
  · exact ⟨Nat.le_refl _, Nat.zero_le _, fun _ => h1, fun e => by cases e⟩
  · refine ⟨h1.2 _ h2.1, ?_, fun e => (by cases e), fun _ => ⟨h1, h2⟩⟩
    rcases Nat.lt_or_ge hi (64 * ws.length) with h3 | h3
    · omega
    · have := bit_far ws hi h3
      rw [h2.1] at this; cases this
end Go.Proofs.YtacjkbljokjdkaaGreat.ba
namespace Go.Proofs.YtacjkbljokjdkaaGreat.ba
open Go.RowKit Go.Proofs.YtacjkbljokjdkaaGreat.base Go.Proofs.YtacjkbljokjdkaaGreat.heap Go.Proofs.YtacjkbljokjdkaaGreat.rows Go.Proofs.YtacjkbljokjdkaaGreat.bit Go.Proofs.YtacjkbljokjdkaaGreat.bs
set_option linter.unusedVariables false
section
variable {w : World} {q c : Nat} {a : Option Addr} {l : List It}
set_option maxRecDepth 100000 in
set_option maxHeartbeats 1600000 in
theorem atA (h : Sta w q a c l) (i : Nat) (x : It) (hx : l[i]? = some x) : Calls Tryz.prog 34 #[.pointer (some ⟨q, 0, none⟩), .int .i64 (i : Int)] w fun e w' => e = .returned x.v ∧ Same w w' := by
  have hi : i < l.length := (List.getElem?_eq_some_iff.1 hx).1
  obtain ⟨b, rfl, hb, hc⟩ := h.row.at (by omega)
  have c0 : w.cell? ⟨q, 0, none⟩ = some (.slice (some ⟨b, 0, none⟩) l.length c) := block_cell h.obj rfl
  have e0 := hc i x.v (by rw [List.getElem?_map, hx]; rfl)
  rw [Nat.zero_add] at e0
  have h0 : ¬ (i : Int) < 0 := by omega
  have h1 : ¬ (l.length : Int) ≤ (i : Int) := by omega
  have h2 : (0 : Int) ≤ (i : Int) := by omega
  have h3 : (i : Int) < (l.length : Int) := by omega
  have H : Hid (Same w w) := Lib.hid (Only.refl _ _)
  clear h hc hx hi
  go_enter Tryz.func34, Tryz.ntmps34
  go_wp2_with fail
  go_ret
  exact ⟨rfl, H.out⟩

theorem slBA : SliceOf Tryz.prog 51 57 1 16 := SliceOf.mk (z := .nilIface) Tryz.underlying51 (by kernel_rfl) rfl
/-- the array y stands behind them -/
def MadeP (q : Nat) (a : Option Addr) (l : List It) (y : It) (w : World) (e : Ending) (w' : World) : Prop :=
  e = .returned (.tuple #[]) ∧ ∃ a' c', Sta w' q a' c' (l ++ [y]) ∧ Only (fun k => k = q ∨ At a k) w w' ∧ ∀ k, At a' k → At a k ∨ w.heap.size ≤ k
set_option maxRecDepth 100000 in
set_option maxHeartbeats 1600000 in
theorem madeA (h : Sta w q a c l) (hl : l.length ≤ 1000000) (y : It) (t : TypeId) (u : Value) (hv : y.v = .iface t u) (hy : Arr w y.v y.d y.F) (hn : ∀ k, Fo q a l k → ¬ y.F k) : Calls Tryz.prog 31 #[.pointer (some ⟨q, 0, none⟩), y.v] w (MadeP q a l y w) := by
  have c0 : w.cell? ⟨q, 0, none⟩ = some (.slice a l.length c) := block_cell h.obj rfl
  have f0 : w.frozen? ⟨q, 0, none⟩ = false := block_free h.obj
  have hq := lt_of_heap h.obj
  have HROW := Lib.hid h.row
  have H := Lib.hid h
  have HY := Lib.hid hy
  have HN := Lib.hid hn
  obtain ⟨v, d, F⟩ := y
  simp only at *
  obtain rfl : v = .iface t u := hv
  clear h hy hn
  go_enter Tryz.func31, Tryz.ntmps31
  go_wp2_with (at_builtin; refine wpList_append (l.length + 1) (l.map (·.v) ++ [.iface t u]) rfl _ _ _ _ rfl slBA rfl (HROW.out.keep (S := fun _ => False) (by repeat (first | exact Only.refl _ _ | apply Only.alloc | apply Only.drew)) (fun _ _ => id)) rfl (Src.row (size := 1) (cs := #[.iface t u]) (t := 57) (fr := (0, 0)) Tryz.underlying51 (by exact heap_alloc_new _ _) 1 1 rfl (by simp [Value.oneCell'])) rfl rfl (by unfold maxLen; omega) (by omega) ?_)
  intro a2 c2 w2 hG
  have hS1 : Same w (w.alloc (Obj.cells #[.iface t u] 57)) := (Only.refl _ _).alloc _
  have hO2 : Only (At a) w w2 := (hS1.mono (fun _ _ f => f.elim)).trans hG.only (fun _ _ e => e)
  have hob2 : w2.heap[q]? = _ := hO2.obj H.out.obj H.out.nap
  have f2 : w2.frozen? ⟨q, 0, none⟩ = false := block_free hob2
  have hc2 : w2.cell? ⟨q, 0, none⟩ = some (.slice a l.length c) := block_cell hob2 rfl
  have hfr : ∀ k, At a2 k → At a k ∨ w.heap.size ≤ k := fun k hk => (hG.fresh k hk).imp id (fun h => Nat.le_trans hS1.size h)
  have hq2 : ¬ At a2 q := fun e => (hfr q e).elim H.out.nap (fun h => by omega)
  have HFIN : Hid (∀ w', w' = w2.setCell ⟨q, 0, none⟩ (.slice a2 (l.length + 1) c2) → MadeP q a l ⟨.iface t u, d, F⟩ w (.returned (.tuple #[])) w') := Lib.hid (by
    rintro w' rfl
    have hO3 : Only (fun k => k = q) w2 (w2.setCell ⟨q, 0, none⟩ (.slice a2 (l.length + 1) c2)) := (Only.refl _ _).setCell _ _ (fun _ => rfl)
    have hO : Only (fun k => k = q ∨ At a k) w (w2.setCell ⟨q, 0, none⟩ (.slice a2 (l.length + 1) c2)) := (hO2.mono (fun k _ h => .inr h)).trans hO3 (fun k _ h => .inl h)
    have hnF : ∀ k, F k → ¬ (k = q ∨ At a k) := fun k hk h => HN.out k (h.imp id (fun h => .inl h)) hk
    refine ⟨rfl, a2, c2, H.out.snoc (S := fun k => k = q ∨ At a k) (setCell_heap hob2 0 _) (hG.own.keep hO3 (fun k hk e => hq2 (by rw [← e]; exact hk))) (HY.out.keep hO hnF) (HN.out q (.inl rfl)) (fun k hk hF => ?_) (fun x hx k hk => HN.out k (.inr (.inr ⟨x, hx, hk⟩))) hO (fun x hx k hk h => ?_) hfr, hO, hfr⟩
    · rcases hfr k hk with h | h
      · exact HN.out k (.inr (.inl h)) hF
      · exact absurd (HY.out.lt k hF) (by omega)
    · rcases h with rfl | h
      · exact (H.out.arr x hx).2.1 hk
      · exact (H.out.arr x hx).2.2 k h hk)
  clear hG hS1 hO2 hob2 hfr hq2
  go_wp2_with fail
  go_end0
  exact HFIN.out _ rfl
end
end Go.Proofs.YtacjkbljokjdkaaGreat.ba
namespace Go.Proofs.YtacjkbljokjdkaaGreat.ba
open Go.RowKit Go.Proofs.YtacjkbljokjdkaaGreat.base Go.Proofs.YtacjkbljokjdkaaGreat.heap Go.Proofs.YtacjkbljokjdkaaGreat.rows Go.Proofs.YtacjkbljokjdkaaGreat.bit Go.Proofs.YtacjkbljokjdkaaGreat.bs
set_option linter.unusedVariables false

/-- a step -/
structure Stp where
  op : Nat
  on : Nat := 0
  by_ : Nat := 0
  k : Nat := 0
  most : Nat := 0
  all : Bool := false
def stv (t : Stp) : Value := .agg #[.int .i64 (t.op : Int), .int .i64 (t.on : Int), .int .i64 (t.by_ : Int), .int .u64 (t.k : Int), .int .i64 (t.most : Int), .bool t.all]

theorem step_idle (p : Addr) (w : World) :
    CallsD Tryz.prog 30 #[.pointer (some p)] .returning w fun e u' w' => e = .returned (.tuple #[]) ∧ u' = .returning ∧ w' = w := by
  refine callsD_of_wpS Tryz.func30 rfl fun c₀ cs hu => ?_
  apply wpS_seq
  apply wpS_region
  simp [wpOpsS, go_sem, recoverD, hu, Tryz.ntmps30, Exit.thenS]
  refine wpS_cond (t := false) (by simp [Act.eval, Array.replicate]) ?_
  simp only [Bool.false_eq_true, if_false]
  refine wpS_of_wp (wp_skip ?_)
  cases c₀
  simp_all [bodyPostS, results, Tryz.results30]
/-- an answer -/
structure Ans where
  yes : Bool := false
  n : Nat := 0
  nums : List Nat := []
/-- the two blocks that a step begins with -/
theorem step_made {w : World} (A B : Obj) : Same w ((w.alloc A).alloc B) ∧ ((w.alloc A).alloc B).heap[w.heap.size]? = some A ∧ ((w.alloc A).alloc B).heap[w.heap.size + 1]? = some B :=
  ⟨((Only.refl _ _).alloc _).alloc _, new_old w A B, heap_alloc_new' _ _ _ (by simp)⟩
set_option maxRecDepth 100000 in
theorem step_end {Q : Ending → World → Prop} {tmps : Array Value} {w3 : World} {r : Nat} {y n s p : Value} (h4 : tmps[4]? = some (.pointer (some ⟨r, 0, none⟩)))
    (hob : w3.heap[r]? = some (.cells #[y, n, s, p] 44 (0, 0))) (hQ : Q (.returned (.agg #[y, n, s, p])) w3) :
    bodyPostD Tryz.prog Tryz.f29 Q Exit.ret { tmps := tmps, defers := [{ target := Target.fn (Fn.func 30) #[.pointer (some ⟨r, 0, none⟩)], args := #[] }] } w3 := by
  have c0 : w3.cell? ⟨r, 0, none⟩ = some y := block_cell hob rfl
  have c1 : w3.cell? ⟨r, 1, none⟩ = some n := block_cell hob rfl
  have c2 : w3.cell? ⟨r, 2, none⟩ = some s := block_cell hob rfl
  have c3 : w3.cell? ⟨r, 3, none⟩ = some p := block_cell hob rfl
  clear hob
  refine leaves_cons (f := 30) (args := #[.pointer (some ⟨r, 0, none⟩)]) (by simp) (by simp [go_sem]) ?_
  refine (step_idle ⟨r, 0, none⟩ _).mono ?_
  rintro e u' w'' ⟨rfl, rfl, rfl⟩
  simp [Leaves, settle, results, Tryz.results29, go_sem, h4, c0, c1, c2, c3]
  exact hQ
/-- the answer block as it stands behind the last store -/
theorem stored4 {w : World} {r : Nat} {o1 o2 o3 o4 : Value} {t : TypeId} (ho : w.heap[r]? = some (.cells #[o1, o2, o3, o4] t (0, 0))) (y n s p : Value) :
    ((((w.setCell ⟨r, 0, none⟩ y).setCell ⟨r, 1, none⟩ n).setCell ⟨r, 2, none⟩ s).setCell ⟨r, 3, none⟩ p).heap[r]? = some (.cells #[y, n, s, p] t (0, 0)) :=
  setCell_heap (setCell_heap (setCell_heap (setCell_heap ho 0 y) 1 n) 2 s) 3 p
theorem same4 {w w' : World} {r : Nat} (h : Same w w') (hr : w.heap.size ≤ r) (y n s p : Value) :
    Same w ((((w'.setCell ⟨r, 0, none⟩ y).setCell ⟨r, 1, none⟩ n).setCell ⟨r, 2, none⟩ s).setCell ⟨r, 3, none⟩ p) :=
  (((h.setCell _ _ (fun h => by simp at h; omega)).setCell _ _ (fun h => by simp at h; omega)).setCell _ _ (fun h => by simp at h; omega)).setCell _ _ (fun h => by simp at h; omega)
end Go.Proofs.YtacjkbljokjdkaaGreat.ba
