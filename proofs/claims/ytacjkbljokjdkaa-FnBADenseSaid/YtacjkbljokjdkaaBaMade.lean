/-
  laws.baMade: the steps that make an array, and the array.
-/
import Derived.Test.YtacjkbljokjdkaaBaSets
import Derived.Test.YtacjkbljokjdkaaBaRun
namespace Go.Proofs.Ytacjkbljokjdkaa.ba
open Go.RowKit Go.Proofs.Ytacjkbljokjdkaa.base Go.Proofs.Ytacjkbljokjdkaa.heap Go.Proofs.Ytacjkbljokjdkaa.rows Go.Proofs.Ytacjkbljokjdkaa.bit Go.Proofs.Ytacjkbljokjdkaa.bs
set_option linter.unusedVariables false
/-- the bit that is set for a number -/
def cutB (dense : Bool) (q : Nat) (x : Nat) : Nat := if dense then (x % 1152921504606846976) % (64 * q) else x % 1152921504606846976
def firstT (dense : Bool) (m : Nat) : Stp := if dense then { op := 1, k := m } else { op := 2 }
/-- the steps; their bits -/
def madeT (dense : Bool) (m q on : Nat) (l : List Nat) : List Stp := firstT dense m :: l.map fun x => { op := 3, on := on, k := cutB dense q x }
def madeS (dense : Bool) (q : Nat) (l : List Nat) : List Nat := l.foldl (fun s x => put s (cutB dense q x)) []
theorem madeT_snoc (dense : Bool) (m q on : Nat) (l : List Nat) (k x : Nat) (h : l[k]? = some x) : madeT dense m q on (l.take (k + 1)) = madeT dense m q on (l.take k) ++ [{ op := 3, on := on, k := cutB dense q x }] := by
  unfold madeT; rw [take_snoc l k x h]; simp
theorem madeS_snoc (dense : Bool) (q : Nat) (l : List Nat) (k x : Nat) (h : l[k]? = some x) : madeS dense q (l.take (k + 1)) = put (madeS dense q (l.take k)) (cutB dense q x) := by
  unfold madeS; rw [take_snoc l k x h]; simp
theorem madeS_asc (dense : Bool) (q : Nat) (l : List Nat) : Asc (madeS dense q l) := by
  unfold madeS
  suffices h : ∀ s, Asc s → Asc (l.foldl (fun s x => put s (cutB dense q x)) s) from h [] Asc.nil
  induction l with
  | nil => exact fun s hs => hs
  | cons x l ih => exact fun s hs => ih _ (put_asc hs _)
theorem madeS_len (dense : Bool) (q : Nat) (l : List Nat) : (madeS dense q l).length ≤ l.length := by
  unfold madeS
  suffices h : ∀ s : List Nat, (l.foldl (fun s x => put s (cutB dense q x)) s).length ≤ s.length + l.length by simpa using h []
  induction l with
  | nil => exact fun s => by simp
  | cons x l ih =>
    intro s
    have h1 := ih (put s (cutB dense q x))
    have h2 := put_len s (cutB dense q x)
    simp only [List.foldl_cons, List.length_cons]
    omega
theorem slStp : SliceOf Try.prog 41 27 6 48 := SliceOf.mk (z := .agg #[.int .i64 0, .int .i64 0, .int .i64 0, .int .u64 0, .int .i64 0, .bool false]) Try.underlying41 (by kernel_rfl) rfl
/-- in the course of making -/
structure Mk (w wr : World) (s p : Nat) (dense : Bool) (m q on : Nat) (l : List Nat) (k : Nat) (ta : Option Addr) (tc : Nat) (sa : Option Addr) (j sc : Nat) : Prop where
  same : Same w wr
  res : wr.heap[s]? = some (.cells #[.bool false, .int .u64 0, .slice none 0 0] 29 (0, 0))
  arr : wr.heap[p]? = some (.cells #[.bool dense, .int .u64 (q : Int), .slice sa j sc] 29 (0, 0))
  st : OS 27 stc 6 wr ta (k + 1) tc (madeT dense m q on (l.take k))
  set : OU wr sa j sc (madeS dense q (l.take k))
  new : ∀ i, At ta i ∨ At sa i → w.heap.size ≤ i
  nt : ∀ i, At ta i → i ≠ s ∧ i ≠ p ∧ ¬ At sa i
  ns : ∀ i, At sa i → i ≠ s ∧ i ≠ p
  sz : w.heap.size ≤ s ∧ w.heap.size ≤ p ∧ s ≠ p
/-- the steps and the array -/
def MadeQ (dense : Bool) (m q on : Nat) (l : List Nat) (w : World) (e : Ending) (w' : World) : Prop :=
  ∃ ta tc sa sc, e = .returned (.tuple #[.slice ta (l.length + 1) tc, .agg #[.bool dense, .int .u64 (q : Int), .slice sa (madeS dense q l).length sc]]) ∧ OS 27 stc 6 w' ta (l.length + 1) tc (madeT dense m q on l) ∧ OU w' sa (madeS dense q l).length sc (madeS dense q l) ∧ Same w w' ∧
    ∀ i, (At ta i → w.heap.size ≤ i ∧ ¬ At sa i) ∧ (At sa i → w.heap.size ≤ i)

theorem Mk.step {w wr w2 w3 w4 : World} {s p m q on k tc j sc tc2 j' sc' x : Nat} {dense : Bool} {l : List Nat} {ta sa ta2 sa' : Option Addr} (h : Mk w wr s p dense m q on l k ta tc sa j sc) (hx : l[k]? = some x) {o : Obj}
    (hG : Grew 27 6 (wr.alloc o) w2 ta ta2 1 (k + 1 + 1) tc tc2 ((madeT dense m q on (l.take k)).flatMap stc ++ stc { op := 3, on := on, k := cutB dense q x }))
    (hP : OU w3 sa' j' sc' (put (madeS dense q (l.take k)) (cutB dense q x))) (hS3 : Same w2 w3) (hF3 : ∀ i, At sa' i → At sa i ∨ w2.heap.size ≤ i) (hw4 : w4 = w3.setCell ⟨p, 2, none⟩ (.slice sa' j' sc')) :
    Mk w w4 s p dense m q on l (k + 1) ta2 tc2 sa' j' sc' := by
  have hO2 : Only (At ta) wr w2 := Only.trans (S := At ta) ((Only.refl (At ta) wr).alloc o) hG.only (fun _ _ h => h)
  have hO3 : Only (At ta) wr w3 := hO2.trans hS3 (fun _ _ f => f.elim)
  have hO4 : Only (fun i => i = p) w3 w4 := by rw [hw4]; exact (Only.refl _ _).setCell _ _ (fun _ => rfl)
  have z0 := h.same.size
  have z1 := hO2.size
  have z2 := hS3.size
  have lta := h.st.1.lt
  have lsa := h.set.1.lt
  have ls := lt_of_heap h.res
  have lp := lt_of_heap h.arr
  have ft : ∀ i, At ta2 i → At ta i ∨ wr.heap.size + 1 ≤ i := fun i hi => (hG.fresh i hi).imp id (fun h => by simpa using h)
  have nt2 : ∀ i, At ta2 i → i ≠ s ∧ i ≠ p := fun i hi => by
    rcases ft i hi with h1 | h1
    · exact ⟨(h.nt i h1).1, (h.nt i h1).2.1⟩
    · omega
  have lt2 := hG.own.lt
  refine ⟨?_, ?_, ?_, ⟨?_, ?_⟩, ⟨?_, ?_⟩, fun i hi => ?_, fun i hi => ⟨(nt2 i hi).1, (nt2 i hi).2, fun h2 => ?_⟩, fun i hi => ?_, h.sz⟩
  · exact new_only (S := fun i => At ta i ∨ i = p) h.same (Only.trans (hO3.mono (fun _ _ h => .inl h)) hO4 (fun _ _ h => .inr h)) (fun i hi => hi.elim (fun h1 => h.new i (.inl h1)) (fun h1 => by have := h.sz; omega))
  · exact hO4.obj (hO3.obj h.res (fun h1 => (h.nt s h1).1 rfl)) h.sz.2.2
  · rw [hw4]; exact setCell_heap (hO3.obj h.arr (fun h1 => (h.nt p h1).2.1 rfl)) 2 _
  · rw [madeT_snoc _ _ _ _ _ _ _ hx, flat_snoc]
    exact (hG.own.keep hS3 (fun _ _ => id)).keep hO4 (fun i hi e => (nt2 i hi).2 e)
  · rw [madeT_snoc _ _ _ _ _ _ _ hx, List.length_append, h.st.2]; rfl
  · rw [madeS_snoc _ _ _ _ _ hx]
    exact hP.1.keep hO4 (fun i hi e => by
      rcases hF3 i hi with h1 | h1
      · exact (h.ns i h1).2 e
      · omega)
  · rw [madeS_snoc _ _ _ _ _ hx]; exact hP.2
  · rcases hi with hi | hi
    · rcases ft i hi with h1 | h1
      · exact h.new i (.inl h1)
      · omega
    · rcases hF3 i hi with h1 | h1
      · exact h.new i (.inr h1)
      · omega
  · rcases hF3 i h2 with h1 | h1
    · rcases ft i hi with h3 | h3
      · exact (h.nt i h3).2.2 h1
      · have := lsa i h1; omega
    · have := lt2 i hi; omega
  · rcases hF3 i hi with h1 | h1
    · exact h.ns i h1
    · omega

theorem ret_made {Q : Ending → World → Prop} {tmps : Array Value} {w3 : World} {r : Nat} {y n s t : Value} (h8 : tmps[8]? = some t) (h9 : tmps[9]? = some (.pointer (some ⟨r, 0, none⟩)))
    (hob : w3.heap[r]? = some (.cells #[y, n, s] 29 (0, 0))) (hQ : Q (.returned (.tuple #[t, .agg #[y, n, s]])) w3) :
    bodyPost Try.prog Try.f19 Q Exit.ret { tmps := tmps, defers := [] } w3 := by
  have c0 : w3.cell? ⟨r, 0, none⟩ = some y := block_cell hob rfl
  have c1 : w3.cell? ⟨r, 1, none⟩ = some n := block_cell hob rfl
  have c2 : w3.cell? ⟨r, 2, none⟩ = some s := block_cell hob rfl
  clear hob
  simp [bodyPost, results, Try.results19, go_sem, h8, h9, c0, c1, c2]
  exact hQ
theorem setCell_other {w : World} {b : Nat} {o : Obj} (hb : w.heap[b]? = some o) (r j : Nat) (v : Value) (h : r ≠ b) : (w.setCell ⟨r, j, none⟩ v).heap[b]? = some o := by
  have h2 : Only (fun k => k = r) w (w.setCell ⟨r, j, none⟩ v) := (Only.refl _ _).setCell _ _ (fun _ => rfl)
  exact h2.obj hb (fun e => h e.symm)
theorem Mk.start {w w1 W5 : World} {s p r m q on : Nat} {dense : Bool} {l : List Nat} (h : Same w w1) (res : w1.heap[s]? = some (.cells #[.bool false, .int .u64 0, .slice none 0 0] 29 (0, 0))) (ho : Only (fun i => i = p ∨ i = r) w1 W5)
    (harr : W5.heap[p]? = some (.cells #[.bool dense, .int .u64 (q : Int), .slice none 0 0] 29 (0, 0))) (hsz : w.heap.size ≤ s ∧ w.heap.size ≤ p ∧ s ≠ p ∧ w.heap.size ≤ r ∧ r ≠ s ∧ r ≠ p) (hw : W5.heap.size = w1.heap.size) :
    Mk w (W5.alloc (.cells (stc (firstT dense m)).toArray 27)) s p dense m q on l 0 (some ⟨w1.heap.size, 0, none⟩) 1 none 0 0 := by
  have hA : Same W5 (W5.alloc (.cells (stc (firstT dense m)).toArray 27)) := (Only.refl _ _).alloc _
  have z0 := h.size
  have ls := lt_of_heap res
  have lp := lt_of_heap harr
  have hat : ∀ i, At (some ⟨w1.heap.size, 0, none⟩) i → i = w1.heap.size := fun i hi => by have : w1.heap.size = i := hi; exact this.symm
  refine ⟨?_, ?_, hA.obj harr id, ⟨?_, rfl⟩, OU.nil _, fun i hi => ?_, fun i hi => ?_, fun i hi => hi.elim, hsz.1, hsz.2.1, hsz.2.2.1⟩
  · exact new_only (S := fun i => i = p ∨ i = r) h (ho.trans hA (fun _ _ f => f.elim)) (fun i hi => by omega)
  · exact hA.obj (ho.obj res (fun h => by omega)) id
  · have := Own.of_block (e := 27) (size := 6) (heap_alloc_new W5 (.cells (stc (firstT dense m)).toArray 27)) 1 1 (Nat.le_refl _) (by simp [maxLen]) rfl (by intro u hu; exact stc_one _ u (List.mem_of_mem_take hu))
    rw [hw] at this
    exact this
  · rcases hi with hi | hi
    · have := hat i hi; omega
    · exact hi.elim
  · have := hat i hi
    exact ⟨by omega, by omega, id⟩

set_option maxRecDepth 100000 in
set_option maxHeartbeats 3200000 in
theorem baMadeD (size on : Nat) (a : Option Addr) (n cap : Nat) (l : List Nat) (w : World) (hl : RL uv w a n cap l) (hsz : size < 65536) (hon : on < 1000) :
    Calls Try.prog 19 #[.bool true, .int .u16 (size : Int), .slice a n cap, .int .i64 (on : Int)] w (MadeQ true (1 + size % 512) ((1 + size % 512 + 63) / 64) on (l.take 40) w) := by
  have hbd := hl.bound
  have HR := Lib.hid hl
  obtain ⟨m, hm⟩ : ∃ m, 1 + size % 512 = m := ⟨_, rfl⟩
  have hm1 : 1 ≤ m ∧ m ≤ 512 := by omega
  have HB : Hid (∀ wx, Calls Try.prog 8 #[.int .u64 (m : Int), .bool false] wx (FV wx (.agg #[.bool true, .int .u64 (((m + 63) / 64 : Nat) : Int), .slice none 0 0]))) := Lib.hid (fun wx => baNew0 m (by omega) wx)
  obtain ⟨q, hq⟩ : ∃ q, (m + 63) / 64 = q := ⟨_, rfl⟩
  have hq1 : 1 ≤ q ∧ q ≤ 9 := by omega
  have e1 : IntKind.u64.wrap (size : Int) = (size : Int) := by rw [IntKind.wrap_u64]; omega
  have e2 : IntKind.u64.wrap ((size : Int).tmod 512) = (size : Int) % 512 := by
    rw [Int.tmod_eq_emod_of_nonneg (by omega), IntKind.wrap_u64]; omega
  have e3 : IntKind.u64.wrap (1 + (size : Int) % 512) = (m : Int) := by rw [IntKind.wrap_u64]; omega
  rw [hm, hq] 
  rw [hq] at HB
  clear hl hq hm
  go_enter Try.func19, Try.ntmps19
  go_wp2_with (go_at_call 8; refine (HB.out _).mono ?_)
  rintro e w1 ⟨rfl, hS1⟩
  obtain ⟨s, hs⟩ : ∃ s, w.heap.size = s := ⟨_, rfl⟩
  obtain ⟨p, hp⟩ : ∃ p, s + 1 = p := ⟨_, rfl⟩
  obtain ⟨r, hr⟩ : ∃ r, p + 1 = r := ⟨_, rfl⟩
  have HSP : Hid (w.heap.size ≤ s ∧ w.heap.size ≤ p ∧ s ≠ p ∧ w.heap.size ≤ r ∧ r ≠ s ∧ r ≠ p) := Lib.hid (by omega)
  have hA : Same w (((w.alloc (.cells #[.bool false, .int .u64 0, .slice none 0 0] 29)).alloc (.cells #[.bool false, .int .u64 0, .slice none 0 0] 29)).alloc (.cells #[.int .i64 2, .int .i64 0, .int .i64 0, .int .u64 0, .int .i64 0, .bool false] 27)) := (((Only.refl _ _).alloc _).alloc _).alloc _
  have h1 := hS1.obj (b := s) (((Only.refl (fun _ => False) _).alloc _).obj (by rw [← hs]; exact new_old' w _ _) id) id
  have h2 := hS1.obj (b := p) (((Only.refl (fun _ => False) _).alloc _).obj (heap_alloc_new' _ _ _ (by rw [World.size_alloc, ← hp, ← hs])) id) id
  have h3 := hS1.obj (b := r) (heap_alloc_new' _ _ _ (by rw [World.size_alloc, World.size_alloc, ← hr, ← hp, ← hs])) id
  have HW1 : Hid (Same w w1 ∧ w1.heap[s]? = _ ∧ w1.heap[p]? = _ ∧ w1.heap[r]? = _) := Lib.hid ⟨Same.trans hA hS1, h1, h2, h3⟩
  rw [hs, hp, hr]
  have f1 : ∀ j, w1.frozen? ⟨p, j, none⟩ = false := fun j => block_free h2
  have f2 : ∀ j, w1.frozen? ⟨r, j, none⟩ = false := fun j => block_free h3
  have d0 : w1.cell? ⟨p, 0, none⟩ = some (.bool false) := block_cell h2 rfl
  have d1 : w1.cell? ⟨p, 1, none⟩ = some (.int .u64 0) := block_cell h2 rfl
  have d2 : w1.cell? ⟨p, 2, none⟩ = some (.slice none 0 0) := block_cell h2 rfl
  have c0 : w1.cell? ⟨r, 0, none⟩ = some (.int .i64 2) := block_cell h3 rfl
  have c1 : w1.cell? ⟨r, 1, none⟩ = some (.int .i64 0) := block_cell h3 rfl
  have c2 : w1.cell? ⟨r, 2, none⟩ = some (.int .i64 0) := block_cell h3 rfl
  have c3 : w1.cell? ⟨r, 3, none⟩ = some (.int .u64 0) := block_cell h3 rfl
  have c4 : w1.cell? ⟨r, 4, none⟩ = some (.int .i64 0) := block_cell h3 rfl
  have c5 : w1.cell? ⟨r, 5, none⟩ = some (.bool false) := block_cell h3 rfl
  clear hA hS1 h1 h2 h3
  go_wp2_with fail
  clear f1 f2 d0 d1 d2 c0 c1 c2 c3 c4 c5 hs hp hr
  go_loopw [13, 14] (fun o i wr => ∃ (k j : Nat) (ta sa : Option Addr) (tc sc : Nat), o = .slice ta (k + 1) tc ∧ i = .int .i64 (k : Int) ∧ k ≤ n ∧ k ≤ 40 ∧ Hid (Mk w wr s p true m q on l k ta tc sa j sc)) (fun _ i _ => n - (intOf i).toNat)
  case atStart =>
    have hO : ∀ (v1 v2 v3 v4 v5 v6 v7 v8 v9 : Value), Only (fun i => i = p ∨ i = r) w1 (((((((((w1.setCell ⟨p, 0, none⟩ v1).setCell ⟨p, 1, none⟩ v2).setCell ⟨p, 2, none⟩ v3).setCell ⟨r, 0, none⟩ v4).setCell ⟨r, 1, none⟩ v5).setCell ⟨r, 2, none⟩ v6).setCell ⟨r, 3, none⟩ v7).setCell ⟨r, 4, none⟩ v8).setCell ⟨r, 5, none⟩ v9) := fun v1 v2 v3 v4 v5 v6 v7 v8 v9 =>
      (((((((((Only.refl _ _).setCell _ _ (fun _ => .inl rfl)).setCell _ _ (fun _ => .inl rfl)).setCell _ _ (fun _ => .inl rfl)).setCell _ _ (fun _ => .inr rfl)).setCell _ _ (fun _ => .inr rfl)).setCell _ _ (fun _ => .inr rfl)).setCell _ _ (fun _ => .inr rfl)).setCell _ _ (fun _ => .inr rfl)).setCell _ _ (fun _ => .inr rfl)
    have hrp := HSP.out.2.2.2.2.2
    obtain ⟨W5, hW5⟩ : ∃ W5, W5 = (((((((((w1.setCell ⟨p, 0, none⟩ (.bool true)).setCell ⟨p, 1, none⟩ (.int .u64 (q : Int))).setCell ⟨p, 2, none⟩ (.slice none 0 0)).setCell ⟨r, 0, none⟩ (.int .i64 1)).setCell ⟨r, 1, none⟩ (.int .i64 0)).setCell ⟨r, 2, none⟩ (.int .i64 0)).setCell ⟨r, 3, none⟩ (.int .u64 (m : Int))).setCell ⟨r, 4, none⟩ (.int .i64 0)).setCell ⟨r, 5, none⟩ (.bool false)) := ⟨_, rfl⟩
    have h1 : Only (fun i => i = p ∨ i = r) w1 W5 := by rw [hW5]; exact hO _ _ _ _ _ _ _ _ _
    have h2 : W5.heap[p]? = some (.cells #[.bool true, .int .u64 (q : Int), .slice none 0 0] 29 (0, 0)) := by
      rw [hW5]
      exact setCell_other (setCell_other (setCell_other (setCell_other (setCell_other (setCell_other (setCell_heap (setCell_heap (setCell_heap HW1.out.2.2.1 0 _) 1 _) 2 _) _ _ _ hrp) _ _ _ hrp) _ _ _ hrp) _ _ _ hrp) _ _ _ hrp) _ _ _ hrp
    have h3 : W5.heap.size = w1.heap.size := by rw [hW5]; simp only [World.size_setCell]
    rw [← hW5]
    have hM := Mk.start (dense := true) (m := m) (on := on) (l := l) HW1.out.1 HW1.out.2.1 h1 h2 HSP.out h3
    have hc : (stc (firstT true m)).toArray = #[.int .i64 1, .int .i64 0, .int .i64 0, .int .u64 (m : Int), .int .i64 0, .bool false] := rfl
    rw [hc] at hM
    clear hO hW5 h1 h2 h3
    exact ⟨0, 0, some ⟨w1.heap.size, 0, none⟩, none, 1, 0, rfl, rfl, Nat.zero_le _, by omega, Lib.hid hM⟩
  case round =>
    obtain ⟨k, j, ta, sa, tc, sc, rfl, rfl, hk, hk40, HM⟩ := hrel
    clear HW1 HB
    have hbo := HM.out.st.bound
    have hbs := HM.out.set.bound
    by_cases hlt : k < n ∧ k < 40
    · have hlt' : (k : Int) < (n : Int) := by omega
      have hlt40 : (k : Int) < 40 := by omega
      have hk0 : (0 : Int) ≤ (k : Int) := by omega
      obtain ⟨b1, o1, ha1, hb1, hc1⟩ := (HR.out.still HM.out.same).at (by omega)
      obtain ⟨x, hx⟩ := HR.out.get hlt.1
      have g1 := hc1 k x hx
      have HX := Lib.hid hx
      subst ha1
      clear hc1 hx
      obtain ⟨y, hy⟩ : ∃ y : Nat, x % 1152921504606846976 = y := ⟨_, rfl⟩
      have hy60 : y < 1152921504606846976 := by omega
      have e4 : (x : Int) % 1152921504606846976 = (y : Int) := by omega
      have e4w : IntKind.u64.wrap (y : Int) = (y : Int) := by rw [IntKind.wrap_u64]; omega
      have e5w : IntKind.u64.wrap (64 * (q : Int)) = 64 * (q : Int) := by rw [IntKind.wrap_u64]; omega
      have h0 : ¬ (64 * (q : Int)) = 0 := by omega
      have h0b : ((64 * (q : Int)) == 0) = false := by rw [beq_eq_false_iff_ne]; omega
      obtain ⟨z, hz⟩ : ∃ z : Nat, y % (64 * q) = z := ⟨_, rfl⟩
      have hz60 : z < 64 * q := by rw [← hz]; exact Nat.mod_lt _ (by omega)
      have e6 : (y : Int) % (64 * (q : Int)) = (z : Int) := by rw [← hz]; simp
      have e6t : (y : Int).tmod (64 * (q : Int)) = (z : Int) := by rw [Int.tmod_eq_emod_of_nonneg (by omega)]; exact e6
      have e6w : IntKind.u64.wrap (z : Int) = (z : Int) := by rw [IntKind.wrap_u64]; omega
      have HZ : Hid (cutB true q x = z) := Lib.hid (by unfold cutB; rw [if_pos rfl, hy, hz])
      clear hy hz
      have e0 : wr.cell? ⟨p, 1, none⟩ = some (.int .u64 (q : Int)) := block_cell HM.out.arr rfl
      go_wp2_with (at_builtin; refine wpList_append (k + 1 + 1) ((madeT true m q on (l.take k)).flatMap stc ++ stc { op := 3, on := on, k := z }) rfl _ _ _ _ rfl slStp rfl (HM.out.st.1.keep (S := fun _ => False) (by repeat (first | exact Only.refl _ _ | apply Only.alloc | apply Only.drew)) (fun _ _ => id)) rfl (Src.row (size := 6) (cs := #[.int .i64 3, .int .i64 (on : Int), .int .i64 0, .int .u64 (z : Int), .int .i64 0, .bool false]) (t := 27) (fr := (0, 0)) Try.underlying41 (by exact heap_alloc_new _ _) 1 1 rfl (by simp [Value.oneCell'])) rfl rfl (by unfold maxLen; omega) (by omega) ?_)
      intro ta2 tc2 w2 hG
      have hO2 : Only (At ta) wr w2 := Only.trans (S := At ta) ((Only.refl (At ta) wr).alloc _) hG.only (fun _ _ h => h)
      have hap : ¬ At ta p := fun h => (HM.out.nt p h).2.1 rfl
      have hb2 := hO2.obj HM.out.arr hap
      have g2 : w2.cell? ⟨p, 2, none⟩ = some (.slice sa j sc) := block_cell hb2 rfl
      have hou : OU w2 sa j sc (madeS true q (l.take k)) := ⟨HM.out.set.1.keep hO2 (fun i hi h => (HM.out.nt i h).2.2 hi), HM.out.set.2⟩
      have hjl : j ≤ 1000000 := by
        have h1 := madeS_len true q (l.take k)
        have h2 := HM.out.set.2
        have h3 : (l.take k).length ≤ k := by rw [List.length_take]; omega
        omega
      have HPUT : Hid (Calls Try.prog 15 #[.slice sa j sc, .int .u64 (z : Int)] w2 (PutP (put (madeS true q (l.take k)) z) sa w2)) := Lib.hid (baPut hou (madeS_asc _ _ _) z hjl)
      have HGG := Lib.hid hG
      have HB2 := Lib.hid hb2
      clear hG hO2 hap hb2 hou g1 e0
      go_wp2_with (go_at_call 15; refine HPUT.out.mono ?_)
      rintro e w3 ⟨sa2, sc2, rfl, hP, hS3, hF3⟩
      have HP3 := Lib.hid (And.intro hP (And.intro hS3 hF3))
      have hb3 := hS3.obj HB2.out id
      have f3 : ∀ i, w3.frozen? ⟨p, i, none⟩ = false := fun i => block_free hb3
      have g3 : w3.cell? ⟨p, 2, none⟩ = some (.slice sa j sc) := block_cell hb3 rfl
      obtain ⟨j2, hj2⟩ : ∃ j2, (put (madeS true q (l.take k)) z).length = j2 := ⟨_, rfl⟩
      rw [hj2] at HP3
      rw [hj2]
      have HFIN : Hid (∀ w4, w4 = w3.setCell ⟨p, 2, none⟩ (.slice sa2 j2 sc2) → Mk w w4 s p true m q on l (k + 1) ta2 tc2 sa2 j2 sc2) := Lib.hid (fun w4 h4 => HM.out.step HX.out (by rw [HZ.out]; exact HGG.out) (by rw [HZ.out]; exact HP3.out.1) HP3.out.2.1 HP3.out.2.2 h4)
      clear hP hS3 hF3 hb3 HPUT g2 hj2
      go_wp2_with fail
      go_roundw
      case rel => exact ⟨k + 1, j2, ta2, sa2, tc2, sc2, rfl, by go_num, by omega, by omega, Lib.hid (HFIN.out _ rfl)⟩
      case measure => simp [intOf]; omega
    · have HT : Hid ((l.take 40).length = k ∧ l.take k = l.take 40) := Lib.hid (by
        have h1 := HR.out.2
        rw [List.length_take]
        refine ⟨by omega, ?_⟩
        by_cases e : k = 40
        · rw [e]
        · have : k = n := by omega
          rw [List.take_of_length_le (by omega), List.take_of_length_le (by omega)])
      have c0 : wr.cell? ⟨p, 0, none⟩ = some (.bool true) := block_cell HM.out.arr rfl
      have c1 : wr.cell? ⟨p, 1, none⟩ = some (.int .u64 (q : Int)) := block_cell HM.out.arr rfl
      have c2 : wr.cell? ⟨p, 2, none⟩ = some (.slice sa j sc) := block_cell HM.out.arr rfl
      have d0 : wr.cell? ⟨s, 0, none⟩ = some (.bool false) := block_cell HM.out.res rfl
      have d1 : wr.cell? ⟨s, 1, none⟩ = some (.int .u64 0) := block_cell HM.out.res rfl
      have d2 : wr.cell? ⟨s, 2, none⟩ = some (.slice none 0 0) := block_cell HM.out.res rfl
      have f2 : ∀ i, wr.frozen? ⟨s, i, none⟩ = false := fun i => block_free HM.out.res
      have HQ : Hid (∀ w', Only (fun i => i = s) wr w' → MadeQ true m q on (l.take 40) w (.returned (.tuple #[.slice ta (k + 1) tc, .agg #[.bool true, .int .u64 (q : Int), .slice sa j sc]])) w') := Lib.hid (fun w' hw => by
        have h1 := HM.out.st.keep hw (fun i hi e => (HM.out.nt i hi).1 e)
        have h2 : OU w' sa j sc (madeS true q (l.take k)) := ⟨HM.out.set.1.keep hw (fun i hi e => (HM.out.ns i hi).1 e), HM.out.set.2⟩
        rw [HT.out.2] at h1 h2
        have hj := h2.2
        have hk' := HT.out.1
        refine ⟨ta, tc, sa, sc, by rw [hj, hk'], by rw [hk']; exact h1, by rw [hj]; exact h2, new_only HM.out.same hw (fun i hi => by rw [hi]; exact HM.out.sz.1), fun i => ⟨fun hi => ⟨HM.out.new i (.inl hi), (HM.out.nt i hi).2.2⟩, fun hi => HM.out.new i (.inr hi)⟩⟩)
      have hO : ∀ v1 v2 v3 : Value, Only (fun i => i = s) wr (((wr.setCell ⟨s, 0, none⟩ v1).setCell ⟨s, 1, none⟩ v2).setCell ⟨s, 2, none⟩ v3) := fun v1 v2 v3 => (((Only.refl (fun i => i = s) wr).setCell ⟨s, 0, none⟩ v1 (fun _ => rfl)).setCell ⟨s, 1, none⟩ v2 (fun _ => rfl)).setCell ⟨s, 2, none⟩ v3 (fun _ => rfl)
      have HO := Lib.hid hO
      clear hO
      by_cases hkn : k < n
      · have hlt' : (k : Int) < (n : Int) := by omega
        have hlt40 : ¬ (k : Int) < 40 := by omega
        go_wp2_with fail
        go_region
        all_goals
          go_wp2_with fail
          exact ret_made rfl rfl (setCell_heap (setCell_heap (setCell_heap HM.out.res 0 _) 1 _) 2 _) (HQ.out _ (HO.out _ _ _).drew)
      · have hlt' : ¬ (k : Int) < (n : Int) := by omega
        go_wp2_with fail
        go_region
        all_goals
          go_wp2_with fail
          exact ret_made rfl rfl (setCell_heap (setCell_heap (setCell_heap HM.out.res 0 _) 1 _) 2 _) (HQ.out _ (HO.out _ _ _).drew)
end Go.Proofs.Ytacjkbljokjdkaa.ba
