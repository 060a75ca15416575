/-
  A heap in memory; newEntry, IsEmpty, Size, Enqueue, Min.
-/
import Derived.Test.YtpddddjfjmipfaaFhFo
namespace Go.Proofs.Ytpddddjfjmipfaa.fh
open Go.RowKit Go.Proofs.Ytpddddjfjmipfaa.base Go.Proofs.Ytpddddjfjmipfaa.heap Go.Proofs.Ytpddddjfjmipfaa.rows Go.Proofs.Ytpddddjfjmipfaa.flt
set_option linter.unusedVariables false

abbrev TH : Nat := 48
def HObj (w : World) (hb : Nat) (mn : Option Nat) (n : Nat) : Prop := w.heap[hb]? = some (.cells #[po mn, .int .u64 (n : Int)] 48 (0, 0))
section
variable {w w' : World} {hb n n' : Nat} {mn mn' : Option Nat}
theorem HObj.c0 (h : HObj w hb mn n) : w.cell? ⟨hb, 0, none⟩ = some (po mn) := block_cell h rfl
theorem HObj.c1 (h : HObj w hb mn n) : w.cell? ⟨hb, 1, none⟩ = some (.int .u64 (n : Int)) := block_cell h rfl
theorem HObj.fr (h : HObj w hb mn n) (i : Nat) : w.frozen? ⟨hb, i, none⟩ = false := block_free h
theorem HObj.lt (h : HObj w hb mn n) : hb < w.heap.size := lt_of_heap h
theorem HObj.keep {S : Nat → Prop} (h : HObj w hb mn n) (ho : Only S w w') (hn : ¬ S hb) : HObj w' hb mn n := ho.obj h hn
theorem HObj.set0 (h : HObj w hb mn n) (mn' : Option Nat) : HObj (w.setCell ⟨hb, 0, none⟩ (po mn')) hb mn' n := by
  have := setCell_heap h 0 (po mn')
  simpa [HObj] using this
theorem HObj.set1 (h : HObj w hb mn n) (n' : Nat) : HObj (w.setCell ⟨hb, 1, none⟩ (.int .u64 (n' : Int))) hb mn n' := by
  have := setCell_heap h 1 (.int .u64 (n' : Int))
  simpa [HObj] using this
end
/-- the heap, with its least root -/
structure Hp (w : World) (hb : Nat) (F : Fs) (G : Gs) (A : List Nat) (mn : Option Nat) : Prop where
  obj : HObj w hb mn A.length
  mem : Mem w F (· ∈ A)
  fo : Fo F G A []
  ord : Ord F G (fun _ => False)
  min : (mn = none ∧ A = []) ∨ ∃ m, mn = some m ∧ Least F G m
  nin : hb ∉ A
/-- a heap: its entries, and their priorities -/
def HpX (w : World) (hb : Nat) (A : List Nat) (pr : Nat → Nat) : Prop := ∃ F G mn, Hp w hb F G A mn ∧ ∀ u ∈ A, F.pr u = pr u
/-- the blocks of a heap -/
def Fp (hb : Nat) (A : List Nat) (k : Nat) : Prop := k = hb ∨ k ∈ A
section
variable {w w' : World} {hb : Nat} {F : Fs} {G : Gs} {A : List Nat} {mn : Option Nat} {pr : Nat → Nat}
theorem Hp.keep {S : Nat → Prop} (h : Hp w hb F G A mn) (ho : Only S w w') (hn : ∀ k, Fp hb A k → ¬ S k) : Hp w' hb F G A mn :=
  ⟨h.obj.keep ho (hn _ (.inl rfl)), h.mem.keep ho (fun k hk => hn k (.inr hk)), h.fo, h.ord, h.min, h.nin⟩
theorem HpX.keep {S : Nat → Prop} (h : HpX w hb A pr) (ho : Only S w w') (hn : ∀ k, Fp hb A k → ¬ S k) : HpX w' hb A pr := by
  obtain ⟨F, G, mn, h1, h2⟩ := h
  exact ⟨F, G, mn, h1.keep ho hn, h2⟩
theorem HpX.still (h : HpX w hb A pr) (ho : Same w w') : HpX w' hb A pr := h.keep ho (fun _ _ => id)
theorem Hp.lt (h : Hp w hb F G A mn) : ∀ k, Fp hb A k → k < w.heap.size := fun k hk => by
  rcases hk with rfl | hk
  · exact h.obj.lt
  · exact h.mem.lt hk
theorem HpX.lt (h : HpX w hb A pr) : ∀ k, Fp hb A k → k < w.heap.size := by
  obtain ⟨F, G, mn, h1, h2⟩ := h
  exact h1.lt
theorem Hp.root (h : Hp w hb F G A mn) {m : Nat} (hm : mn = some m) : m ∈ G .root ∧ m ∈ A := by
  rcases h.min with ⟨h1, _⟩ | ⟨m', h1, h2⟩
  · rw [hm] at h1; cases h1
  · rw [hm] at h1
    cases h1
    exact ⟨h2.1, h.fo.mem h2.1⟩
end

theorem store_f {P : Program} {w : World} {a : Addr} {c : Value} (v : Nat) (hc : w.cell? a = some c) (hf : w.frozen? a = false) : Sem.run P (store a (.float .f64 v)) w = .ok () (w.setCell a (.float .f64 v)) := by
  rw [run_store P w a _ _ rfl, hc]
  simp [hf]
/-- a new entry, alone -/
def NeP (v : Nat) (w : World) (e : Ending) (w' : World) : Prop :=
  e = .returned (pp w.heap.size) ∧ w'.heap[w.heap.size]? = some (.cells #[.int .i64 0, .bool false, pp w.heap.size, pp w.heap.size, .pointer none, .pointer none, .float .f64 v] 84 (0, 0)) ∧ Same w w'
set_option maxRecDepth 100000 in
theorem newEntry (v : Nat) (w : World) : Calls Try.prog 39 #[.float .f64 v] w (NeP v w) := by
  go_enter Try.func39, Try.ntmps39
  go_wp2_with fail
  rw [store_f (c := .float .f64 0) v (block_cell (heap_alloc_new _ _) rfl) (block_free (heap_alloc_new _ _))]
  go_wp2_with fail
  go_ret
  refine ⟨rfl, ?_, ?_⟩
  · exact heap_alloc_new _ _
  · exact (Only.refl _ _).alloc _
theorem isEmpty (w : World) (hb n : Nat) (mn : Option Nat) (h : HObj w hb mn n) : Calls Try.prog 18 #[pp hb] w fun e w' => e = .returned (.bool (n == 0)) ∧ w = w' := by
  have c1 := h.c1
  have e : ((n : Int) == 0) = (n == 0) := by
    cases n with
    | zero => rfl
    | succ n => simp; omega
  clear h
  go_enter Try.func18, Try.ntmps18
  go_wp2_with fail
  go_ret
  exact ⟨by rw [← e]; rfl, rfl⟩
theorem size (w : World) (hb n : Nat) (mn : Option Nat) (h : HObj w hb mn n) : Calls Try.prog 17 #[pp hb] w fun e w' => e = .returned (.int .u64 (n : Int)) ∧ w = w' := by
  have c1 := h.c1
  clear h
  go_enter Try.func17, Try.ntmps17
  go_wp2_with fail
  go_ret
  exact ⟨rfl, rfl⟩

/-- what Enqueue hands back -/
def EnP (hb : Nat) (A : List Nat) (pr : Nat → Nat) (v : Nat) (w : World) (e : Ending) (w' : World) : Prop :=
  ∃ b, e = .returned (pp b) ∧ w.heap.size ≤ b ∧ HpX w' hb (A ++ [b]) (put pr b v) ∧ Only (Fp hb A) w w'
theorem nw_mem {w w1 : World} {F : Fs} {A : List Nat} {b v : Nat} (h : Mem w F (· ∈ A)) (hs : Same w w1) (hA : b ∉ A) (hb : w1.heap[b]? = some (.cells #[.int .i64 0, .bool false, pp b, pp b, .pointer none, .pointer none, .float .f64 v] 84 (0, 0))) : Mem w1 (Nw F b v) (· ∈ A ++ [b]) := fun u hu => by
  rcases List.mem_append.1 hu with hu | hu
  · have hne : u ≠ b := fun e => hA (e ▸ hu)
    have := (h.still hs) u hu
    unfold NodeAt at this ⊢
    simpa [Nw, put_other hne] using this
  · simp at hu
    subst hu
    unfold NodeAt
    simp only [Nw, put_same]
    exact hb
set_option maxRecDepth 100000 in
set_option maxHeartbeats 1600000 in
theorem enqueue (hb : Nat) (A : List Nat) (pr : Nat → Nat) (v : Nat) (w : World) (h : HpX w hb A pr) (hv : FinW v) (hsz : A.length < 1000000) :
    Calls Try.prog 24 #[pp hb, .float .f64 v] w (EnP hb A pr v w) := by
  obtain ⟨F, G, mn, hp, hpr⟩ := h
  have HNE := Lib.hid (newEntry v w)
  have hbs : hb < w.heap.size := hp.obj.lt
  obtain ⟨b, hbe⟩ : ∃ b, w.heap.size = b := ⟨_, rfl⟩
  have hbA : b ∉ A := fun hu => by have := hp.mem.lt hu; omega
  have HB := Lib.hid hbe
  have hnb : hb ≠ b := by omega
  have s1 : IntKind.u64.wrap ((A.length : Int) + 1) = ((A.length + 1 : Nat) : Int) := by rw [IntWalk.u64_in _ (by omega)]; omega
  have HS := Lib.hid s1
  clear s1 hbe
  rcases hp.min with ⟨rfl, hA⟩ | ⟨m, rfl, hl⟩
  · subst hA
    have HM := Lib.hid (fun y wx => merge_nil1 y wx)
    have HF : Hid (∀ w1, Same w w1 → w1.heap[b]? = some (.cells #[.int .i64 0, .bool false, pp b, pp b, .pointer none, .pointer none, .float .f64 v] 84 (0, 0)) →
        HObj w1 hb none 0 ∧ ∀ w2, w2 = (w1.setCell ⟨hb, 0, none⟩ (pp b)).setCell ⟨hb, 1, none⟩ (.int .u64 1) → HpX w2 hb [b] (put pr b v) ∧ Only (Fp hb []) w w2) := Lib.hid (fun w1 hs h1 => by
      have ho : HObj w1 hb none 0 := hp.obj.keep hs id
      refine ⟨ho, ?_⟩
      rintro w2 rfl
      have ho2 : HObj ((w1.setCell ⟨hb, 0, none⟩ (pp b)).setCell ⟨hb, 1, none⟩ (.int .u64 1)) hb (some b) 1 := (ho.set0 (some b)).set1 1
      have hO : Only (fun k => k = hb) w1 ((w1.setCell ⟨hb, 0, none⟩ (pp b)).setCell ⟨hb, 1, none⟩ (.int .u64 1)) := ((Only.refl (fun k => k = hb) w1).setCell ⟨hb, 0, none⟩ _ (fun _ => rfl)).setCell ⟨hb, 1, none⟩ _ (fun _ => rfl)
      have hM := (nw_mem hp.mem hs hbA h1).keep hO (fun k hk e => by simp at hk; omega)
      have fo := hp.fo.enq0 (b := b) hv
      refine ⟨⟨_, _, some b, ⟨ho2, hM, fo, fun p c hc => ?_, .inr ⟨b, rfl, ?_, fun r hr => ?_⟩, by simp; exact hnb⟩, fun u hu => ?_⟩, Only.trans (S := Fp hb []) (hs.mono (fun _ _ f => f.elim)) hO (fun k _ hk => .inl hk)⟩
      · have := fo.kids p c hc
        have := fo.mem hc
        exact absurd hc (by rw [gput_other (by simp)]; intro h3; have := hp.fo.mem h3; cases this)
      · rw [gput_same]; simp
      · rw [gput_same] at hr; simp at hr; subst hr; exact Int.le_refl _
      · simp at hu; subst hu
        show put F.pr u v u = put pr u v u
        rw [put_same, put_same])
    clear hp hpr
    go_enter Try.func24, Try.ntmps24
    go_wp2_with (go_at_call 39; with_reducible refine HNE.out.mono ?_)
    rintro e w1 h3
    obtain ⟨rfl, h1, hs⟩ : e = .returned (pp w.heap.size) ∧ w1.heap[w.heap.size]? = some (.cells #[.int .i64 0, .bool false, pp w.heap.size, pp w.heap.size, .pointer none, .pointer none, .float .f64 v] 84 (0, 0)) ∧ Same w w1 := h3
    rw [HB.out] at h1 ⊢
    have HR := Lib.hid (HF.out w1 hs h1)
    have c0 := HR.out.1.c0
    have c1 := HR.out.1.c1
    have f0 := HR.out.1.fr
    have HM2 : Hid (∀ wx, Calls Try.prog 40 #[.pointer none, pp b] wx fun e w' => e = .returned (pp b) ∧ wx = w') := Lib.hid (fun wx => HM.out (some b) wx)
    clear h1 hs HF HNE
    replace c0 : w1.cell? ⟨hb, 0, none⟩ = some (.pointer none) := c0
    replace c1 : w1.cell? ⟨hb, 1, none⟩ = some (.int .u64 0) := c1
    go_wp2_with (go_at_call 40; (with_reducible refine (HM2.out _).mono ?_); rintro e w2 ⟨rfl, rfl⟩)
    go_ret
    have := HR.out.2 _ rfl
    exact ⟨b, rfl, by have := HB.out; omega, this⟩
  · have hmA : m ∈ A := hp.fo.mem hl.1
    have hmb : m ≠ b := fun e => hbA (e ▸ hmA)
    have fx : FinW ((Nw F b v).pr m) := by show FinW (put F.pr b v m); rw [put_other hmb]; exact hp.fo.fin m hmA
    have fy : FinW ((Nw F b v).pr b) := by show FinW (put F.pr b v b); rw [put_same]; exact hv
    have e1 : (Nw F b v).nx m = F.nx m := put_other hmb
    have e2 : (Nw F b v).nx b = b := put_same
    have hnm : F.nx m ∈ A := hp.fo.mem (ring_nx_mem (hp.fo.rings.ring .root) m hl.1)
    have e3 : (Nw F b v).pr m = F.pr m := put_other hmb
    have e4 : (Nw F b v).pr b = v := put_same
    obtain ⟨z, hz⟩ : ∃ z, (if fval (F.pr m) < fval v then m else b) = z := ⟨_, rfl⟩
    have HF : Hid (∀ w1, Same w w1 → w1.heap[b]? = some (.cells #[.int .i64 0, .bool false, pp b, pp b, .pointer none, .pointer none, .float .f64 v] 84 (0, 0)) →
        HObj w1 hb (some m) A.length ∧ Calls Try.prog 40 #[pp m, pp b] w1 (fun e w2 => e = .returned (pp z) ∧ HObj w2 hb (some m) A.length ∧ ∀ w3, w3 = (w2.setCell ⟨hb, 0, none⟩ (pp z)).setCell ⟨hb, 1, none⟩ (.int .u64 ((A.length + 1 : Nat) : Int)) → HpX w3 hb (A ++ [b]) (put pr b v) ∧ Only (Fp hb A) w w3)) := Lib.hid (fun w1 hs h1 => by
      have ho : HObj w1 hb (some m) A.length := hp.obj.keep hs id
      refine ⟨ho, ?_⟩
      have hM1 := nw_mem hp.mem hs hbA h1
      have hme := merge2 m b (Nw F b v) (· ∈ A ++ [b]) w1 hM1 (by simp [hmA]) (by simp) (by rw [e1]; simp [hnm]) (by rw [e2]; simp) hmb (by rw [e1, e2]; exact fun e => hbA (e ▸ hnm)) fx fy
      refine hme.mono ?_
      rintro e w2 ⟨he, hM2, hO2⟩
      rw [e3, e4, hz] at he
      have hno : ¬ (hb ∈ A ++ [b]) := by simp; exact ⟨hp.nin, hnb⟩
      have ho2 : HObj w2 hb (some m) A.length := ho.keep hO2 hno
      refine ⟨he, ho2, ?_⟩
      rintro w3 rfl
      have hO3 : Only (fun k => k = hb) w2 ((w2.setCell ⟨hb, 0, none⟩ (pp z)).setCell ⟨hb, 1, none⟩ (.int .u64 ((A.length + 1 : Nat) : Int))) := ((Only.refl (fun k => k = hb) w2).setCell ⟨hb, 0, none⟩ _ (fun _ => rfl)).setCell ⟨hb, 1, none⟩ _ (fun _ => rfl)
      have ho3 : HObj ((w2.setCell ⟨hb, 0, none⟩ (pp z)).setCell ⟨hb, 1, none⟩ (.int .u64 ((A.length + 1 : Nat) : Int))) hb (some z) (A.length + 1) := (ho2.set0 (some z)).set1 (A.length + 1)
      obtain ⟨G', fo, hr, hk⟩ := hp.fo.enq hbA hv hl.1
      have hpr' : ∀ u, u ∈ A → put F.pr b v u = pr u := fun u hu => by rw [put_other (fun (e : u = b) => hbA (e ▸ hu))]; exact hpr u hu
      refine ⟨⟨_, G', some z, ⟨by rw [List.length_append]; exact ho3, hM2.keep hO3 (fun k hk e => hno (by rw [← (show k = hb from e)]; exact hk)), fo, fun p c hc _ => ?_, .inr ⟨z, rfl, ?_, fun r hrr => ?_⟩, hno⟩, fun u hu => ?_⟩, ?_⟩
      · rw [hk] at hc
        show fval (put F.pr b v p) ≤ fval (put F.pr b v c)
        rw [put_other (fun (e : p = b) => hbA (e ▸ hp.fo.kids p c hc)), put_other (fun (e : c = b) => hbA (e ▸ hp.fo.mem hc))]
        exact hp.ord p c hc (fun f => f)
      · rw [hr.mem_iff, ← hz]
        split
        · simp [hl.1]
        · simp
      · have hrr' := hr.mem_iff.1 hrr
        show fval (put F.pr b v z) ≤ fval (put F.pr b v r)
        rw [← hz]
        rcases List.mem_append.1 hrr' with h5 | h5
        · rw [put_other (show r ≠ b from fun e => hbA (e ▸ hp.fo.mem h5))]
          have := hl.2 r h5
          split
          · rw [put_other hmb]; exact this
          · rw [put_same]; omega
        · simp at h5
          subst h5
          rw [put_same]
          split
          · rw [put_other hmb]; omega
          · rw [put_same]; exact Int.le_refl _
      · rcases List.mem_append.1 hu with hu | hu
        · show put F.pr b v u = put pr b v u
          rw [hpr' u hu, put_other (fun (e : u = b) => hbA (e ▸ hu))]
        · simp at hu
          subst hu
          show put F.pr u v u = put pr u v u
          rw [put_same, put_same]
      · have hO12 : Only (Fp hb A) w w2 := Only.trans (S := Fp hb A) (hs.mono (fun _ _ f => f.elim)) hO2 (fun k hk hkA => by
          rcases List.mem_append.1 hkA with h6 | h6
          · exact .inr h6
          · simp at h6; have := HB.out; omega)
        exact hO12.trans hO3 (fun k hk e => .inl e))
    clear hp hpr hl hmA hmb fx fy e1 e2 hnm e3 e4
    go_enter Try.func24, Try.ntmps24
    go_wp2_with (go_at_call 39; with_reducible refine HNE.out.mono ?_)
    rintro e w1 h3
    obtain ⟨rfl, h1, hs⟩ : e = .returned (pp w.heap.size) ∧ w1.heap[w.heap.size]? = some (.cells #[.int .i64 0, .bool false, pp w.heap.size, pp w.heap.size, .pointer none, .pointer none, .float .f64 v] 84 (0, 0)) ∧ Same w w1 := h3
    rw [HB.out] at h1 ⊢
    have HR := Lib.hid (HF.out w1 hs h1)
    have c0 := HR.out.1.c0
    have f0 := HR.out.1.fr
    clear h1 hs HF HNE
    replace c0 : w1.cell? ⟨hb, 0, none⟩ = some (pp m) := c0
    go_wp2_with (go_at_call 40; with_reducible refine HR.out.2.mono ?_)
    rintro e w2 ⟨rfl, ho2, h3⟩
    have H3 := Lib.hid h3
    have c2 := ho2.c0
    have c3 := ho2.c1
    have f2 := ho2.fr
    replace c2 : w2.cell? ⟨hb, 0, none⟩ = some (pp m) := c2
    have hs1 := HS.out
    clear ho2 h3 c0 f0
    go_wp2_with fail
    go_ret
    exact ⟨b, rfl, by have := HB.out; omega, H3.out _ (by rw [show ((A.length + 1 : Nat) : Int) = (A.length : Int) + 1 by omega])⟩

/-- what Min hands back -/
def MiP (A : List Nat) (pr : Nat → Nat) (w : World) (e : Ending) (w' : World) : Prop :=
  w = w' ∧ ((A = [] ∧ ∃ er, er ≠ .nilIface ∧ (∃ t v, er = .iface t v) ∧ e = .returned (.tuple #[.pointer none, er])) ∨ ∃ m ∈ A, (∀ u ∈ A, fval (pr m) ≤ fval (pr u)) ∧ e = .returned (.tuple #[pp m, .nilIface]))
set_option maxRecDepth 100000 in
theorem min (hb : Nat) (A : List Nat) (pr : Nat → Nat) (w : World) (h : HpX w hb A pr) : Calls Try.prog 26 #[pp hb] w (MiP A pr w) := by
  obtain ⟨F, G, mn, hp, hpr⟩ := h
  have HE := Lib.hid (isEmpty w hb A.length mn hp.obj)
  rcases hp.min with ⟨rfl, hA⟩ | ⟨m, rfl, hl⟩
  · subst hA
    clear hp hpr
    go_enter Try.func26, Try.ntmps26
    go_wp2_with (go_at_call 18; (with_reducible refine HE.out.mono ?_); rintro e w1 ⟨rfl, rfl⟩)
    go_ret2
    exact ⟨rfl, .inl ⟨rfl, _, by simp, ⟨_, _, rfl⟩, rfl⟩⟩
  · have hmA := hp.fo.mem hl.1
    have hle := hp.fo.least hp.ord hl
    have HF : Hid (∀ u ∈ A, fval (pr m) ≤ fval (pr u)) := Lib.hid (fun u hu => by rw [← hpr m hmA, ← hpr u hu]; exact hle u hu)
    have hn : (A.length == 0) = false := by
      cases A with
      | nil => cases hmA
      | cons a l => rfl
    have c0 := hp.obj.c0
    replace c0 : w.cell? ⟨hb, 0, none⟩ = some (pp m) := c0
    rw [hn] at HE
    clear hp hpr hl hle hn
    go_enter Try.func26, Try.ntmps26
    go_wp2_with (go_at_call 18; (with_reducible refine HE.out.mono ?_); rintro e w1 ⟨rfl, rfl⟩)
    go_ret2
    exact ⟨rfl, .inr ⟨m, hmA, HF.out, rfl⟩⟩
end Go.Proofs.Ytpddddjfjmipfaa.fh
