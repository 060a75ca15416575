/-
  The sparse bit array: SetBit.
-/
import Derived.Test.YtacjkbljokjdkaaBaIns
import Derived.Test.YtacjkbljokjdkaaBaArr
namespace Go.Proofs.Ytacjkbljokjdkaa.ba
open Go.RowKit Go.Proofs.Ytacjkbljokjdkaa.base Go.Proofs.Ytacjkbljokjdkaa.heap Go.Proofs.Ytacjkbljokjdkaa.rows Go.Proofs.Ytacjkbljokjdkaa.bit Go.Proofs.Ytacjkbljokjdkaa.bs
set_option linter.unusedVariables false
/-- in the course of setting: the two rows -/
def SpMid (w w2 : World) (p : Nat) (ab ai : Option Addr) (I B : List Nat) (ab2 : Option Addr) (cb2 : Nat) (ai2 : Option Addr) (ci2 : Nat) : Prop :=
  w2.heap[p]? = some (.cells #[.slice ab2 B.length cb2, .slice ai2 I.length ci2] 99 (0, 0)) ∧ Own 79 1 w2 ab2 B.length cb2 (U B) ∧ Own 24 1 w2 ai2 I.length ci2 (U I) ∧
    ¬ At ab2 p ∧ ¬ At ai2 p ∧ (∀ k, At ab2 k → ¬ At ai2 k) ∧ Only (Fs p ab ai) w w2 ∧ ∀ k, Fs p ab2 ai2 k → Fs p ab ai k ∨ w.heap.size ≤ k
section
variable {w w1 w2 : World} {p cb ci : Nat} {ab ai ab2 ai2 : Option Addr} {cb2 ci2 : Nat} {I B : List Nat}
theorem SpMid.idx (h : SpMid w w1 p ab ai I B ab2 cb2 ai2 ci2) {I' : List Nat} {v : Value} {e : Ending} (hr : RowP p 1 24 #[.slice ab2 B.length cb2, .slice ai2 I.length ci2] 99 ai2 I' v w1 e w2) :
    e = .returned v ∧ ∃ ai3 ci3, SpMid w w2 p ab ai I' B ab2 cb2 ai3 ci3 := by
  obtain ⟨h1, h2, h3, h4, h5, h6, h7, h8⟩ := h
  obtain ⟨a', c', rfl, g1, g2, g3, g4⟩ := hr
  have hpl := lt_of_heap h1
  have hab : ∀ k, At ab2 k → ¬ (k = p ∨ At ai2 k) := fun k hk h => h.elim (fun e => h4 (by rw [← e]; exact hk)) (fun e => h6 k hk e)
  have hal := h2.lt
  refine ⟨rfl, a', c', g1, h2.keep g3 hab, g2, h4, fun e => ?_, fun k hk e => ?_, h7.trans g3 (fun k hk h => ?_), fun k hk => ?_⟩
  · rcases g4 p e with h | h
    · exact h5 h
    · omega
  · rcases g4 k e with h | h
    · exact h6 k hk h
    · have := hal k hk; omega
  · rcases h with h | h
    · exact .inl h
    · rcases h8 k (.inr (.inr h)) with h9 | h9
      · exact h9
      · omega
  · rcases hk with hk | hk | hk
    · exact .inl (.inl hk)
    · exact h8 k (.inr (.inl hk))
    · rcases g4 k hk with h | h
      · exact h8 k (.inr (.inr h))
      · have := h7.size; exact .inr (by omega)
theorem SpMid.blk (h : SpMid w w1 p ab ai I B ab2 cb2 ai2 ci2) {B' : List Nat} {v : Value} {e : Ending} (hr : RowP p 0 79 #[.slice ab2 B.length cb2, .slice ai2 I.length ci2] 99 ab2 B' v w1 e w2) :
    e = .returned v ∧ ∃ ab3 cb3, SpMid w w2 p ab ai I B' ab3 cb3 ai2 ci2 := by
  obtain ⟨h1, h2, h3, h4, h5, h6, h7, h8⟩ := h
  obtain ⟨a', c', rfl, g1, g2, g3, g4⟩ := hr
  have hpl := lt_of_heap h1
  have hab : ∀ k, At ai2 k → ¬ (k = p ∨ At ab2 k) := fun k hk h => h.elim (fun e => h5 (by rw [← e]; exact hk)) (fun e => h6 k e hk)
  have hal := h3.lt
  refine ⟨rfl, a', c', g1, g2, h3.keep g3 hab, fun e => ?_, h5, fun k hk e => ?_, h7.trans g3 (fun k hk h => ?_), fun k hk => ?_⟩
  · rcases g4 p e with h | h
    · exact h4 h
    · omega
  · rcases g4 k hk with h | h
    · exact h6 k h e
    · have := hal k e; omega
  · rcases h with h | h
    · exact .inl h
    · rcases h8 k (.inr (.inl h)) with h9 | h9
      · exact h9
      · omega
  · rcases hk with hk | hk | hk
    · exact .inl (.inl hk)
    · rcases g4 k hk with h | h
      · exact h8 k (.inr (.inl h))
      · have := h7.size; exact .inr (by omega)
    · exact h8 k (.inr (.inr hk))
/-- a word is stored -/
theorem SpMid.put (h : SpMid w w1 p ab ai I B ab2 cb2 ai2 ci2) {b i x : Nat} (ha : ab2 = some ⟨b, 0, none⟩) (hi : i < B.length) : SpMid w (w1.setCell ⟨b, i, none⟩ (.int .u64 (x : Int))) p ab ai I (B.set i x) ab2 cb2 ai2 ci2 := by
  obtain ⟨h1, h2, h3, h4, h5, h6, h7, h8⟩ := h
  have hO : Only (fun k => k = b) w1 (w1.setCell ⟨b, i, none⟩ (.int .u64 (x : Int))) := (Only.refl _ _).setCell _ _ (fun _ => rfl)
  have hb : At ab2 b := by rw [ha]; exact rfl
  unfold SpMid
  rw [List.length_set]
  refine ⟨hO.obj h1 (fun e => h4 (by rw [e]; exact hb)), ?_, h3.keep hO (fun k hk e => h6 b hb (by rw [← e]; exact hk)), h4, h5, h6, h7.trans hO (fun k hk e => ?_), h8⟩
  · rw [← U_set]; exact h2.set ha i _ rfl (by omega)
  · subst e
    rcases h8 k (.inr (.inl hb)) with h9 | h9
    · exact h9
    · omega
theorem SpMid.still (h : SpMid w w1 p ab ai I B ab2 cb2 ai2 ci2) (hs : Same w1 w2) : SpMid w w2 p ab ai I B ab2 cb2 ai2 ci2 := by
  obtain ⟨h1, h2, h3, h4, h5, h6, h7, h8⟩ := h
  exact ⟨hs.obj h1 id, h2.keep hs (fun _ _ => id), h3.keep hs (fun _ _ => id), h4, h5, h6, h7.trans hs (fun _ _ f => f.elim), h8⟩
theorem Sp.mid {P : List (Nat × Nat)} (h : Sp w p ab cb ai ci P) : SpMid w w p ab ai (P.map (·.1)) (P.map (·.2)) ab cb ai ci := by
  refine ⟨?_, ?_, ?_, h.nb, h.ni, h.bi, Only.refl _ _, fun k hk => .inl hk⟩
  · rw [List.length_map, List.length_map]; exact h.obj
  · rw [List.length_map]; exact h.blk
  · rw [List.length_map]; exact h.idx
theorem SpMid.sp {P : List (Nat × Nat)} (h : SpMid w w2 p ab ai (P.map (·.1)) (P.map (·.2)) ab2 cb2 ai2 ci2) (hg : Good P) (hl : P.length ≤ 1000000) : Sp w2 p ab2 cb2 ai2 ci2 P := by
  obtain ⟨h1, h2, h3, h4, h5, h6, h7, h8⟩ := h
  rw [List.length_map, List.length_map] at h1
  rw [List.length_map] at h2 h3
  exact ⟨h1, h2, h3, hg.1, hg.2, h4, h5, h6, hl⟩
end
theorem Sp.good {w : World} {p cb ci : Nat} {ab ai : Option Addr} {P : List (Nat × Nat)} (h : Sp w p ab cb ai ci P) : Good P := ⟨h.asc, h.ok⟩
theorem Sp.still {w w' : World} {p cb ci : Nat} {ab ai : Option Addr} {P : List (Nat × Nat)} (h : Sp w p ab cb ai ci P) (hs : Same w w') : Sp w' p ab cb ai ci P := h.keep hs (fun _ _ => id)
def SpM (w w2 : World) (p : Nat) (ab ai : Option Addr) (I B : List Nat) : Prop := ∃ ab2 cb2 ai2 ci2, SpMid w w2 p ab ai I B ab2 cb2 ai2 ci2
/-- the bit is set -/
def SetS_ (w : World) (p : Nat) (ab ai : Option Addr) (PP : List (Nat × Nat)) (e : Ending) (w' : World) : Prop :=
  e = .returned .nilIface ∧ Only (Fs p ab ai) w w' ∧ ∃ ab2 cb2 ai2 ci2, Sp w' p ab2 cb2 ai2 ci2 PP ∧ ∀ j, Fs p ab2 ai2 j → Fs p ab ai j ∨ w.heap.size ≤ j
set_option maxRecDepth 100000 in
set_option maxHeartbeats 1600000 in
theorem setS {w : World} {p cb ci : Nat} {ab ai : Option Addr} {P : List (Nat × Nat)} (h : Sp w p ab cb ai ci P) (hl : P.length ≤ 900) (k : Nat) (hk : k < 1152921504606846976) : Calls Try.prog 106 #[.pointer (some ⟨p, 0, none⟩), .int .u64 (k : Int)] w (SetS_ w p ab ai (pput P k)) := by
  have HL64 : Hid (Lt64 k) := Lib.hid (by unfold Lt64; omega)
  have HIW : Hid (∀ wx, Calls Try.prog 33 #[.int .u64 (k : Int)] wx fun e w' => e = .returned (.tuple #[.int .u64 ((k / 64 : Nat) : Int), .int .u64 ((k % 64 : Nat) : Int)]) ∧ wx = w') := Lib.hid (fun wx => (indexW k HL64.out wx).mono fun e w' h => ⟨h.1, h.2.symm⟩)
  have HG : Hid (Good (pput P k) ∧ (pput P k).length ≤ 1000000) := Lib.hid ⟨pput_good h.good (by omega), by have := pput_len P h.asc k; omega⟩
  have HM := Lib.hid h.mid
  have HIX : Hid (Calls Try.prog 117 #[.pointer (some ⟨p, 1, none⟩), .int .u64 ((k / 64 : Nat) : Int)] w (RowP p 1 24 #[.slice ab (P.map (·.2)).length cb, .slice ai (P.map (·.1)).length ci] 99 ai (put (P.map (·.1)) (k / 64)) (.tuple #[.int .i64 (at_ (P.map (·.1)) (k / 64) : Nat), .bool (!decide (k / 64 ∈ P.map (·.1)))]) w)) := Lib.hid (by
    have hm := h.mid
    exact insertU hm.1 rfl hm.2.2.1 rfl h.asc h.ni (k / 64) (by rw [List.length_map]; omega))
  have HOLD := Lib.hid (pput_old h.asc k)
  have HSND := Lib.hid (pput_snd h.asc k)
  have HFST : Hid ((pput P k).map (·.1) = put (P.map (·.1)) (k / 64)) := Lib.hid (pset_fst P h.asc _ _)
  have HLB : Hid ((P.map (·.2)).length ≤ 900 ∧ at_ (P.map (·.1)) (k / 64) ≤ (P.map (·.2)).length) := Lib.hid ⟨by rw [List.length_map]; exact hl, by have := at_le (P.map (·.1)) (k / 64); rw [List.length_map] at *; exact this⟩
  have hi0 := HLB.out.2
  have hi1 := HLB.out.1
  obtain ⟨i, hi⟩ : ∃ i, at_ (P.map (·.1)) (k / 64) = i := ⟨_, rfl⟩
  have hin : i ≤ 900 := by omega
  rw [hi] at HIX HOLD HSND HLB
  obtain ⟨x, hx⟩ : ∃ x, wd P (k / 64) = x := ⟨_, rfl⟩
  rw [hx] at HOLD HSND
  have HX : Hid (Lt64 x) := Lib.hid (by
    rw [← hx]
    by_cases h0 : wd P (k / 64) = 0
    · rw [h0]; exact lt64_zero
    · exact (h.ok _ (wd_some h0)).1)
  have HIN : Hid (∀ wx, Calls Try.prog 79 #[.int .u64 (x : Int), .int .u64 ((k % 64 : Nat) : Int)] wx fun e w' => e = .returned (.int .u64 ((x ||| 2 ^ (k % 64) : Nat) : Int)) ∧ w' = wx) := Lib.hid (fun wx => insertW _ _ HX.out (Nat.mod_lt _ (by omega)) wx)
  generalize pput P k = PP at *
  generalize x ||| 2 ^ (k % 64) = y at *
  generalize k % 64 = r at *
  generalize P.map (·.1) = I0 at *
  generalize P.map (·.2) = B0 at *
  obtain ⟨j, hj⟩ : ∃ j, k / 64 = j := ⟨_, rfl⟩
  rw [hj] at HIW HIX HOLD HSND HFST
  obtain ⟨nb, hnb⟩ : ∃ nb, (!decide (j ∈ I0)) = nb := ⟨_, rfl⟩
  rw [hnb] at HIX
  have HNB := Lib.hid hnb
  clear hi0 hi1 hi hx h hl hj hnb
  go_enter Try.func106, Try.ntmps106
  go_wp2_with (go_at_call 33; refine (HIW.out _).mono ?_)
  rintro e w' ⟨rfl, rfl⟩
  go_wp2_with (go_at_call 117; refine HIX.out.mono ?_)
  intro e w1 hR
  obtain ⟨rfl, ai3, ci3, hM1⟩ := HM.out.idx hR
  have HM1 := Lib.hid hM1
  clear hR hM1 HIX HM HIW
  obtain ⟨BM, hBM⟩ : ∃ BM, (if j ∈ I0 then B0 else B0.take i ++ 0 :: B0.drop i) = BM := ⟨_, rfl⟩
  rw [hBM] at HOLD HSND
  go_upto_if 22 with fail
  go_cut [23] (fun _ wx => SpM w wx p ab ai (put I0 j) BM)
  case first =>
    cases nb with
    | false =>
      have hm : j ∈ I0 := by simpa using HNB.out
      rw [if_pos hm] at hBM
      subst hBM
      clear hm
      go_wp2_with fail
      go_meet
      exact ⟨_, _, _, _, HM1.out⟩
    | true =>
      have hm : ¬ j ∈ I0 := by simpa using HNB.out
      rw [if_neg hm] at hBM
      have HIB : Hid (Calls Try.prog 118 #[.pointer (some ⟨p, 0, none⟩), .int .i64 (i : Int)] w1 (RowP p 0 79 #[.slice ab B0.length cb, .slice ai3 (put I0 j).length ci3] 99 ab (ins B0 i 0) (.tuple #[]) w1)) :=
        Lib.hid (insertB HM1.out.1 rfl HM1.out.2.1 rfl HM1.out.2.2.2.1 i HLB.out.2 (by have := HLB.out.1; omega))
      have HBM : Hid (ins B0 i 0 = BM) := Lib.hid hBM
      clear hm hBM
      go_wp2_with (go_at_call 118; refine HIB.out.mono ?_)
      intro e w2 hR
      obtain ⟨rfl, ab3, cb3, hM2⟩ := HM1.out.blk hR
      rw [HBM.out] at hM2
      have HM2 := Lib.hid hM2
      clear hR hM2 HIB HM1
      go_wp2_with fail
      go_meet
      exact ⟨_, _, _, _, HM2.out⟩
  case rest =>
    obtain ⟨ab3, cb3, ai4, ci4, hM⟩ := hcut
    have HM := Lib.hid hM
    obtain ⟨w2, hw2⟩ : ∃ w2, w2 = wc := ⟨_, rfl⟩
    rw [← hw2] at HM hM ⊢
    have hil : i < BM.length := (List.getElem?_eq_some_iff.1 HOLD.out).1
    obtain ⟨b, ha, hb, hc⟩ := hM.2.1.at (by omega)
    have c0 : w2.cell? ⟨p, 0, none⟩ = some (.slice ab3 BM.length cb3) := block_cell hM.1 rfl
    have c1 := hc i (.int .u64 (x : Int)) (by unfold U; rw [List.getElem?_map, HOLD.out]; rfl)
    rw [Nat.zero_add] at c1
    have f1 := hM.2.1.frozen ha i
    have HFIN : Hid (∀ w5, Same (w2.setCell ⟨b, i, none⟩ (.int .u64 (y : Int))) w5 → SetS_ w p ab ai PP (.returned .nilIface) w5) := Lib.hid (fun w5 hS => by
      have h1 := (HM.out.put (x := y) ha hil).still hS
      rw [← HSND.out, ← HFST.out] at h1
      exact ⟨rfl, h1.2.2.2.2.2.2.1, ab3, cb3, ai4, ci4, h1.sp HG.out.1 HG.out.2, h1.2.2.2.2.2.2.2⟩)
    subst ha
    obtain ⟨n, hn⟩ : ∃ n, BM.length = n := ⟨_, rfl⟩
    rw [hn] at c0 hil
    have hbd := hM.2.1.bound
    rw [hn] at hbd
    have hi2 : (i : Int) < (n : Int) := by omega
    have hi3 : (0 : Int) ≤ (i : Int) := by omega
    clear hM hc hw2 hBM hn HOLD HSND HFST HLB HM1 HG HM
    go_wp2_with fail
    refine wp_region_still_tail 15 (by kernel_rfl) (by kernel_rfl) ?_
    simp only [List.take_succ_cons, List.take_zero, List.drop_succ_cons, List.drop_zero]
    repeat still_step
    still_call (HIN.out _)
    repeat still_step
    refine wpStill_nil ?_
    go_wp2_with fail
    go_ret
    exact HFIN.out _ (by first | exact Only.refl _ _ | exact (Only.refl _ _).drew)
end Go.Proofs.Ytacjkbljokjdkaa.ba
