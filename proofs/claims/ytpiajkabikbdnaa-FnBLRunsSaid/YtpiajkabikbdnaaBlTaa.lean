/-
  Testing and adding, in memory.
-/
import Derived.Test.YtpiajkabikbdnaaBlData
namespace Go.Proofs.Ytpiajkabikbdnaa.bs
open Go.RowKit Go.Proofs.Ytpiajkabikbdnaa.base Go.Proofs.Ytpiajkabikbdnaa.heap Go.Proofs.Ytpiajkabikbdnaa.bit
set_option linter.unusedVariables false

theorem set_same (d : List Bool) (k : Nat) (h : d.getD k false = true) : d.set k true = d := by
  refine ext_getD (List.length_set ..) (fun i hi => ?_)
  rw [getD_setb]
  by_cases e : k = i
  · subst e
    split
    · exact h.symm
    · rfl
  · rw [if_neg (fun hh => e hh.1)]
theorem fold_same (M : Nat) (ls : List Nat) : ∀ d : List Bool, (∀ x ∈ ls, d.getD (x % M) false = true) → ls.foldl (fun d x => d.set (x % M) true) d = d := by
  induction ls with
  | nil => intro d _; rfl
  | cons x xs ih => intro d h; rw [List.foldl_cons, set_same d _ (h x (List.mem_cons_self ..))]; exact ih d (fun y hy => h y (List.mem_cons_of_mem _ hy))
theorem fold_more (M : Nat) (ls : List Nat) (j : Nat) : ∀ d : List Bool, d.getD j false = true → (ls.foldl (fun d x => d.set (x % M) true) d).getD j false = true := by
  induction ls with
  | nil => intro d h; exact h
  | cons x xs ih =>
    intro d h
    rw [List.foldl_cons]
    apply ih
    rw [getD_setb]
    split
    · rfl
    · exact h
theorem allAt_succ (g : Nat → Bool) (M : Nat) (ls : List Nat) (k : Nat) (hk : k < ls.length) : allAt g M (ls.take (k + 1)) = (allAt g M (ls.take k) && g (ls.getD k 0 % M)) := by
  unfold allAt
  rw [List.take_succ_eq_append_getElem hk, List.all_append]
  simp [hk]
/-- whether all were set so far, asked while they are set -/
theorem taa (b : List Bool) (ls : List Nat) (k : Nat) (hk : k < ls.length) : allAt (fun i => b.getD i false) b.length (ls.take (k + 1)) = (allAt (fun i => b.getD i false) b.length (ls.take k) && (putAll b (ls.take k)).getD (ls.getD k 0 % b.length) false) := by
  rw [allAt_succ _ _ _ _ hk]
  cases h : allAt (fun i => b.getD i false) b.length (ls.take k)
  · rfl
  · have : putAll b (ls.take k) = b := fold_same _ _ _ (by
      intro x hx
      unfold allAt at h
      exact List.all_eq_true.1 h x hx)
    rw [this]

set_option maxRecDepth 100000 in
set_option maxHeartbeats 1600000 in
theorem bl_testAndAdd (H : List Nat → Int × Int × Int × Int) (hH : ∀ l w a n cap, n ≤ 1048576 → RY w a n cap l → Calls Try.prog 53 #[.slice a n cap] w (FV w (H4 (H l))))
    (f : F) (K : Nat) (b : List Bool) (l : List Nat) (a : Option Addr) (n cap : Nat) (w : World) (h : FB f w K b) (hr : RY w a n cap l) (hn : n ≤ 1048576) (hK : K ≤ 1048576) :
    Calls Try.prog 39 #[f.ptr, .slice a n cap] w (NewFB f K (putAll b ((List.range K).map (loc (H l)))) (.bool (allAt (fun i => b.getD i false) b.length ((List.range K).map (loc (H l))))) w) := by
  have HF := Lib.hid (hH l w a n cap hn hr)
  have HB := Lib.hid h
  clear hH hr h
  generalize H l = y at *
  have HLL : Hid (((List.range K).map (loc y)).length = K) := Lib.hid (by simp)
  have HLG : Hid (∀ i, i < K → ((List.range K).map (loc y)).getD i 0 = loc y i) := Lib.hid (fun i hi => by simp [hi])
  generalize (List.range K).map (loc y) = ls at *
  unfold F.ptr
  go_enter Try.func39, Try.ntmps39
  go_wp2_with fail
  refine HF.out.mono ?_
  rintro e w1 ⟨rfl, hO1⟩
  have HB1 := Lib.hid (HB.out.keep hO1)
  have HO1 := Lib.hid hO1
  have hfr : ∀ k, f.o.foot k → k < w1.heap.size := fun k hk => HB1.out.lt k (.inr hk)
  have HFR := Lib.hid hfr
  clear hO1 HF HB hfr
  unfold H4 at *
  go_wp2_with fail
  obtain ⟨W, hW, hS, hBx, hk⟩ := newBlock w1 #[.int .u64 y.1, .int .u64 y.2.1, .int .u64 y.2.2.1, .int .u64 y.2.2.2] 83
  rw [← hW]
  have HB2 := Lib.hid (HB1.out.keep hS)
  have HS := Lib.hid (Same.trans HO1.out hS)
  have HBX := Lib.hid hBx
  clear hW hS hBx hk HB1 HO1
  go_loopw [5, 7, 8] (fun pr i _ wr => ∃ (k : Nat) (f' : F), k ≤ K ∧ i = .int .u64 (k : Int) ∧ pr = .bool (allAt (fun i => b.getD i false) b.length (ls.take k)) ∧ Like f f' ∧ FB f' wr K (putAll b (ls.take k)) ∧ wr.heap[w1.heap.size]? = some (.cells #[.int .u64 y.1, .int .u64 y.2.1, .int .u64 y.2.2.1, .int .u64 y.2.2.2] 83 (0, 0)) ∧ Only f.o.foot w wr) (fun _ i _ _ => K - (intOf i).toNat)
  case atStart => exact ⟨0, f, Nat.zero_le _, rfl, rfl, Like.refl f, HB2.out, HBX.out, HS.out.mono (fun _ _ h => h.elim)⟩
  case round =>
    obtain ⟨k, f', hk, rfl, rfl, hlike, hfb, hbox, hO⟩ := hrel
    obtain ⟨b0, b1, b2, b3⟩ : wr.cell? ⟨w1.heap.size, 0, none⟩ = some (.int .u64 y.1) ∧ wr.cell? ⟨w1.heap.size, 1, none⟩ = some (.int .u64 y.2.1) ∧ wr.cell? ⟨w1.heap.size, 2, none⟩ = some (.int .u64 y.2.2.1) ∧ wr.cell? ⟨w1.heap.size, 3, none⟩ = some (.int .u64 y.2.2.2) :=
      ⟨block_cell hbox rfl, block_cell hbox rfl, block_cell hbox rfl, block_cell hbox rfl⟩
    obtain ⟨c0, c1, c2⟩ := hfb.ok.cells
    rw [hlike.p] at c0 c1 c2
    rw [hlike.op] at c2
    rw [hfb.K] at c1
    have HLK := Lib.hid hlike
    have HFB := Lib.hid hfb
    have HBX := Lib.hid hbox
    have HO := Lib.hid hO
    clear hlike hfb hbox hO c0
    by_cases hlt : k < K
    · have hlt' : (k : Int) < (K : Int) := by omega
      obtain ⟨x, hx⟩ : ∃ x, loc y k % b.length = x := ⟨_, rfl⟩
      have HXE : Hid (putAll b (ls.take (k + 1)) = (putAll b (ls.take k)).set x true) := Lib.hid (by rw [putAll_take b ls k (by rw [HLL.out]; exact hlt), HLG.out k hlt, hx])
      have HTE : Hid (allAt (fun i => b.getD i false) b.length (ls.take (k + 1)) = (allAt (fun i => b.getD i false) b.length (ls.take k) && (putAll b (ls.take k)).getD x false)) := Lib.hid (by rw [taa b ls k (by rw [HLL.out]; exact hlt), HLG.out k hlt, hx])
      have hpb := HFB.out.pos
      have hxlt : x < (putAll b (ls.take k)).length := by rw [putAll_len] at hpb ⊢; rw [← hx]; exact Nat.mod_lt _ hpb
      have HLO : Hid (∀ wx, Same wr wx → Calls Try.prog 56 #[.pointer (some ⟨f.p, 0, none⟩), .agg #[.int .u64 y.1, .int .u64 y.2.1, .int .u64 y.2.2.1, .int .u64 y.2.2.2], .int .u64 (k : Int)] wx (FV wr (.int .u64 (x : Int)))) := Lib.hid (fun wx hx' => by
        have h0 := HFB.out.keep hx'
        have h1 := bl_flocation f' y k (by omega) wx h0.ok (by rw [h0.M]; exact h0.pos) (by rw [h0.M]; have := h0.le; have := h0.room; have := h0.small; omega)
        rw [h0.M, putAll_len, hx] at h1
        unfold F.ptr H4 at h1
        rw [HLK.out.p] at h1
        exact h1.mono fun e w' ⟨he, hO⟩ => ⟨he, Same.trans hx' hO⟩)
      have HTS : Hid (∀ wx, Same wr wx → Calls Try.prog 46 #[.pointer (some ⟨f.o.p, 0, none⟩), .int .u64 (x : Int)] wx (FV wx (.bool ((putAll b (ls.take k)).getD x false)))) := Lib.hid (fun wx hx' => by
        have h0 := HFB.out.keep hx'
        have h1 := test_yes f'.o x wx h0.ok.set (by have := h0.le; omega) (by have := h0.le; have := h0.room; omega) (by have := h0.le; have := h0.room; have := h0.small; omega)
        unfold O.ptr at h1
        rw [HLK.out.op, h0.bits x hxlt] at h1
        exact fquiet (Only.refl _ _) h1)
      have HST : Hid (∀ wx, Same wr wx → Calls Try.prog 55 #[.pointer (some ⟨f.o.p, 0, none⟩), .int .u64 (x : Int)] wx fun e w' => e = .returned (.pointer (some ⟨f.o.p, 0, none⟩)) ∧ (f'.o.put x).ok w' ∧ Only f'.o.foot wx w') := Lib.hid (fun wx hx' => by
        have h0 := HFB.out.keep hx'
        have h1 := set_in f'.o x wx h0.ok.set (by have := h0.le; omega) (by have := h0.le; have := h0.room; omega) (by have := h0.le; have := h0.room; have := h0.small; omega)
        unfold O.ptr at h1
        rw [HLK.out.op] at h1
        exact h1)
      have HC2 : Hid (∀ wx, Same wr wx → wx.cell? ⟨f.p, 2, none⟩ = some (.pointer (some ⟨f.o.p, 0, none⟩))) := Lib.hid (fun wx hx => by
        have hc := ((HFB.out.keep hx).ok.cells).2.2
        rw [HLK.out.p, HLK.out.op] at hc
        exact hc)
      have HX := Lib.hid hxlt
      have HEND : Hid (∀ w2 w3, Same wr w2 → (f'.o.put x).ok w3 → Only f'.o.foot w2 w3 → ∃ f'' : F, Like f f'' ∧ FB f'' w3 K (putAll b (ls.take (k + 1))) ∧ w3.heap[w1.heap.size]? = some (.cells #[.int .u64 y.1, .int .u64 y.2.1, .int .u64 y.2.2.1, .int .u64 y.2.2.2] 83 (0, 0)) ∧ Only f.o.foot w w3) := Lib.hid (fun w2 w3 hO2 hok3 hO3 => by
        obtain ⟨h1, h2⟩ := (HFB.out.keep hO2).put x HX.out hok3 hO3
        rw [← HXE.out] at h1
        have hbn : ¬ f'.o.foot w1.heap.size := fun h => by have := HFR.out _ ((HLK.out.foot _).1 h); omega
        refine ⟨_, ⟨h2.p.trans HLK.out.p, h2.op.trans HLK.out.op, h2.oa.trans HLK.out.oa, h2.on.trans HLK.out.on, h2.om.trans HLK.out.om⟩, h1, hO3.obj (still hO2 HBX.out) hbn, ?_⟩
        exact Only.trans HO.out (Only.trans (hO2.mono (fun _ _ h => h.elim)) hO3 (fun _ _ h => h)) (fun j _ h => (HLK.out.foot j).1 h))
      clear hx hpb hxlt
      generalize hy : (putAll b (ls.take k)).getD x false = t at *
      clear hy
      generalize allAt (fun i => b.getD i false) b.length (ls.take k) = pr at *
      go_wp2_with fail
      refine (HLO.out _ (Only.refl _ _)).mono ?_
      rintro e w2 ⟨rfl, hO2⟩
      have c2' := HC2.out w2 hO2
      go_wp2_with fail
      refine (HTS.out _ hO2).mono ?_
      rintro e w3 ⟨rfl, hO3⟩
      have c3' := HC2.out w3 (Same.trans hO2 hO3)
      have HO3 := Lib.hid (Same.trans hO2 hO3)
      clear hO2 hO3 b0 b1 b2 b3 c1 c2 c2'
      cases t
      all_goals
        go_wp2_with fail
        refine (HST.out _ HO3.out).mono ?_
        rintro e w4 ⟨rfl, hok4, hO4⟩
        have HE := Lib.hid (HEND.out w3 w4 HO3.out hok4 hO4)
        clear hok4 hO4
        go_wp2_with fail
        go_roundw
        case rel =>
          obtain ⟨f'', h3, h4, h5, h6⟩ := HE.out
          exact ⟨k + 1, f'', by omega, by go_num, by rw [HTE.out]; simp, h3, h4, h5, h6⟩
        case measure => simp [intOf]; omega
    · obtain rfl : k = K := by omega
      have HE : Hid (NewFB f k (putAll b ls) (.bool (allAt (fun i => b.getD i false) b.length ls)) w (.returned (.bool (allAt (fun i => b.getD i false) b.length (ls.take k)))) wr) := Lib.hid (by
        have h1 := HFB.out
        rw [List.take_of_length_le (by rw [HLL.out]; exact Nat.le_refl _)] at h1 ⊢
        exact ⟨f', rfl, HLK.out, h1, HO.out⟩)
      go_wp2_with fail
      go_ret
      exact HE.out
end Go.Proofs.Ytpiajkabikbdnaa.bs
