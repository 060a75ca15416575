/-
  The thin package's BLTestAndAdd, BLTestAndAddString.
-/
import Derived.Test.YtpiajkabikbdnaaBlTaa
namespace Go.Proofs.Ytpiajkabikbdnaa.bs
open Go.RowKit Go.Proofs.Ytpiajkabikbdnaa.base Go.Proofs.Ytpiajkabikbdnaa.heap Go.Proofs.Ytpiajkabikbdnaa.bit
set_option linter.unusedVariables false

/-- a plain filter with the bits b, and a truth value, are returned -/
def FFBV (w0 : World) (K n : Nat) (b : List Bool) (t : Bool) (e : Ending) (w' : World) : Prop := ∃ v, e = .returned (.tuple #[v, .bool t]) ∧ FFB w0 K n b (.returned v) w'
def FPutV (w0 : World) (M K n : Nat) (b : List Bool) (t : Bool) (e : Ending) (w' : World) : Prop :=
  ∃ a cap l, e = .returned (.tuple #[.agg #[.int .u64 (M : Int), .int .u64 (K : Int), .slice a n cap], .bool t]) ∧ PutIn w' a n cap l M b ∧ Same w0 w'
theorem fputv {P : Program} {f : FuncId} {args : Array Value} {w0 w : World} {M K n : Nat} {b : List Bool} {t : Bool} (hs : Same w0 w) (hM : b.length = M) (h : Calls P f args w (FFBV w K n b t)) : Calls P f args w (FPutV w0 M K n b t) := by
  subst hM
  exact h.mono fun e w' ⟨v, he, a, cap, l, he', h1, h2, h3, h4, hO, _⟩ => by
    injection he' with he'
    subst he'
    exact ⟨a, cap, l, he, ⟨h1, h2, h3, h4⟩, hs.trans hO⟩

set_option maxRecDepth 100000 in
set_option maxHeartbeats 1600000 in
theorem bl_testAndAddString (H : List Nat → Int × Int × Int × Int) (hH : ∀ l w a n cap, n ≤ 1048576 → RY w a n cap l → Calls Try.prog 53 #[.slice a n cap] w (FV w (H4 (H l))))
    (f : F) (K : Nat) (b : List Bool) (s : ByteArray) (hs : s.size ≤ 1048576) (w : World) (h : FB f w K b) (hK : K ≤ 1048576) :
    Calls Try.prog 40 #[f.ptr, .string s] w (NewFB f K (putAll b ((List.range K).map (loc (H (nums s))))) (.bool (allAt (fun i => b.getD i false) b.length ((List.range K).map (loc (H (nums s)))))) w) := by
  have hrun : ∀ wx, (convert 9 40 (.string s)).run Try.prog wx = .ok (.slice (some ⟨wx.heap.size, 0, none⟩) s.size (grownCap wx s.size 0 5))
      (wx.drew.alloc (.cells (bytesRow s (grownCap wx s.size 0 5)) 5 ((bytesRow s (grownCap wx s.size 0 5)).size, (bytesRow s (grownCap wx s.size 0 5)).size + 1))) := fun wx =>
    run_bytes_of_string wx 9 40 5 s Try.underlying9 Try.underlying40 Try.underlying5
  have HA : Hid (∀ fr, Calls Try.prog 39 #[f.ptr, .slice (some ⟨w.heap.size, 0, none⟩) s.size (grownCap w s.size 0 5)] (w.drew.alloc (.cells (bytesRow s (grownCap w s.size 0 5)) 5 fr)) (NewFB f K (putAll b ((List.range K).map (loc (H (nums s))))) (.bool (allAt (fun i => b.getD i false) b.length ((List.range K).map (loc (H (nums s)))))) w)) := Lib.hid (fun fr => by
    have hO : Same w (w.drew.alloc (.cells (bytesRow s (grownCap w s.size 0 5)) 5 fr)) := ((Only.refl _ w).drew).alloc _
    refine (bl_testAndAdd H hH f K b (nums s) _ s.size _ _ (h.keep hO) (bytes_read w s hs _ fr) hs hK).mono ?_
    rintro e w' ⟨f', he, h1, h2, h3⟩
    exact ⟨f', he, h1, h2, Only.trans (hO.mono (fun _ _ h => h.elim)) h3 (fun _ _ h => h)⟩)
  clear hH h
  generalize allAt (fun i => b.getD i false) b.length ((List.range K).map (loc (H (nums s)))) = pr at *
  unfold F.ptr at *
  go_enter Try.func40, Try.ntmps40
  go_wp2_with fail
  clear hrun
  refine (HA.out _).mono ?_
  rintro e w' hn
  obtain ⟨f', rfl, hr⟩ := hn
  have HR := Lib.hid hr
  clear hr
  go_wp2_with fail
  go_ret
  exact ⟨f', rfl, HR.out⟩

set_option maxRecDepth 100000 in
set_option maxHeartbeats 1600000 in
theorem implBLTestAndAdd (H : List Nat → Int × Int × Int × Int) (hH : ∀ l w a n cap, n ≤ 1048576 → RY w a n cap l → Calls Try.prog 53 #[.slice a n cap] w (FV w (H4 (H l))))
    (M K : Nat) (a : Option Addr) (n cap : Nat) (l : List Nat) (d : List Nat) (a2 : Option Addr) (n2 cap2 : Nat) (w : World) (hr : RY w a2 n2 cap2 d) (hn2 : n2 ≤ 1048576) (h : RU w a n cap l) (h0 : 0 < n) (hn : n ≤ 16384) (hok : Ok l) (hM : 0 < M) (hMn : M ≤ 64 * n) (hK : K ≤ 1048576) :
    Calls Try.prog 23 #[.agg #[.int .u64 (M : Int), .int .u64 (K : Int), .slice a n cap], .slice a2 n2 cap2] w (FFBV w K n (putAll (bitsOf l M) ((List.range K).map (loc (H d)))) (allAt (fun i => (bitsOf l M).getD i false) (bitsOf l M).length ((List.range K).map (loc (H d))))) := by
  have HC : Hid (∀ wx, Same w wx → Calls Try.prog 29 #[.agg #[.int .u64 (M : Int), .int .u64 (K : Int), .slice a n cap]] wx (FiltB K n (bitsOf l M) wx)) := Lib.hid (fun wx hx => bl_filterB M K a n cap l wx (h.keep hx (fun _ _ => id)) h0 hn hok hM hMn)
  have HA : Hid (∀ wx (f : F), Same w wx → FB f wx K (bitsOf l M) → Calls Try.prog 39 #[f.ptr, .slice a2 n2 cap2] wx (NewFB f K (putAll (bitsOf l M) ((List.range K).map (loc (H d)))) (.bool (allAt (fun i => (bitsOf l M).getD i false) (bitsOf l M).length ((List.range K).map (loc (H d))))) wx)) := Lib.hid (fun wx f hx hf => bl_testAndAdd H hH f K _ d a2 n2 cap2 wx hf (hr.keep hx (fun _ _ => id)) hn2 hK)
  generalize putAll (bitsOf l M) ((List.range K).map (loc (H d))) = b' at *
  generalize allAt (fun i => (bitsOf l M).getD i false) (bitsOf l M).length ((List.range K).map (loc (H d))) = pr at *
  generalize bitsOf l M = b at *
  clear h hok hH hr
  go_enter Try.func23, Try.ntmps23
  go_wp2_with fail
  obtain ⟨W, hW, hS, hB, hk⟩ := newBlock w #[.int .u64 (M : Int), .int .u64 (K : Int), .slice a n cap] 26
  rw [← hW, ← hk]
  obtain ⟨W', hW', hS', hB', hk'⟩ := newBlock W #[.int .u64 0, .int .u64 0, .slice none 0 0] 26
  rw [← hW']
  rw [hk] at hB' hk' ⊢
  have HS := Lib.hid (Same.trans hS hS')
  obtain ⟨d0, d1, d2⟩ : W'.cell? ⟨w.heap.size, 0, none⟩ = some (.int .u64 (M : Int)) ∧ W'.cell? ⟨w.heap.size, 1, none⟩ = some (.int .u64 (K : Int)) ∧ W'.cell? ⟨w.heap.size, 2, none⟩ = some (.slice a n cap) :=
    ⟨block_cell (still hS' hB) rfl, block_cell (still hS' hB) rfl, block_cell (still hS' hB) rfl⟩
  have HB' := Lib.hid hB'
  clear hW hW' hS hS' hB hk hB'
  go_wp2_with fail
  refine (HC.out _ HS.out).mono ?_
  rintro e w1 ⟨f, rfl, hf, hm, hO1, hfr⟩
  have HF := Lib.hid hf
  have HM := Lib.hid hm
  have HO1 := Lib.hid hO1
  have HFR := Lib.hid hfr
  clear hf hm hO1 hfr d0 d1 d2 HC
  go_wp2_with fail
  refine (HA.out w1 f (Same.trans HS.out HO1.out) HF.out).mono ?_
  rintro e w2 ⟨f', rfl, hlike, hf', hO2⟩
  have HT := hf'.told
  rw [hlike.om, HM.out] at HT
  unfold F.ptr at HT
  rw [hlike.p] at HT
  have HT := Lib.hid HT
  have hfar : ∀ k, f.o.foot k → W'.heap.size ≤ k := fun k hk => HFR.out k (.inr hk)
  have HO2 : Hid (Same W' w2) := Lib.hid (Only.trans HO1.out hO2 (fun k hk h => by have := hfar k h; omega))
  have HB2 := Lib.hid (hO2.obj (still HO1.out HB'.out) (fun h => by have := hfar _ h; omega))
  clear hlike hf' hO2 HA HF HM HO1 HFR hfar
  unfold F.ptr
  go_wp2_with fail
  refine HT.out.mono ?_
  rintro e w3 ⟨a3, cap3, l3, rfl, hu3, hok3, hb3, hbn3, hO3, hf3⟩
  obtain ⟨r0, r1, r2, s0, s1, s2⟩ := filt_cells (still hO3 HB2.out)
  have HP := Lib.hid (filtb_put (K := K) (w := w) (lt_of_heap (still hO3 HB2.out)) (Nat.le_succ _) hu3 hok3 hb3 hbn3 (fun j hj => by have := hf3 j hj; have := HO2.out.size; omega) (Same.trans HS.out (Same.trans HO2.out hO3)))
  clear hu3 hok3 hb3 hbn3 hO3 hf3 HT HO2 HB2
  go_wp2_with fail
  refine bodyPost_ret (v := .tuple #[.agg #[.int .u64 (b'.length : Int), .int .u64 (K : Int), .slice a3 n cap3], .bool pr]) ?_ rfl ⟨_, rfl, HP.out⟩
  simp [results, Try.results23, go_sem, r0, r1, r2]

set_option maxRecDepth 100000 in
set_option maxHeartbeats 1600000 in
theorem implBLTestAndAddString (H : List Nat → Int × Int × Int × Int) (hH : ∀ l w a n cap, n ≤ 1048576 → RY w a n cap l → Calls Try.prog 53 #[.slice a n cap] w (FV w (H4 (H l))))
    (M K : Nat) (a : Option Addr) (n cap : Nat) (l : List Nat) (s : ByteArray) (w : World) (hs : s.size ≤ 1048576) (h : RU w a n cap l) (h0 : 0 < n) (hn : n ≤ 16384) (hok : Ok l) (hM : 0 < M) (hMn : M ≤ 64 * n) (hK : K ≤ 1048576) :
    Calls Try.prog 24 #[.agg #[.int .u64 (M : Int), .int .u64 (K : Int), .slice a n cap], .string s] w (FFBV w K n (putAll (bitsOf l M) ((List.range K).map (loc (H (nums s))))) (allAt (fun i => (bitsOf l M).getD i false) (bitsOf l M).length ((List.range K).map (loc (H (nums s)))))) := by
  have HC : Hid (∀ wx, Same w wx → Calls Try.prog 29 #[.agg #[.int .u64 (M : Int), .int .u64 (K : Int), .slice a n cap]] wx (FiltB K n (bitsOf l M) wx)) := Lib.hid (fun wx hx => bl_filterB M K a n cap l wx (h.keep hx (fun _ _ => id)) h0 hn hok hM hMn)
  have HA : Hid (∀ wx (f : F), Same w wx → FB f wx K (bitsOf l M) → Calls Try.prog 40 #[f.ptr, .string s] wx (NewFB f K (putAll (bitsOf l M) ((List.range K).map (loc (H (nums s))))) (.bool (allAt (fun i => (bitsOf l M).getD i false) (bitsOf l M).length ((List.range K).map (loc (H (nums s)))))) wx)) := Lib.hid (fun wx f hx hf => bl_testAndAddString H hH f K _ s hs wx hf hK)
  generalize putAll (bitsOf l M) ((List.range K).map (loc (H (nums s)))) = b' at *
  generalize allAt (fun i => (bitsOf l M).getD i false) (bitsOf l M).length ((List.range K).map (loc (H (nums s)))) = pr at *
  generalize bitsOf l M = b at *
  clear h hok hH 
  go_enter Try.func24, Try.ntmps24
  go_wp2_with fail
  obtain ⟨W, hW, hS, hB, hk⟩ := newBlock w #[.int .u64 (M : Int), .int .u64 (K : Int), .slice a n cap] 26
  rw [← hW, ← hk]
  obtain ⟨W', hW', hS', hB', hk'⟩ := newBlock W #[.int .u64 0, .int .u64 0, .slice none 0 0] 26
  rw [← hW']
  rw [hk] at hB' hk' ⊢
  have HS := Lib.hid (Same.trans hS hS')
  obtain ⟨d0, d1, d2⟩ : W'.cell? ⟨w.heap.size, 0, none⟩ = some (.int .u64 (M : Int)) ∧ W'.cell? ⟨w.heap.size, 1, none⟩ = some (.int .u64 (K : Int)) ∧ W'.cell? ⟨w.heap.size, 2, none⟩ = some (.slice a n cap) :=
    ⟨block_cell (still hS' hB) rfl, block_cell (still hS' hB) rfl, block_cell (still hS' hB) rfl⟩
  have HB' := Lib.hid hB'
  clear hW hW' hS hS' hB hk hB'
  go_wp2_with fail
  refine (HC.out _ HS.out).mono ?_
  rintro e w1 ⟨f, rfl, hf, hm, hO1, hfr⟩
  have HF := Lib.hid hf
  have HM := Lib.hid hm
  have HO1 := Lib.hid hO1
  have HFR := Lib.hid hfr
  clear hf hm hO1 hfr d0 d1 d2 HC
  go_wp2_with fail
  refine (HA.out w1 f (Same.trans HS.out HO1.out) HF.out).mono ?_
  rintro e w2 ⟨f', rfl, hlike, hf', hO2⟩
  have HT := hf'.told
  rw [hlike.om, HM.out] at HT
  unfold F.ptr at HT
  rw [hlike.p] at HT
  have HT := Lib.hid HT
  have hfar : ∀ k, f.o.foot k → W'.heap.size ≤ k := fun k hk => HFR.out k (.inr hk)
  have HO2 : Hid (Same W' w2) := Lib.hid (Only.trans HO1.out hO2 (fun k hk h => by have := hfar k h; omega))
  have HB2 := Lib.hid (hO2.obj (still HO1.out HB'.out) (fun h => by have := hfar _ h; omega))
  clear hlike hf' hO2 HA HF HM HO1 HFR hfar
  unfold F.ptr
  go_wp2_with fail
  refine HT.out.mono ?_
  rintro e w3 ⟨a3, cap3, l3, rfl, hu3, hok3, hb3, hbn3, hO3, hf3⟩
  obtain ⟨r0, r1, r2, s0, s1, s2⟩ := filt_cells (still hO3 HB2.out)
  have HP := Lib.hid (filtb_put (K := K) (w := w) (lt_of_heap (still hO3 HB2.out)) (Nat.le_succ _) hu3 hok3 hb3 hbn3 (fun j hj => by have := hf3 j hj; have := HO2.out.size; omega) (Same.trans HS.out (Same.trans HO2.out hO3)))
  clear hu3 hok3 hb3 hbn3 hO3 hf3 HT HO2 HB2
  go_wp2_with fail
  refine bodyPost_ret (v := .tuple #[.agg #[.int .u64 (b'.length : Int), .int .u64 (K : Int), .slice a3 n cap3], .bool pr]) ?_ rfl ⟨_, rfl, HP.out⟩
  simp [results, Try.results24, go_sem, r0, r1, r2]
end Go.Proofs.Ytpiajkabikbdnaa.bs
