/-
  BLPut; the thin package's BLAdd, BLAddString.
-/
import Derived.Test.YtpiajkabikbdnaaBlStr
namespace Go.Proofs.Ytpiajkabikbdnaa.bs
open Go.RowKit Go.Proofs.Ytpiajkabikbdnaa.base Go.Proofs.Ytpiajkabikbdnaa.heap Go.Proofs.Ytpiajkabikbdnaa.bit
set_option linter.unusedVariables false

set_option maxRecDepth 100000 in
set_option maxHeartbeats 1600000 in
theorem blPut (a0 : Option Addr) (cap0 : Nat) (b : List Bool) (a : Option Addr) (n cap : Nat) (ls : List Nat) (w : World) (hrb : RB w a0 b.length cap0 b) (hb0 : 0 < b.length) (hb : b.length ≤ 1048576) (hl : RU w a n cap ls) (hok : Ok ls) (hn : n ≤ 1048576) :
    Calls Try.prog 19 #[.slice a0 b.length cap0, .slice a n cap] w (RetBools (putAll b ls) w) := by
  have HRB := Lib.hid hrb
  have HL : Hid (∀ wx, Same w wx → RU wx a n cap ls) := Lib.hid (fun wx hx => hl.keep hx (fun _ _ => id))
  have HLen := Lib.hid hl.2
  have HOK := Lib.hid hok
  have hbd := hl.1.bound
  have hbd0 := hrb.1.bound
  clear hrb hl hok
  go_enter Try.func19, Try.ntmps19
  go_wp2_with (at_builtin; refine wpList_append b.length (B b) rfl _ _ _ _ rfl slBool rfl (own_empty _ (default : World) _ _ (heap_alloc_new' _ _ _ rfl)) rfl (Rd.src ((HRB.out.keep (S := fun _ => False) (by repeat (first | exact Only.refl _ _ | apply Only.alloc)) (fun _ _ => id)).1) Try.underlying30) (by omega) (by simp) (by unfold maxLen; omega) (by omega) ?_)
  intro a1 cap1 w1 hG
  have HO1 : Hid (Same w w1) := Lib.hid (((Only.refl _ w).alloc _).trans hG.only (fun j hj h => by have : w.heap.size = j := h; omega))
  have HF1 : Hid (∀ j, At a1 j → w.heap.size ≤ j) := Lib.hid (fun j hj => by
    rcases hG.fresh j hj with h | h
    · have : w.heap.size = j := h; omega
    · simp at h; omega)
  have HOW1 := Lib.hid hG.own
  clear hG
  go_wp2_with fail
  go_loopw [6] (fun i wr => ∃ k : Nat, k ≤ n ∧ i = .int .i64 (k : Int) ∧ Own 4 1 wr a1 b.length cap1 (B (putAll b (ls.take k))) ∧ Only (At a1) w1 wr) (fun i _ => n - (intOf i).toNat)
  case atStart => exact ⟨0, Nat.zero_le _, rfl, HOW1.out, Only.refl _ _⟩
  case round =>
    obtain ⟨k, hk, rfl, hown, hO⟩ := hrel
    have HOW := Lib.hid hown
    have HO := Lib.hid hO
    have hbdo := hown.bound
    clear hown hO
    by_cases hlt : k < n
    · have hlt' : (k : Int) < (n : Int) := by omega
      have hSW : Same w wr := Only.trans HO1.out HO.out (fun j hj h => by have := HF1.out j h; omega)
      obtain ⟨lb, loff, rfl, hlb, hlc⟩ := (HL.out wr hSW).at (by omega)
      have c := hlc k hlt
      have HX := Lib.hid (HOK.out.at k)
      obtain ⟨x, hx⟩ : ∃ x, ls.getD k 0 = x := ⟨_, rfl⟩
      have HXE : Hid (putAll b (ls.take (k + 1)) = (putAll b (ls.take k)).set (x % b.length) true) := Lib.hid (by rw [putAll_take b ls k (by rw [HLen.out]; exact hlt), hx])
      rw [hx] at c HX
      have HM : Hid ((x : Int) % (b.length : Int) = ((x % b.length : Nat) : Int)) := Lib.hid (by omega)
      have hM1 : (1 : Int) ≤ (b.length : Int) := by omega
      obtain ⟨z, hz⟩ : ∃ z, x % b.length = z := ⟨_, rfl⟩
      have hzl : z < b.length := by rw [← hz]; exact Nat.mod_lt _ hb0
      rw [hz] at HM HXE
      obtain ⟨bb, hbb, hbl, hbc⟩ := HOW.out.at (by omega)
      have cs : wr.cell? ⟨bb, z, none⟩ = some (.bool ((putAll b (ls.take k)).getD z false)) := by
        have := hbc z _ (B_get _ z (by rw [putAll_len]; exact hzl))
        simpa using this
      have fs := HOW.out.frozen hbb z
      have htz : ((x : Int) % (b.length : Int)).toNat = z := by rw [HM.out]; omega
      have hmz : (x : Int) % (b.length : Int) < (b.length : Int) := by rw [HM.out]; omega
      have hmz0 : (0 : Int) ≤ (x : Int) % (b.length : Int) := by rw [HM.out]; omega
      clear hlc hbc hx hz hSW
      subst hbb
      go_wp2_with fail
      go_roundw
      case rel =>
        refine ⟨k + 1, by omega, by go_num, ?_, HO.out.setCell _ _ (fun _ => rfl)⟩
        rw [HXE.out, ← B_set]
        exact HOW.out.set rfl z _ rfl (by omega)
      case measure => simp [intOf]; omega
    · obtain rfl : k = n := by omega
      have HE : Hid (RetBools (putAll b ls) w (.returned (.slice a1 b.length cap1)) wr) := Lib.hid (by
        have h1 := HOW.out
        rw [List.take_of_length_le (by rw [HLen.out]; exact Nat.le_refl _)] at h1
        refine ⟨a1, cap1, by rw [putAll_len], ⟨by rw [putAll_len]; exact h1.rd, rfl⟩, Only.trans HO1.out HO.out (fun j hj h => by have := HF1.out j h; omega), fun j hj => HF1.out j hj⟩)
      go_wp2_with fail
      go_ret
      exact HE.out

/-- a plain filter with the bits b is returned, from the world w0 on -/
def FFB (w0 : World) (K n : Nat) (b : List Bool) (e : Ending) (w' : World) : Prop :=
  ∃ a cap l, e = .returned (.agg #[.int .u64 (b.length : Int), .int .u64 (K : Int), .slice a n cap]) ∧ RU w' a n cap l ∧ Ok l ∧ bitsOf l b.length = b ∧ b.length ≤ 64 * n ∧ Same w0 w' ∧ ∀ k, At a k → w0.heap.size ≤ k
theorem ffb {P : Program} {f : FuncId} {args : Array Value} {w0 w : World} {K n : Nat} {b : List Bool} (hs : Same w0 w) (h : Calls P f args w (FFB w K n b)) : Calls P f args w (FFB w0 K n b) :=
  h.mono fun e w' ⟨a, cap, l, he, h1, h2, h3, h4, hO, hf⟩ => ⟨a, cap, l, he, h1, h2, h3, h4, hs.trans hO, fun k hk => Nat.le_trans hs.size (hf k hk)⟩
theorem FB.bitsOf {f : F} {w : World} {K : Nat} {b : List Bool} (h : FB f w K b) : bitsOf f.o.ws b.length = b := by
  refine ext_getD (bitsOf_len _ _) (fun i hi => ?_)
  rw [bitsOf_len] at hi
  rw [bitsOf_get, if_pos hi, h.bits i hi]
theorem FB.told {f : F} {w : World} {K : Nat} {b : List Bool} (h : FB f w K b) : Calls Try.prog 31 #[f.ptr] w (FFB w K f.o.m b) := by
  have hp := h.pos
  have hl := h.le
  have hr := h.room
  have hs := h.small
  have := bl_told f w h.ok (by omega) (by omega)
  rw [h.M, h.K] at this
  exact this.mono fun e w' ⟨a, cap, he, hu, hO, hf⟩ => ⟨a, cap, _, he, hu, h.ok.set.fits, h.bitsOf, by omega, hO, hf⟩
/-- a filter that was made of plain data has its bits -/
theorem FB.of {f : F} {w : World} {M K n : Nat} {l : List Nat} (h : f.ok w) (e1 : f.M = M) (e2 : f.K = K) (e3 : f.o.n = 64 * n) (e4 : f.o.m = n) (e5 : f.o.ws = l) (hM : 0 < M) (hMn : M ≤ 64 * n) (hn : n ≤ 16384) : FB f w K (Go.Proofs.Ytpiajkabikbdnaa.bs.bitsOf l M) := by
  refine ⟨h, by rw [bitsOf_len, e1], e2, by rw [bitsOf_len, e3]; exact hMn, by rw [e3, e4]; exact Nat.le_refl _, by rw [bitsOf_len]; exact hM, by rw [e4]; exact hn, fun i hi => ?_⟩
  rw [bitsOf_len] at hi
  rw [bitsOf_get, if_pos hi, e5]
/-- a plain filter, in memory: FB -/
def FiltB (K n : Nat) (b : List Bool) (w : World) (e : Ending) (w' : World) : Prop :=
  ∃ f : F, e = .returned f.ptr ∧ FB f w' K b ∧ f.o.m = n ∧ Same w w' ∧ ∀ k, f.foot k → w.heap.size ≤ k
theorem bl_filterB (M K : Nat) (a : Option Addr) (n cap : Nat) (l : List Nat) (w : World) (h : RU w a n cap l) (h0 : 0 < n) (hn : n ≤ 16384) (hok : Ok l) (hM : 0 < M) (hMn : M ≤ 64 * n) :
    Calls Try.prog 29 #[.agg #[.int .u64 (M : Int), .int .u64 (K : Int), .slice a n cap]] w (FiltB K n (Go.Proofs.Ytpiajkabikbdnaa.bs.bitsOf l M) w) :=
  (bl_filter M K a n cap l w h h0 (by omega) hok).mono fun e w' ⟨f, he, hf, e1, e2, e3, e4, e5, hO, hfr⟩ => ⟨f, he, FB.of hf e1 e2 e3 e4 e5 hM hMn hn, e4, hO, hfr⟩
theorem filtb_put {w w3 : World} {k K n cap : Nat} {b : List Bool} {a : Option Addr} {l : List Nat} (hk : k < w3.heap.size) (hk0 : w.heap.size ≤ k) (hu : RU w3 a n cap l) (hok : Ok l) (hb : Go.Proofs.Ytpiajkabikbdnaa.bs.bitsOf l b.length = b) (hbn : b.length ≤ 64 * n) (ha : ∀ j, At a j → k < j) (hO : Same w w3) :
    FFB w K n b (.returned (.agg #[.int .u64 (b.length : Int), .int .u64 (K : Int), .slice a n cap])) (((w3.setCell ⟨k, 0, none⟩ (.int .u64 (b.length : Int))).setCell ⟨k, 1, none⟩ (.int .u64 (K : Int))).setCell ⟨k, 2, none⟩ (.slice a n cap)) := by
  have hx : ∀ x, k < w.heap.size → x := fun x h => absurd h (by omega)
  refine ⟨a, cap, l, rfl, ?_, hok, hb, hbn, ((hO.setCell _ _ (hx _)).setCell _ _ (hx _)).setCell _ _ (hx _), fun j hj => by have := ha j hj; omega⟩
  exact hu.keep (S := fun j => j = k) ((((Only.refl (fun j => j = k) _).setCell _ _ (fun _ => rfl)).setCell _ _ (fun _ => rfl)).setCell _ _ (fun _ => rfl)) (fun j hj e => by have := ha j hj; omega)

set_option maxRecDepth 100000 in
set_option maxHeartbeats 1600000 in
theorem implBLAdd (H : List Nat → Int × Int × Int × Int) (hH : ∀ l w a n cap, n ≤ 1048576 → RY w a n cap l → Calls Try.prog 53 #[.slice a n cap] w (FV w (H4 (H l))))
    (M K : Nat) (a : Option Addr) (n cap : Nat) (l : List Nat) (d : List Nat) (a2 : Option Addr) (n2 cap2 : Nat) (w : World) (hr : RY w a2 n2 cap2 d) (hn2 : n2 ≤ 1048576) (h : RU w a n cap l) (h0 : 0 < n) (hn : n ≤ 16384) (hok : Ok l) (hM : 0 < M) (hMn : M ≤ 64 * n) (hK : K ≤ 1048576) :
    Calls Try.prog 21 #[.agg #[.int .u64 (M : Int), .int .u64 (K : Int), .slice a n cap], .slice a2 n2 cap2] w (FFB w K n (putAll (bitsOf l M) ((List.range K).map (loc (H d))))) := by
  have HC : Hid (∀ wx, Same w wx → Calls Try.prog 29 #[.agg #[.int .u64 (M : Int), .int .u64 (K : Int), .slice a n cap]] wx (FiltB K n (bitsOf l M) wx)) := Lib.hid (fun wx hx => bl_filterB M K a n cap l wx (h.keep hx (fun _ _ => id)) h0 hn hok hM hMn)
  have HA : Hid (∀ wx (f : F), Same w wx → FB f wx K (bitsOf l M) → Calls Try.prog 37 #[f.ptr, .slice a2 n2 cap2] wx (NewFB f K (putAll (bitsOf l M) ((List.range K).map (loc (H d)))) f.ptr wx)) := Lib.hid (fun wx f hx hf => bl_add H hH f K _ d a2 n2 cap2 wx hf (hr.keep hx (fun _ _ => id)) hn2 hK)
  generalize putAll (bitsOf l M) ((List.range K).map (loc (H d))) = b' at *
  generalize bitsOf l M = b at *
  clear h hok hH hr
  go_enter Try.func21, Try.ntmps21
  go_wp2_with fail
  obtain ⟨W, hW, hS, hB, hk⟩ := newBlock w #[.int .u64 (M : Int), .int .u64 (K : Int), .slice a n cap] 26
  rw [← hW, ← hk]
  obtain ⟨W', hW', hS', hB', hk'⟩ := newBlock W #[.int .u64 0, .int .u64 0, .slice none 0 0] 26
  rw [← hW']
  rw [hk] at hB' hk' ⊢
  have HS := Lib.hid (Same.trans hS hS')
  obtain ⟨d0, d1, d2⟩ : W'.cell? ⟨w.heap.size, 0, none⟩ = some (.int .u64 (M : Int)) ∧ W'.cell? ⟨w.heap.size, 1, none⟩ = some (.int .u64 (K : Int)) ∧ W'.cell? ⟨w.heap.size, 2, none⟩ = some (.slice a n cap) :=
    ⟨block_cell (still hS' hB) rfl, block_cell (still hS' hB) rfl, block_cell (still hS' hB) rfl⟩
  have HB' := Lib.hid hB'
  clear hW hW' hS hS' hB hk hB'
  go_wp2_with fail
  refine (HC.out _ HS.out).mono ?_
  rintro e w1 ⟨f, rfl, hf, hm, hO1, hfr⟩
  have HF := Lib.hid hf
  have HM := Lib.hid hm
  have HO1 := Lib.hid hO1
  have HFR := Lib.hid hfr
  clear hf hm hO1 hfr d0 d1 d2 HC
  go_wp2_with fail
  refine (HA.out w1 f (Same.trans HS.out HO1.out) HF.out).mono ?_
  rintro e w2 ⟨f', rfl, hlike, hf', hO2⟩
  have HT := hf'.told
  rw [hlike.om, HM.out] at HT
  unfold F.ptr at HT
  rw [hlike.p] at HT
  have HT := Lib.hid HT
  have hfar : ∀ k, f.o.foot k → W'.heap.size ≤ k := fun k hk => HFR.out k (.inr hk)
  have HO2 : Hid (Same W' w2) := Lib.hid (Only.trans HO1.out hO2 (fun k hk h => by have := hfar k h; omega))
  have HB2 := Lib.hid (hO2.obj (still HO1.out HB'.out) (fun h => by have := hfar _ h; omega))
  clear hlike hf' hO2 HA HF HM HO1 HFR hfar
  unfold F.ptr
  go_wp2_with fail
  refine HT.out.mono ?_
  rintro e w3 ⟨a3, cap3, l3, rfl, hu3, hok3, hb3, hbn3, hO3, hf3⟩
  obtain ⟨r0, r1, r2, s0, s1, s2⟩ := filt_cells (still hO3 HB2.out)
  have HP := Lib.hid (filtb_put (K := K) (w := w) (lt_of_heap (still hO3 HB2.out)) (Nat.le_succ _) hu3 hok3 hb3 hbn3 (fun j hj => by have := hf3 j hj; have := HO2.out.size; omega) (Same.trans HS.out (Same.trans HO2.out hO3)))
  clear hu3 hok3 hb3 hbn3 hO3 hf3 HT HO2 HB2
  go_wp2_with fail
  refine bodyPost_ret (v := .agg #[.int .u64 (b'.length : Int), .int .u64 (K : Int), .slice a3 n cap3]) ?_ rfl HP.out
  simp [results, Try.results21, go_sem, r0, r1, r2]

set_option maxRecDepth 100000 in
set_option maxHeartbeats 1600000 in
theorem implBLAddString (H : List Nat → Int × Int × Int × Int) (hH : ∀ l w a n cap, n ≤ 1048576 → RY w a n cap l → Calls Try.prog 53 #[.slice a n cap] w (FV w (H4 (H l))))
    (M K : Nat) (a : Option Addr) (n cap : Nat) (l : List Nat) (s : ByteArray) (w : World) (hs : s.size ≤ 1048576) (h : RU w a n cap l) (h0 : 0 < n) (hn : n ≤ 16384) (hok : Ok l) (hM : 0 < M) (hMn : M ≤ 64 * n) (hK : K ≤ 1048576) :
    Calls Try.prog 22 #[.agg #[.int .u64 (M : Int), .int .u64 (K : Int), .slice a n cap], .string s] w (FFB w K n (putAll (bitsOf l M) ((List.range K).map (loc (H (nums s)))))) := by
  have HC : Hid (∀ wx, Same w wx → Calls Try.prog 29 #[.agg #[.int .u64 (M : Int), .int .u64 (K : Int), .slice a n cap]] wx (FiltB K n (bitsOf l M) wx)) := Lib.hid (fun wx hx => bl_filterB M K a n cap l wx (h.keep hx (fun _ _ => id)) h0 hn hok hM hMn)
  have HA : Hid (∀ wx (f : F), Same w wx → FB f wx K (bitsOf l M) → Calls Try.prog 38 #[f.ptr, .string s] wx (NewFB f K (putAll (bitsOf l M) ((List.range K).map (loc (H (nums s))))) f.ptr wx)) := Lib.hid (fun wx f hx hf => bl_addString H hH f K _ s hs wx hf hK)
  generalize putAll (bitsOf l M) ((List.range K).map (loc (H (nums s)))) = b' at *
  generalize bitsOf l M = b at *
  clear h hok hH 
  go_enter Try.func22, Try.ntmps22
  go_wp2_with fail
  obtain ⟨W, hW, hS, hB, hk⟩ := newBlock w #[.int .u64 (M : Int), .int .u64 (K : Int), .slice a n cap] 26
  rw [← hW, ← hk]
  obtain ⟨W', hW', hS', hB', hk'⟩ := newBlock W #[.int .u64 0, .int .u64 0, .slice none 0 0] 26
  rw [← hW']
  rw [hk] at hB' hk' ⊢
  have HS := Lib.hid (Same.trans hS hS')
  obtain ⟨d0, d1, d2⟩ : W'.cell? ⟨w.heap.size, 0, none⟩ = some (.int .u64 (M : Int)) ∧ W'.cell? ⟨w.heap.size, 1, none⟩ = some (.int .u64 (K : Int)) ∧ W'.cell? ⟨w.heap.size, 2, none⟩ = some (.slice a n cap) :=
    ⟨block_cell (still hS' hB) rfl, block_cell (still hS' hB) rfl, block_cell (still hS' hB) rfl⟩
  have HB' := Lib.hid hB'
  clear hW hW' hS hS' hB hk hB'
  go_wp2_with fail
  refine (HC.out _ HS.out).mono ?_
  rintro e w1 ⟨f, rfl, hf, hm, hO1, hfr⟩
  have HF := Lib.hid hf
  have HM := Lib.hid hm
  have HO1 := Lib.hid hO1
  have HFR := Lib.hid hfr
  clear hf hm hO1 hfr d0 d1 d2 HC
  go_wp2_with fail
  refine (HA.out w1 f (Same.trans HS.out HO1.out) HF.out).mono ?_
  rintro e w2 ⟨f', rfl, hlike, hf', hO2⟩
  have HT := hf'.told
  rw [hlike.om, HM.out] at HT
  unfold F.ptr at HT
  rw [hlike.p] at HT
  have HT := Lib.hid HT
  have hfar : ∀ k, f.o.foot k → W'.heap.size ≤ k := fun k hk => HFR.out k (.inr hk)
  have HO2 : Hid (Same W' w2) := Lib.hid (Only.trans HO1.out hO2 (fun k hk h => by have := hfar k h; omega))
  have HB2 := Lib.hid (hO2.obj (still HO1.out HB'.out) (fun h => by have := hfar _ h; omega))
  clear hlike hf' hO2 HA HF HM HO1 HFR hfar
  unfold F.ptr
  go_wp2_with fail
  refine HT.out.mono ?_
  rintro e w3 ⟨a3, cap3, l3, rfl, hu3, hok3, hb3, hbn3, hO3, hf3⟩
  obtain ⟨r0, r1, r2, s0, s1, s2⟩ := filt_cells (still hO3 HB2.out)
  have HP := Lib.hid (filtb_put (K := K) (w := w) (lt_of_heap (still hO3 HB2.out)) (Nat.le_succ _) hu3 hok3 hb3 hbn3 (fun j hj => by have := hf3 j hj; have := HO2.out.size; omega) (Same.trans HS.out (Same.trans HO2.out hO3)))
  clear hu3 hok3 hb3 hbn3 hO3 hf3 HT HO2 HB2
  go_wp2_with fail
  refine bodyPost_ret (v := .agg #[.int .u64 (b'.length : Int), .int .u64 (K : Int), .slice a3 n cap3]) ?_ rfl HP.out
  simp [results, Try.results22, go_sem, r0, r1, r2]
end Go.Proofs.Ytpiajkabikbdnaa.bs
