/-
  Adding data to a filter: the bits at its locations are set.
-/
import Derived.Test.YtpiajkabikbdnaaBlLoc
import Derived.Test.YtpiajkabikbdnaaBlEq
namespace Go.Proofs.Ytpiajkabikbdnaa.bs
open Go.RowKit Go.Proofs.Ytpiajkabikbdnaa.base Go.Proofs.Ytpiajkabikbdnaa.heap Go.Proofs.Ytpiajkabikbdnaa.bit
set_option linter.unusedVariables false

/-- a filter in memory has the bits b and K hash functions -/
structure FB (f : F) (w : World) (K : Nat) (b : List Bool) : Prop where
  ok : f.ok w
  M : f.M = b.length
  K : f.K = K
  le : b.length ≤ f.o.n
  room : f.o.n ≤ 64 * f.o.m
  pos : 0 < b.length
  small : f.o.m ≤ 16384
  bits : ∀ i, i < b.length → bit f.o.ws i = b.getD i false
/-- the same blocks -/
structure Like (f f' : F) : Prop where
  p : f'.p = f.p
  op : f'.o.p = f.o.p
  oa : f'.o.a = f.o.a
  on : f'.o.n = f.o.n
  om : f'.o.m = f.o.m
theorem Like.refl (f : F) : Like f f := ⟨rfl, rfl, rfl, rfl, rfl⟩
theorem Like.foot {f f' : F} (h : Like f f') (k : Nat) : f'.o.foot k ↔ f.o.foot k := by unfold O.foot; rw [h.op, h.oa]
theorem Like.feet {f f' : F} (h : Like f f') (k : Nat) : f'.foot k ↔ f.foot k := by unfold F.foot; rw [h.p, h.foot]
theorem FB.keep {f : F} {w w' : World} {K : Nat} {b : List Bool} (h : FB f w K b) (ho : Same w w') : FB f w' K b := ⟨h.ok.keep ho (fun _ _ => id), h.M, h.K, h.le, h.room, h.pos, h.small, h.bits⟩
theorem FB.lt {f : F} {w : World} {K : Nat} {b : List Bool} (h : FB f w K b) : ∀ k, f.foot k → k < w.heap.size := by
  rintro k (rfl | hk)
  · exact lt_of_heap h.ok.obj
  · exact h.ok.set.lt k hk
/-- one bit more is set -/
theorem FB.put {f : F} {w w' : World} {K : Nat} {b : List Bool} (h : FB f w K b) (i : Nat) (hi : i < b.length) (hok : (f.o.put i).ok w') (hO : Only f.o.foot w w') :
    FB ⟨f.p, f.M, f.K, f.o.put i⟩ w' K (b.set i true) ∧ Like f ⟨f.p, f.M, f.K, f.o.put i⟩ := by
  refine ⟨⟨⟨hO.obj h.ok.obj h.ok.apart, hok, h.ok.apart⟩, ?_, h.K, ?_, h.room, ?_, h.small, fun j hj => ?_⟩, rfl, rfl, rfl, rfl, rfl⟩
  · rw [List.length_set]; exact h.M
  · rw [List.length_set]; exact h.le
  · rw [List.length_set]; exact h.pos
  · rw [List.length_set] at hj
    have hm : i / 64 < f.o.ws.length := by rw [h.ok.set.len]; have := h.le; have := h.room; omega
    show bit (f.o.ws.set (i / 64) (f.o.ws.getD (i / 64) 0 ||| 2 ^ (i % 64))) j = _
    rw [bit_or _ _ _ hm, h.bits j hj, getD_setb]
    by_cases e : j = i
    · subst e; simp [hj]
    · simp [e, Ne.symm e]

def NewFB (f : F) (K : Nat) (b : List Bool) (v : Value) (w : World) (e : Ending) (w' : World) : Prop := ∃ f' : F, e = .returned v ∧ Like f f' ∧ FB f' w' K b ∧ Only f.o.foot w w'

set_option maxRecDepth 100000 in
set_option maxHeartbeats 1600000 in
theorem bl_add (H : List Nat → Int × Int × Int × Int) (hH : ∀ l w a n cap, n ≤ 1048576 → RY w a n cap l → Calls Try.prog 53 #[.slice a n cap] w (FV w (H4 (H l))))
    (f : F) (K : Nat) (b : List Bool) (l : List Nat) (a : Option Addr) (n cap : Nat) (w : World) (h : FB f w K b) (hr : RY w a n cap l) (hn : n ≤ 1048576) (hK : K ≤ 1048576) :
    Calls Try.prog 37 #[f.ptr, .slice a n cap] w (NewFB f K (putAll b ((List.range K).map (loc (H l)))) f.ptr w) := by
  have HF := Lib.hid (hH l w a n cap hn hr)
  have HB := Lib.hid h
  clear hH hr h
  generalize H l = y at *
  have HLL : Hid (((List.range K).map (loc y)).length = K) := Lib.hid (by simp)
  have HLG : Hid (∀ i, i < K → ((List.range K).map (loc y)).getD i 0 = loc y i) := Lib.hid (fun i hi => by simp [hi])
  generalize (List.range K).map (loc y) = ls at *
  unfold F.ptr
  go_enter Try.func37, Try.ntmps37
  go_wp2_with fail
  refine HF.out.mono ?_
  rintro e w1 ⟨rfl, hO1⟩
  have HB1 := Lib.hid (HB.out.keep hO1)
  have HO1 := Lib.hid hO1
  have hfr : ∀ k, f.o.foot k → k < w1.heap.size := fun k hk => HB1.out.lt k (.inr hk)
  have HFR := Lib.hid hfr
  clear hO1 HF HB hfr
  unfold H4 at *
  go_wp2_with fail
  obtain ⟨W, hW, hS, hBx, hk⟩ := newBlock w1 #[.int .u64 y.1, .int .u64 y.2.1, .int .u64 y.2.2.1, .int .u64 y.2.2.2] 83
  rw [← hW]
  have HB2 := Lib.hid (HB1.out.keep hS)
  have HS := Lib.hid (Same.trans HO1.out hS)
  have HBX := Lib.hid hBx
  clear hW hS hBx hk HB1 HO1
  go_loopw [6] (fun i wr => ∃ (k : Nat) (f' : F), k ≤ K ∧ i = .int .u64 (k : Int) ∧ Like f f' ∧ FB f' wr K (putAll b (ls.take k)) ∧ wr.heap[w1.heap.size]? = some (.cells #[.int .u64 y.1, .int .u64 y.2.1, .int .u64 y.2.2.1, .int .u64 y.2.2.2] 83 (0, 0)) ∧ Only f.o.foot w wr) (fun i _ => K - (intOf i).toNat)
  case atStart => exact ⟨0, f, Nat.zero_le _, rfl, Like.refl f, HB2.out, HBX.out, HS.out.mono (fun _ _ h => h.elim)⟩
  case round =>
    obtain ⟨k, f', hk, rfl, hlike, hfb, hbox, hO⟩ := hrel
    obtain ⟨b0, b1, b2, b3⟩ : wr.cell? ⟨w1.heap.size, 0, none⟩ = some (.int .u64 y.1) ∧ wr.cell? ⟨w1.heap.size, 1, none⟩ = some (.int .u64 y.2.1) ∧ wr.cell? ⟨w1.heap.size, 2, none⟩ = some (.int .u64 y.2.2.1) ∧ wr.cell? ⟨w1.heap.size, 3, none⟩ = some (.int .u64 y.2.2.2) :=
      ⟨block_cell hbox rfl, block_cell hbox rfl, block_cell hbox rfl, block_cell hbox rfl⟩
    obtain ⟨c0, c1, c2⟩ := hfb.ok.cells
    rw [hlike.p] at c0 c1 c2
    rw [hlike.op] at c2
    rw [hfb.K] at c1
    have HLK := Lib.hid hlike
    have HFB := Lib.hid hfb
    have HBX := Lib.hid hbox
    have HO := Lib.hid hO
    clear hlike hfb hbox hO c0
    by_cases hlt : k < K
    · have hlt' : (k : Int) < (K : Int) := by omega
      obtain ⟨x, hx⟩ : ∃ x, loc y k % b.length = x := ⟨_, rfl⟩
      have HXE : Hid (putAll b (ls.take (k + 1)) = (putAll b (ls.take k)).set x true) := Lib.hid (by rw [putAll_take b ls k (by rw [HLL.out]; exact hlt), HLG.out k hlt, hx])
      have hpb := HFB.out.pos
      have hxlt : x < (putAll b (ls.take k)).length := by rw [putAll_len] at hpb ⊢; rw [← hx]; exact Nat.mod_lt _ hpb
      have HKK : Hid (∀ wx, Same wr wx → wx.cell? ⟨w1.heap.size, 0, none⟩ = some (.int .u64 y.1) ∧ wx.cell? ⟨w1.heap.size, 1, none⟩ = some (.int .u64 y.2.1) ∧ wx.cell? ⟨w1.heap.size, 2, none⟩ = some (.int .u64 y.2.2.1) ∧ wx.cell? ⟨w1.heap.size, 3, none⟩ = some (.int .u64 y.2.2.2) ∧ wx.cell? ⟨f.p, 2, none⟩ = some (.pointer (some ⟨f.o.p, 0, none⟩))) := Lib.hid (fun wx hx => by
        have hb := still hx HBX.out
        have hc := ((HFB.out.keep hx).ok.cells).2.2
        rw [HLK.out.p, HLK.out.op] at hc
        exact ⟨block_cell hb rfl, block_cell hb rfl, block_cell hb rfl, block_cell hb rfl, hc⟩)
      have HKS : Hid (∀ wy wx, Same wr wy → Only f'.o.foot wy wx → wx.cell? ⟨w1.heap.size, 0, none⟩ = some (.int .u64 y.1) ∧ wx.cell? ⟨w1.heap.size, 1, none⟩ = some (.int .u64 y.2.1) ∧ wx.cell? ⟨w1.heap.size, 2, none⟩ = some (.int .u64 y.2.2.1) ∧ wx.cell? ⟨w1.heap.size, 3, none⟩ = some (.int .u64 y.2.2.2) ∧ wx.cell? ⟨f.p, 2, none⟩ = some (.pointer (some ⟨f.o.p, 0, none⟩))) := Lib.hid (fun wy wx hy hx => by
        obtain ⟨e0, e1, e2, e3, e4⟩ := HKK.out wy hy
        have hbl : w1.heap.size < wy.heap.size := lt_of_heap (still hy HBX.out)
        have hbn : ¬ f'.o.foot w1.heap.size := fun h => by have := HFR.out _ ((HLK.out.foot _).1 h); omega
        have hpl : f.p < wy.heap.size := by have := lt_of_heap (HFB.out.keep hy).ok.obj; rwa [HLK.out.p] at this
        have hpn : ¬ f'.o.foot f.p := by have := HFB.out.ok.apart; rwa [HLK.out.p] at this
        refine ⟨?_, ?_, ?_, ?_, ?_⟩
        · rw [hx.cell hbl hbn]; exact e0
        · rw [hx.cell hbl hbn]; exact e1
        · rw [hx.cell hbl hbn]; exact e2
        · rw [hx.cell hbl hbn]; exact e3
        · rw [hx.cell hpl hpn]; exact e4)
      have HLO : Hid (∀ wx, Same wr wx → Calls Try.prog 56 #[.pointer (some ⟨f.p, 0, none⟩), .agg #[.int .u64 y.1, .int .u64 y.2.1, .int .u64 y.2.2.1, .int .u64 y.2.2.2], .int .u64 (k : Int)] wx (FV wr (.int .u64 (x : Int)))) := Lib.hid (fun wx hx' => by
        have h0 := HFB.out.keep hx'
        have h1 := bl_flocation f' y k (by omega) wx h0.ok (by rw [h0.M]; exact h0.pos) (by rw [h0.M]; have := h0.le; have := h0.room; have := h0.small; omega)
        rw [h0.M, putAll_len, hx] at h1
        unfold F.ptr H4 at h1
        rw [HLK.out.p] at h1
        exact h1.mono fun e w' ⟨he, hO⟩ => ⟨he, Same.trans hx' hO⟩)
      have HST : Hid (∀ wx, Same wr wx → Calls Try.prog 55 #[.pointer (some ⟨f.o.p, 0, none⟩), .int .u64 (x : Int)] wx fun e w' => e = .returned (.pointer (some ⟨f.o.p, 0, none⟩)) ∧ (f'.o.put x).ok w' ∧ Only f'.o.foot wx w') := Lib.hid (fun wx hx' => by
        have h0 := HFB.out.keep hx'
        have h1 := set_in f'.o x wx h0.ok.set (by have := h0.le; omega) (by have := h0.le; have := h0.room; omega) (by have := h0.le; have := h0.room; have := h0.small; omega)
        unfold O.ptr at h1
        rw [HLK.out.op] at h1
        exact h1)
      have HX := Lib.hid hxlt
      clear hx hpb hxlt
      go_wp2_with fail
      go_region_held3 (fun wx => wx.cell? ⟨w1.heap.size, 0, none⟩ = some (.int .u64 y.1) ∧ wx.cell? ⟨w1.heap.size, 1, none⟩ = some (.int .u64 y.2.1) ∧ wx.cell? ⟨w1.heap.size, 2, none⟩ = some (.int .u64 y.2.2.1) ∧ wx.cell? ⟨w1.heap.size, 3, none⟩ = some (.int .u64 y.2.2.2) ∧ wx.cell? ⟨f.p, 2, none⟩ = some (.pointer (some ⟨f.o.p, 0, none⟩)))
        (first | go_keep | (exact HKS.out _ _ hO2 hO3) | (exact HKK.out _ hO2))
        (first | ((go_at_call 56; (with_reducible refine (HLO.out _ (by first | exact Only.refl _ wr | exact (Only.refl _ wr).drew)).mono ?_); rintro e w2 ⟨rfl, hO2⟩)) | ((go_at_call 55; (with_reducible refine (HST.out _ hO2).mono ?_); rintro e w3 ⟨rfl, hok3, hO3⟩)))
      have HE : Hid (∃ (k' : Nat) (f'' : F), k' ≤ K ∧ Value.int .u64 ((k : Int) + 1) = .int .u64 (k' : Int) ∧ Like f f'' ∧ FB f'' w3 K (putAll b (ls.take k')) ∧ w3.heap[w1.heap.size]? = some (.cells #[.int .u64 y.1, .int .u64 y.2.1, .int .u64 y.2.2.1, .int .u64 y.2.2.2] 83 (0, 0)) ∧ Only f.o.foot w w3 ∧ k' = k + 1) := Lib.hid (by
        obtain ⟨h1, h2⟩ := (HFB.out.keep hO2).put x HX.out hok3 hO3
        rw [← HXE.out] at h1
        have hbn : ¬ f'.o.foot w1.heap.size := fun h => by have := HFR.out _ ((HLK.out.foot _).1 h); omega
        refine ⟨k + 1, _, by omega, by go_num, ⟨h2.p.trans HLK.out.p, h2.op.trans HLK.out.op, h2.oa.trans HLK.out.oa, h2.on.trans HLK.out.on, h2.om.trans HLK.out.om⟩, h1, hO3.obj (still hO2 HBX.out) hbn, ?_, rfl⟩
        exact Only.trans HO.out (Only.trans (hO2.mono (fun _ _ h => h.elim)) hO3 (fun _ _ h => h)) (fun j _ h => (HLK.out.foot j).1 h))
      clear hok3 hO3 hO2
      go_wp2
      go_roundw
      case rel =>
        obtain ⟨k', f'', h1, h2, h3, h4, h5, h6, _⟩ := HE.out
        exact ⟨k', f'', h1, h2, h3, h4, h5, h6⟩
      case measure => simp [intOf]; omega
    · obtain rfl : k = K := by omega
      have HE : Hid (NewFB f k (putAll b ls) (.pointer (some ⟨f.p, 0, none⟩)) w (.returned (.pointer (some ⟨f.p, 0, none⟩))) wr) := Lib.hid (by
        have h1 := HFB.out
        rw [List.take_of_length_le (by rw [HLL.out]; exact Nat.le_refl _)] at h1
        exact ⟨f', rfl, HLK.out, h1, HO.out⟩)
      go_wp2_with fail
      go_ret
      exact HE.out
end Go.Proofs.Ytpiajkabikbdnaa.bs
