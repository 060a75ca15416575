/-
  Bitsets: AppendTo: the places of the bits that are set, one behind the other.
-/
import Derived.Test.YtmadpemagfbmlaaDoorBsTz
import Derived.Test.YtmadpemagfbmlaaDoorBsLaw
import Derived.Test.YtmadpemagfbmlaaDoorBsCount
import Derived.Test.YtmadpemagfbmlaaDoorBsCnt
namespace Go.Proofs.YtmadpemagfbmlaaDoor.bs
open Go.RowKit Go.Proofs.YtmadpemagfbmlaaDoor.base Go.Proofs.YtmadpemagfbmlaaDoor.heap Go.Proofs.YtmadpemagfbmlaaDoor.bit
set_option linter.unusedVariables false

theorem onesTo_gap (b : List Bool) {a : Nat} : ∀ d, (∀ i, a ≤ i → i < a + d → b.getD i false = false) → onesTo b (a + d) = onesTo b a
  | 0, _ => rfl
  | d + 1, h => by
    rw [← Nat.add_assoc, onesTo_no b _ (h _ (by omega) (by omega)), onesTo_gap b d (fun i hi hi2 => h i hi (by omega))]
/-- the bits of word k from place p on -/
def LeftW (S : List Nat) (k p x : Nat) : Prop := Lt64 x ∧ p ≤ 64 ∧ ∀ i, x.testBit i = (decide (p ≤ i) && (S.getD k 0).testBit i)
theorem LeftW.start {S : List Nat} (hS : ∀ i, Lt64 (S.getD i 0)) (k : Nat) : LeftW S k 0 (S.getD k 0) := ⟨hS k, by omega, fun i => by simp⟩
theorem word_at {o : O} {b : List Bool} (hr : o.rep b) (k i : Nat) (hi : i < 64) : b.getD (64 * k + i) false = (o.ws.getD k 0).testBit i := by
  rw [← hr.bits]
  unfold bit
  rw [show (64 * k + i) / 64 = k by omega, show (64 * k + i) % 64 = i by omega]
theorem LeftW.step {o : O} {b : List Bool} {k p x t : Nat} (h : LeftW o.ws k p x) (hr : o.rep b) (hl : Low x t) (ht : t < 64) :
    p ≤ t ∧ onesTo b (64 * k + (t + 1)) = onesTo b (64 * k + p) ++ [64 * k + t] ∧ LeftW o.ws k (t + 1) (x &&& (x - 1)) := by
  have hpt : p ≤ t := by
    have := hl.1
    rw [h.2.2] at this
    simp at this
    exact this.1
  refine ⟨hpt, ?_, lt64_and h.1, by omega, fun i => ?_⟩
  · have h1 : onesTo b (64 * k + p + (t - p)) = onesTo b (64 * k + p) := onesTo_gap b _ fun i hi hi2 => by
      obtain ⟨c, rfl⟩ : ∃ c, i = 64 * k + c := ⟨i - 64 * k, by omega⟩
      have h2 := hl.2 c (by omega)
      rw [h.2.2, decide_eq_true (by omega), Bool.true_and] at h2
      rw [word_at hr k c (by omega), h2]
    rw [show 64 * k + p + (t - p) = 64 * k + t by omega] at h1
    have h3 := hl.1
    rw [h.2.2, decide_eq_true hpt, Bool.true_and] at h3
    rw [← Nat.add_assoc, onesTo_yes b _ (by rw [word_at hr k t ht, h3]), h1]
  · rw [clear_low hl, h.2.2]
    by_cases hi : t < i
    · rw [decide_eq_true hi, decide_eq_true (show p ≤ i by omega), decide_eq_true (show t + 1 ≤ i by omega)]; simp
    · rw [decide_eq_false hi, decide_eq_false (show ¬ t + 1 ≤ i by omega)]; simp
theorem LeftW.fin {o : O} {b : List Bool} {k p : Nat} (h : LeftW o.ws k p 0) (hr : o.rep b) : onesTo b (64 * (k + 1)) = onesTo b (64 * k + p) := by
  have hp := h.2.1
  have h1 : onesTo b (64 * k + p + (64 - p)) = onesTo b (64 * k + p) := onesTo_gap b _ fun i hi hi2 => by
    obtain ⟨c, rfl⟩ : ∃ c, i = 64 * k + c := ⟨i - 64 * k, by omega⟩
    have h2 := h.2.2 c
    rw [Nat.zero_testBit, decide_eq_true (by omega), Bool.true_and] at h2
    rw [word_at hr k c (by omega), ← h2]
  rw [show 64 * k + p + (64 - p) = 64 * (k + 1) by omega] at h1
  exact h1
theorem pred_and {x : Nat} (hx : Lt64 x) (h0 : 0 < x) : bits .and .u64 (x : Int) (IntKind.u64.wrap ((x : Int) - 1)) = ((x &&& (x - 1) : Nat) : Int) := by
  have e : IntKind.u64.wrap ((x : Int) - 1) = ((x - 1 : Nat) : Int) := by rw [IntKind.wrap_u64]; unfold Lt64 at hx; omega
  rw [e]
  exact and_nat hx (by unfold Lt64 at *; omega)

/-- blocks below B are as they were -/
abbrev Above (B : Nat) (w w' : World) : Prop := Only (fun j => B ≤ j) w w'

set_option maxRecDepth 100000 in
set_option maxHeartbeats 6400000 in
theorem appendTo (o : O) (b : List Bool) (l : List Nat) (a : Option Addr) (cap B : Nat) (w : World) (h : o.ok w) (hr : o.rep b) (hT : Tab w) (hown : Own 22 1 w a l.length cap (U l)) (hm : o.m ≤ 1000) (hl : l.length ≤ 1000)
    (hB : ∀ k, o.foot k → k < B) (hB0 : 0 < B) (hBw : B ≤ w.heap.size) (hat : ∀ j, At a j → B ≤ j) :
    Calls Tryd.prog 13 #[o.ptr, .slice a l.length cap] w fun e w' => ∃ a' cap', e = .returned (.slice a' (l ++ ones b).length cap') ∧ RU w' a' (l ++ ones b).length cap' (l ++ ones b) ∧ Above B w w' ∧ ∀ j, At a' j → B ≤ j ∧ j < w'.heap.size := by
  obtain ⟨bb, hbb, hp, hbl, hne, c0, c1, f0, f1, hcs, hfr, hbd1, hbd2⟩ := h.facts
  have hbbB : bb < B := hB bb (.inr (by rw [hbb]; rfl))
  have HSall : Hid (∀ i, Lt64 (o.ws.getD i 0)) := Lib.hid (fun i => h.fits.at i)
  have HR := Lib.hid hr
  have HT := Lib.hid hT
  have HCS := Lib.hid hcs
  have HEND : Hid (onesTo b (64 * o.m) = ones b) := Lib.hid (by
    have := onesTo_gap b (a := b.length) (64 * o.m - b.length) (fun i hi _ => by simp [hi])
    have hroom := hr.room
    rw [show b.length + (64 * o.m - b.length) = 64 * o.m by omega] at this
    exact this)
  have HAT := Lib.hid hat
  have HOWN := Lib.hid hown
  have HLN : Hid (∀ j, (l ++ onesTo b j).length ≤ 1000 + j) := Lib.hid (fun j => by have := onesTo_le b j; rw [List.length_append]; omega)
  have HL0 : Hid (l ++ onesTo b (64 * 0) = l) := Lib.hid (by rw [Nat.mul_zero, onesTo_zero, List.append_nil])
  obtain ⟨n0, hn0⟩ : ∃ n0, l.length = n0 := ⟨_, rfl⟩
  have HN0 := Lib.hid hn0
  rw [hn0]
  rw [hn0] at HOWN
  clear h hr hT hcs hfr hown hat hB hn0
  unfold O.ptr
  go_enter Tryd.func13, Tryd.ntmps13
  go_wp2_with fail
  go_loopw [1, 5, 6, 12] (fun s _ _ i wr => ∃ (k n : Nat) (a : Option Addr) (cap : Nat), k ≤ o.m ∧ i = .int .i64 (k : Int) ∧ s = .slice a n cap ∧ Hid ((l ++ onesTo b (64 * k)).length = n) ∧ Hid (Above B w wr ∧ Own 22 1 wr a n cap (U (l ++ onesTo b (64 * k))) ∧ ∀ j, At a j → B ≤ j)) (fun _ _ _ i _ => o.m - (intOf i).toNat)
  case atStart => exact ⟨0, n0, a, cap, Nat.zero_le _, rfl, rfl, Lib.hid (by rw [HL0.out, HN0.out]), Lib.hid ⟨Only.refl _ _, by rw [HL0.out]; exact HOWN.out, HAT.out⟩⟩
  case round =>
    obtain ⟨k, n, a1, cap1, hk, rfl, rfl, HN, hrel⟩ := hrel
    clear HOWN
    by_cases hkm : k < o.m
    · have hkm' : (k : Int) < (o.m : Int) := by omega
      have x0 : wr.cell? ⟨bb, k, none⟩ = some (.int .u64 (o.ws.getD k 0 : Nat)) := (hrel.out.1.cell (p := ⟨bb, k, none⟩) hbl (by simp; omega)).trans (HCS.out k hkm)
      have HW0 := Lib.hid (LeftW.start HSall.out k)
      generalize o.ws.getD k 0 = x at x0 HW0
      have HB1 : Hid ((l ++ onesTo b (64 * k + 0)).length = n ∧ Above B w wr ∧ Own 22 1 wr a1 n cap1 (U (l ++ onesTo b (64 * k + 0))) ∧ ∀ j, At a1 j → B ≤ j) := Lib.hid ⟨HN.out, hrel.out⟩
      clear hrel HN
      go_wp2_with fail
      clear x0
      go_loopw [1, 6] (fun s y wr => ∃ (p x n : Nat) (a : Option Addr) (cap : Nat), p ≤ 64 ∧ y = .int .u64 (x : Int) ∧ s = .slice a n cap ∧ Hid (LeftW o.ws k p x) ∧ Hid ((l ++ onesTo b (64 * k + p)).length = n ∧ Above B w wr ∧ Own 22 1 wr a n cap (U (l ++ onesTo b (64 * k + p))) ∧ ∀ j, At a j → B ≤ j)) (fun _ y _ => (intOf y).toNat)
      case atStart => exact ⟨0, x, n, a1, cap1, by omega, rfl, rfl, Lib.hid HW0.out, Lib.hid HB1.out⟩
      case round =>
        obtain ⟨p, x, n, a2, cap2, hp64, rfl, rfl, HX, hrel⟩ := hrel
        clear HB1 HW0
        by_cases hx0 : x = 0
        · subst hx0
          have HF := Lib.hid (HX.out.fin HR.out)
          go_wp2_with fail
          go_roundw
          case rel => exact ⟨k + 1, n, a2, cap2, by omega, by go_num, rfl, Lib.hid (by rw [HF.out]; exact hrel.out.1), Lib.hid (by rw [HF.out]; exact hrel.out.2)⟩
          case measure => simp [intOf]; omega
        · have hxb : ((x : Int) != 0) = true := by rw [bne_iff_ne]; omega
          have hxb2 : (!((x : Int) == 0)) = true := by simp; omega
          obtain ⟨t, ht, hlow⟩ := low_ex HX.out.1 hx0
          have HTZ : Hid (∀ wx, wx.heap = wr.heap → Calls Tryd.prog 19 #[.int .u64 (x : Int)] wx fun e w' => e = .returned (.int .i64 (t : Int)) ∧ wx = w') := Lib.hid (fun wx hx => tz64 x t wx HX.out.1 (by omega) hlow ht (fun i hi => by
            have := (HT.out.keep (by omega) hrel.out.2.1 (by simp; omega)) i hi
            rw [← this]; unfold World.cell?; rw [hx]))
          obtain ⟨hpt, hon, hleft⟩ := HX.out.step HR.out hlow ht
          have HON : Hid (l ++ onesTo b (64 * k + (t + 1)) = (l ++ onesTo b (64 * k + p)) ++ [64 * k + t]) := Lib.hid (by rw [hon, List.append_assoc])
          have HLF := Lib.hid hleft
          have hpa := pred_and HX.out.1 (by omega)
          have hdec : x &&& (x - 1) < x := Nat.lt_of_le_of_lt Nat.and_le_right (by omega)
          have hln : n ≤ 100000 := by have := HLN.out (64 * k + p); have := hrel.out.1; omega
          have HLT := Lib.hid HX.out.1
          clear hlow hon hleft HX
          generalize x &&& (x - 1) = y at *
          generalize l ++ onesTo b (64 * k + p) = LL at *
          go_wp2_with (first | (go_at_call 19; refine (HTZ.out _ (by exact rfl)).mono ?_; rintro e w' ⟨rfl, rfl⟩) |
            (at_builtin; refine wpList_append (n + 1) (U LL ++ [.int .u64 ((k : Int) * 64 + (t : Int))]) rfl _ _ _ _ rfl slUint rfl (hrel.out.2.2.1.keep (S := fun _ => False) (by repeat (first | exact Only.refl _ _ | apply Only.alloc | apply Only.drewN)) (fun _ _ => id)) rfl
              (Src.row (cs := #[.int .u64 ((k : Int) * 64 + (t : Int))]) (t := 22) (fr := (0, 0)) Tryd.underlying23 (heap_alloc_new' _ _ _ (by simp)) 1 1 rfl (by simp [Value.oneCell'])) rfl rfl (by unfold maxLen; omega) (by omega) ?_))
          intro a' cap' w2 hG
          have HGR := Lib.hid hG
          clear hG
          go_wp2_with fail
          go_roundw
          case rel =>
            refine ⟨t + 1, y, n + 1, a', cap', by omega, by go_num, by go_num, Lib.hid HLF.out, Lib.hid ⟨?_, ?_, ?_, fun j hj => ?_⟩⟩
            · rw [HON.out, List.length_append, hrel.out.1]; rfl
            · exact hrel.out.2.1.trans (((Only.refl (At a2) _).alloc _).trans HGR.out.only (fun _ _ h => h)) (fun j hj h => hrel.out.2.2.2 j h)
            · rw [HON.out, ← U_app]
              have e : (U [64 * k + t]) = [.int .u64 ((k : Int) * 64 + (t : Int))] := by unfold U; simp; omega
              rw [e]; exact HGR.out.own
            · rcases HGR.out.fresh j hj with h | h
              · exact hrel.out.2.2.2 j h
              · have := hrel.out.2.1.size; simp at h; omega
          case measure => simp [intOf]; omega
    · obtain rfl : k = o.m := by omega
      have HNN : Hid ((l ++ ones b).length = n) := Lib.hid (by rw [← HEND.out]; exact HN.out)
      go_wp2_with fail
      go_ret
      exact ⟨a1, cap1, by rw [HNN.out]; rfl, by rw [HNN.out]; exact ⟨by rw [← HEND.out]; exact hrel.out.2.1.rd, HNN.out⟩, hrel.out.1, fun j hj => ⟨hrel.out.2.2 j hj, hrel.out.2.1.lt j hj⟩⟩
end Go.Proofs.YtmadpemagfbmlaaDoor.bs
