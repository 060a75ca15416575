/-
  The specification's graph: Joined, Add, GROf.
-/
import Derived.Test.YtpccodjmjgfloaaDoorGrOf
import Derived.Test.YtpccodjmjgfloaaDoorStSpec
import Derived.Test.YtpccodjmjgfloaaDoorApp
import Derived.Deep.RegionHeld3
import Derived.Deep.CutRange
import Derived.Deep.DeepCutAuto
namespace Go.Proofs.YtpccodjmjgfloaaDoor.gr
open Go.RowKit Go.Proofs.YtpccodjmjgfloaaDoor.base Go.Proofs.YtpccodjmjgfloaaDoor.heap Go.Proofs.YtpccodjmjgfloaaDoor.rows Go.Proofs.YtpccodjmjgfloaaDoor.mapi
set_option linter.unusedVariables false

def meets (p : Ed) (v x : Int) : Bool := (p.1 == v && p.2 == x) || (p.1 == x && p.2 == v)
def joined (E : List Ed) (v x : Int) : Bool := E.any fun p => meets p v x

set_option maxRecDepth 100000 in
set_option maxHeartbeats 3200000 in
theorem joinedS (va : Option Addr) (vn vc : Nat) (a : Option Addr) (n cap : Nat) (E : List Ed) (v x : Int) (w : World) (h : RE w a n cap E) :
    Calls Tryd.prog 21 #[.agg #[.slice va vn vc, .slice a n cap], .int .i64 v, .int .i64 x] w (FV w (.bool (joined E v x))) := by
  have hbd := h.1.bound
  have HR := Lib.hid h
  clear h
  go_enter Tryd.func21, Tryd.ntmps21
  go_wp2_with fail
  go_loopw [12] (fun i wr => ∃ k : Nat, k ≤ n ∧ i = .int .i64 (k : Int) ∧ Hid (joined (E.take k) v x = false) ∧ Same w wr) (fun i _ => n - (intOf i).toNat)
  case atStart => exact ⟨0, Nat.zero_le _, rfl, Lib.hid (by simp [joined]), (Only.refl _ w).alloc _⟩
  case round =>
    obtain ⟨k, hk, rfl, HJ, hO⟩ := hrel
    have HO := Lib.hid hO
    clear hO
    by_cases hlt : k < n
    · have hlt' : (k : Int) < (n : Int) := by omega
      obtain ⟨b, off, rfl, hb, hc⟩ := (HR.out.still HO.out).at (by omega)
      obtain ⟨s, hs⟩ := HR.out.get hlt
      obtain ⟨p, q⟩ := s
      obtain ⟨c0, c1⟩ := hc k _ hs
      simp only at c0 c1
      have HT : Hid (joined (E.take (k + 1)) v x = meets (p, q) v x) := Lib.hid (by
        rw [take_snoc E k _ hs, joined, List.any_append]
        have := HJ.out
        unfold joined at this
        rw [this]; simp)
      have HIN : Hid (meets (p, q) v x = true → joined E v x = true) := Lib.hid (fun hm => List.any_eq_true.2 ⟨_, List.mem_of_getElem? hs, hm⟩)
      have HFIN : Hid (Same w (wr.alloc (.cells #[.int .i64 p, .int .i64 q] 33))) := Lib.hid (HO.out.alloc _)
      clear hc hs
      by_cases h1 : p = v
      · by_cases h2 : q = x
        · have HM : Hid (joined E v x = true) := Lib.hid (HIN.out (by simp [meets, h1, h2]))
          subst h1
          subst h2
          go_wp2_with fail
          go_ret
          exact ⟨by rw [HM.out]; rfl, HFIN.out⟩
        · by_cases h3 : p = x
          · by_cases h4 : q = v
            · exact absurd (by rw [h4, ← h1, h3]) h2
            · have HM : Hid (joined (E.take (k + 1)) v x = false) := Lib.hid (by rw [HT.out]; simp [meets, h2, h4])
              have h2' : (q == x) = false := by simpa using h2
              have h4' : (q == v) = false := by simpa using h4
              have h1' : (p == v) = true := by simpa using h1
              have h3' : (p == x) = true := by simpa using h3
              clear h1 h2 h3 h4
              go_wp2_with fail
              go_roundw
              case rel => exact ⟨k + 1, by omega, by go_num, HM, HFIN.out⟩
              case measure => simp [intOf]; omega
          · have HM : Hid (joined (E.take (k + 1)) v x = false) := Lib.hid (by rw [HT.out]; simp [meets, h2, h3])
            have h2' : (q == x) = false := by simpa using h2
            have h1' : (p == v) = true := by simpa using h1
            have h3' : (p == x) = false := by simpa using h3
            clear h1 h2 h3
            go_wp2_with fail
            go_roundw
            case rel => exact ⟨k + 1, by omega, by go_num, HM, HFIN.out⟩
            case measure => simp [intOf]; omega
      · have h1' : (p == v) = false := by simpa using h1
        by_cases h3 : p = x
        · by_cases h4 : q = v
          · have HM : Hid (joined E v x = true) := Lib.hid (HIN.out (by simp [meets, h3, h4]))
            have h3' : (p == x) = true := by simpa using h3
            have h4' : (q == v) = true := by simpa using h4
            clear h1 h3 h4
            go_wp2_with fail
            go_ret
            exact ⟨by rw [HM.out]; rfl, HFIN.out⟩
          · have HM : Hid (joined (E.take (k + 1)) v x = false) := Lib.hid (by rw [HT.out]; simp [meets, h1, h4])
            have h4' : (q == v) = false := by simpa using h4
            have h3' : (p == x) = true := by simpa using h3
            clear h1 h3 h4
            go_wp2_with fail
            go_roundw
            case rel => exact ⟨k + 1, by omega, by go_num, HM, HFIN.out⟩
            case measure => simp [intOf]; omega
        · have HM : Hid (joined (E.take (k + 1)) v x = false) := Lib.hid (by rw [HT.out]; simp [meets, h1, h3])
          have h3' : (p == x) = false := by simpa using h3
          clear h1 h3
          go_wp2_with fail
          go_roundw
          case rel => exact ⟨k + 1, by omega, by go_num, HM, HFIN.out⟩
          case measure => simp [intOf]; omega
    · obtain rfl : k = n := by omega
      have HE : Hid (joined E v x = false) := Lib.hid (by have := HJ.out; rwa [List.take_of_length_le (by rw [HR.out.2]; exact Nat.le_refl _)] at this)
      go_wp2_with fail
      go_ret
      exact ⟨by rw [HE.out]; rfl, HO.out⟩

structure Q where
  V : List Int
  E : List Ed
  es : List Int
def qerr (E : List Ed) (v x : Int) : Nat := if v = x then 2 else if joined E v x = true then 3 else 0
def qV (V : List Int) (E : List Ed) (v x : Int) : List Int := if qerr E v x = 0 then st.withL V [v, x] else V
def qE (E : List Ed) (v x : Int) : List Ed := if qerr E v x = 0 then E ++ [(v, x)] else E
def Added (V : List Int) (E : List Ed) (v x : Int) (va0 ea0 : Option Addr) (w : World) (e : Ending) (w' : World) : Prop :=
  ∃ va vn vc ea en ec, e = .returned (.tuple #[.agg #[.slice va vn vc, .slice ea en ec], .int .i64 (qerr E v x : Int)]) ∧ RL iv w' va vn vc (qV V E v x) ∧ RE w' ea en ec (qE E v x) ∧ Same w w' ∧ (∀ k, At va k → At va0 k ∨ w.heap.size ≤ k ∧ k < w'.heap.size) ∧ ∀ k, At ea k → At ea0 k ∨ w.heap.size ≤ k ∧ k < w'.heap.size

theorem slE : SliceOf Tryd.prog 22 33 2 16 := SliceOf.mk (z := .agg #[.int .i64 0, .int .i64 0]) Tryd.underlying22 (by kernel_rfl) rfl

theorem old_block (w : World) (o o' : Obj) : ((w.alloc o).alloc o').heap[w.heap.size]? = some o := (Below.heap_alloc _ _ _ (by simp)).trans (heap_alloc_new w o)
theorem new_block2 (w : World) (o o' : Obj) : ((w.alloc o).alloc o').heap[w.heap.size + 1]? = some o' := heap_alloc_new' _ _ _ (by simp)
theorem row2 {w : World} {b : Nat} {v x : Int} {t : TypeId} (h : w.heap[b]? = some (.cells #[.int .i64 v, .int .i64 x] t (0, 0))) : RL iv w (some ⟨b, 0, none⟩) 2 2 [v, x] :=
  ⟨⟨rfl, Nat.le_refl _, by unfold maxLen; omega, fun u hu => by obtain ⟨y, _, rfl⟩ := List.mem_map.1 hu; rfl, fun _ => ⟨b, 0, rfl, lt_of_heap h, fun j u hj => by
    have hj2 : j < 2 := by have := (List.getElem?_eq_some_iff.1 hj).1; simpa using this
    rw [Nat.zero_add]
    refine block_cell h ?_
    have : j = 0 ∨ j = 1 := by omega
    rcases this with rfl | rfl <;> simpa using hj⟩, fun e => by cases e⟩, rfl⟩

set_option maxRecDepth 100000 in
set_option maxHeartbeats 3200000 in
theorem addS (va : Option Addr) (vn vc : Nat) (V : List Int) (ea : Option Addr) (en ec : Nat) (E : List Ed) (v x : Int) (w : World) (hV : RL iv w va vn vc V) (hE : RE w ea en ec E) (hvn : vn ≤ 100000) (hen : en ≤ 100000) :
    Calls Tryd.prog 14 #[.agg #[.slice va vn vc, .slice ea en ec], .agg #[.int .i64 v, .int .i64 x]] w (Added V E v x va ea w) := by
  have hbv := hV.bound
  have hbe := hE.1.bound
  have HV : Hid (∀ wx, Same w wx → RL iv wx va vn vc V) := Lib.hid (fun wx hx => hV.still hx)
  have HE : Hid (∀ wx, Same w wx → RE wx ea en ec E) := Lib.hid (fun wx hx => hE.still hx)
  have HJ : Hid (∀ wx, Same w wx → Calls Tryd.prog 21 #[.agg #[.slice va vn vc, .slice ea en ec], .int .i64 v, .int .i64 x] wx (FV wx (.bool (joined E v x)))) := Lib.hid (fun wx hx => joinedS va vn vc ea en ec E v x wx (hE.still hx))
  clear hV hE
  obtain ⟨W, hW⟩ : ∃ W, W = ((w.alloc (.cells #[.slice va vn vc, .slice ea en ec] 27)).alloc (.cells #[.int .i64 v, .int .i64 x] 33)).alloc (.cells #[.slice none 0 0, .slice none 0 0] 27) := ⟨_, rfl⟩
  obtain ⟨g, hg⟩ : ∃ g, g = w.heap.size := ⟨_, rfl⟩
  have HSW : Hid (Same w W) := Lib.hid (by rw [hW]; exact (((Only.refl _ w).alloc _).alloc _).alloc _)
  have HB2 : Hid (W.heap[g]? = some (.cells #[.slice va vn vc, .slice ea en ec] 27 (0, 0))) := Lib.hid (by
    rw [hW, hg, Below.heap_alloc _ _ _ (by simp; omega), Below.heap_alloc _ _ _ (by simp)]; exact heap_alloc_new _ _)
  have HB3 : Hid (W.heap[g + 1]? = some (.cells #[.int .i64 v, .int .i64 x] 33 (0, 0))) := Lib.hid (by
    rw [hW, hg, Below.heap_alloc _ _ _ (by simp)]; exact heap_alloc_new' _ _ _ (by simp))
  have HB4 : Hid (W.heap[g + 1 + 1]? = some (.cells #[.slice none 0 0, .slice none 0 0] 27 (0, 0))) := Lib.hid (by rw [hW, hg]; exact heap_alloc_new' _ _ _ (by simp))
  have HK : Hid (∀ wx, Same W wx → wx.cell? ⟨g, 0, none⟩ = some (.slice va vn vc) ∧ wx.cell? ⟨g, 1, none⟩ = some (.slice ea en ec) ∧ wx.cell? ⟨g + 1, 0, none⟩ = some (.int .i64 v) ∧ wx.cell? ⟨g + 1, 1, none⟩ = some (.int .i64 x)) := Lib.hid (fun wx hx =>
    ⟨block_cell (heap_still hx HB2.out) rfl, block_cell (heap_still hx HB2.out) rfl, block_cell (heap_still hx HB3.out) rfl, block_cell (heap_still hx HB3.out) rfl⟩)
  have HGW : Hid (w.heap.size ≤ g) := Lib.hid (by rw [hg]; exact Nat.le_refl _)
  have HK4 : Hid (∀ wx, Same W wx → wx.cell? ⟨g + 1 + 1, 0, none⟩ = some (.slice none 0 0) ∧ wx.cell? ⟨g + 1 + 1, 1, none⟩ = some (.slice none 0 0) ∧ wx.frozen? ⟨g + 1 + 1, 0, none⟩ = false ∧ wx.frozen? ⟨g + 1 + 1, 1, none⟩ = false) := Lib.hid (fun wx hx =>
    ⟨block_cell (heap_still hx HB4.out) rfl, block_cell (heap_still hx HB4.out) rfl, block_free (heap_still hx HB4.out), block_free (heap_still hx HB4.out)⟩)
  obtain ⟨c0, c1, d0, d1⟩ := HK.out W (Only.refl _ _)
  obtain ⟨e0, e1, f0, f1⟩ := HK4.out W (Only.refl _ _)
  by_cases hvx : v = x
  · have HQ : Hid (qerr E v x = 2) := Lib.hid (by unfold qerr; rw [if_pos hvx])
    have hq : (v == x) = true := by simpa using hvx
    clear hvx
    go_enter Tryd.func14, Tryd.ntmps14
    go_upto_region 1 with fail
    rw [← hW, ← hg]
    clear hW hg
    go_wp2_with fail
    obtain ⟨Wf, hWf⟩ : ∃ Wf, Wf = (W.setCell ⟨g + 1 + 1, 0, none⟩ (.slice va vn vc)).setCell ⟨g + 1 + 1, 1, none⟩ (.slice ea en ec) := ⟨_, rfl⟩
    rw [← hWf]
    have hBf : Wf.heap[g + 1 + 1]? = some (.cells #[.slice va vn vc, .slice ea en ec] 27 (0, 0)) := by rw [hWf]; exact setCell_heap (setCell_heap HB4.out 0 _) 1 _
    have hOf : Only (fun k => k = g + 1 + 1) W Wf := by rw [hWf]; exact ((Only.refl (fun k => k = g + 1 + 1) _).setCell ⟨g + 1 + 1, 0, none⟩ _ (fun _ => rfl)).setCell ⟨g + 1 + 1, 1, none⟩ _ (fun _ => rfl)
    have hSf : Same w Wf := new_only HSW.out hOf (fun k hk => by have := HGW.out; omega)
    have r0 : Wf.cell? ⟨g + 1 + 1, 0, none⟩ = some (.slice va vn vc) := block_cell hBf rfl
    have r1 : Wf.cell? ⟨g + 1 + 1, 1, none⟩ = some (.slice ea en ec) := block_cell hBf rfl
    refine bodyPost_ret (v := .tuple #[.agg #[.slice va vn vc, .slice ea en ec], .int .i64 2]) ?_ rfl ?_
    · simp [results, Tryd.results14, go_sem, r0, r1]
    · exact ⟨va, vn, vc, ea, en, ec, by rw [HQ.out]; rfl, by unfold qV; rw [HQ.out]; exact HV.out _ hSf, by unfold qE; rw [HQ.out]; exact HE.out _ hSf, hSf, fun k hk => .inl hk, fun k hk => .inl hk⟩
  · have hq : (v == x) = false := by simpa using hvx
    have HVX := Lib.hid hvx
    clear hvx
    cases hj : joined E v x with
    | true =>
      have HQ : Hid (qerr E v x = 3) := Lib.hid (by unfold qerr; rw [if_neg HVX.out, if_pos hj])
      rw [hj] at HJ
      clear hj
      go_enter Tryd.func14, Tryd.ntmps14
      go_upto_region 1 with fail
      rw [← hW, ← hg]
      clear hW hg
      go_wp2_with fail
      refine (HJ.out W HSW.out).mono ?_
      rintro e W2 ⟨rfl, hS2⟩
      obtain ⟨x0, x1, y0, y1⟩ := HK.out W2 hS2
      obtain ⟨z0, z1, u0, u1⟩ := HK4.out W2 hS2
      have HS2 := Lib.hid hS2
      clear hS2
      go_wp2_with fail
      obtain ⟨Wf, hWf⟩ : ∃ Wf, Wf = (W2.setCell ⟨g + 1 + 1, 0, none⟩ (.slice va vn vc)).setCell ⟨g + 1 + 1, 1, none⟩ (.slice ea en ec) := ⟨_, rfl⟩
      rw [← hWf]
      have hBf : Wf.heap[g + 1 + 1]? = some (.cells #[.slice va vn vc, .slice ea en ec] 27 (0, 0)) := by rw [hWf]; exact setCell_heap (setCell_heap (heap_still HS2.out HB4.out) 0 _) 1 _
      have hOf : Only (fun k => k = g + 1 + 1) W2 Wf := by rw [hWf]; exact ((Only.refl (fun k => k = g + 1 + 1) _).setCell ⟨g + 1 + 1, 0, none⟩ _ (fun _ => rfl)).setCell ⟨g + 1 + 1, 1, none⟩ _ (fun _ => rfl)
      have hSf : Same w Wf := new_only (HSW.out.trans HS2.out) hOf (fun k hk => by have := HGW.out; omega)
      have r0 : Wf.cell? ⟨g + 1 + 1, 0, none⟩ = some (.slice va vn vc) := block_cell hBf rfl
      have r1 : Wf.cell? ⟨g + 1 + 1, 1, none⟩ = some (.slice ea en ec) := block_cell hBf rfl
      refine bodyPost_ret (v := .tuple #[.agg #[.slice va vn vc, .slice ea en ec], .int .i64 3]) ?_ rfl ?_
      · simp [results, Tryd.results14, go_sem, r0, r1]
      · exact ⟨va, vn, vc, ea, en, ec, by rw [HQ.out]; rfl, by unfold qV; rw [HQ.out]; exact HV.out _ hSf, by unfold qE; rw [HQ.out]; exact HE.out _ hSf, hSf, fun k hk => .inl hk, fun k hk => .inl hk⟩
    | false =>
      have HQ : Hid (qerr E v x = 0) := Lib.hid (by unfold qerr; rw [if_neg HVX.out, if_neg (by rw [hj]; decide)])
      rw [hj] at HJ
      clear hj
      go_enter Tryd.func14, Tryd.ntmps14
      go_upto_region 1 with fail
      rw [← hW, ← hg]
      clear hW hg
      go_wp2_with fail
      refine (HJ.out W HSW.out).mono ?_
      rintro e W2 ⟨rfl, hS2⟩
      obtain ⟨x0, x1, y0, y1⟩ := HK.out W2 hS2
      obtain ⟨z0, z1, u0, u1⟩ := HK4.out W2 hS2
      have HS2 := Lib.hid hS2
      clear hS2
      have HST : Hid (∀ wx b, Same W2 wx → RL iv wx (some ⟨b, 0, none⟩) 2 2 [v, x] → Calls Tryd.prog 22 #[.slice va vn vc, .slice (some ⟨b, 0, none⟩) 2 2] wx fun e w' => ∃ a' n' c', e = .returned (.slice a' n' c') ∧ RL iv w' a' n' c' (st.withL V [v, x]) ∧ Same wx w' ∧ ∀ k, At a' k → W2.heap.size ≤ k ∧ k < w'.heap.size) := Lib.hid (fun wx b hx hr => (st.stWith va vn vc V _ 2 2 [v, x] wx (HV.out wx (HSW.out.trans (HS2.out.trans hx))) hr (by omega) (by omega)).mono fun e w' ⟨a', n', c', he, ho, hS, hf⟩ => ⟨a', n', c', he, ho.rl, hS, fun k hk => ⟨Nat.le_trans hx.size (hf k hk), ho.1.lt k hk⟩⟩)
      have HEE : Hid (∀ wx, Same W2 wx → RE wx ea en ec E) := Lib.hid (fun wx hx => HE.out wx (HSW.out.trans (HS2.out.trans hx)))
      have HKK : Hid (∀ wx, Only (fun k => k = g + 1 + 1) W2 wx → wx.cell? ⟨g, 0, none⟩ = some (.slice va vn vc) ∧ wx.cell? ⟨g, 1, none⟩ = some (.slice ea en ec) ∧ wx.cell? ⟨g + 1, 0, none⟩ = some (.int .i64 v) ∧ wx.cell? ⟨g + 1, 1, none⟩ = some (.int .i64 x)) := Lib.hid (fun wx hx => ⟨block_cell (hx.obj (heap_still HS2.out HB2.out) (by omega)) rfl, block_cell (hx.obj (heap_still HS2.out HB2.out) (by omega)) rfl, block_cell (hx.obj (heap_still HS2.out HB3.out) (by omega)) rfl, block_cell (hx.obj (heap_still HS2.out HB3.out) (by omega)) rfl⟩)
      go_wp2_with fail
      go_region_held3 (fun w' => w'.cell? ⟨g, 0, none⟩ = some (.slice va vn vc) ∧ w'.cell? ⟨g, 1, none⟩ = some (.slice ea en ec) ∧ w'.cell? ⟨g + 1, 0, none⟩ = some (.int .i64 v) ∧ w'.cell? ⟨g + 1, 1, none⟩ = some (.int .i64 x))
        (exact HKK.out _ (by with_reducible repeat (first | exact Only.refl _ _ | apply Only.alloc | apply Only.drew | (refine Only.setCell ?_ _ _ (fun _ => rfl)) | (refine Only.trans ?_ hO7 (fun _ _ f => f.elim)) | (refine Only.trans ?_ hS6 (fun _ _ f => f.elim)))))
        (first
          | ((go_at_call 22; (refine (HST.out _ _ (by with_reducible repeat (first | assumption | exact Only.refl _ _ | exact HS2.out | apply Only.alloc | apply Only.drew | (refine Same.trans ?_ hO7) | (refine Same.trans ?_ hS6))) (row2 (by first | exact heap_alloc_new W2 _ | exact new_block2 W2 _ _ | exact old_block W2 _ _))).mono ?_); rintro e w6 ⟨a6, n6, c6, rfl, hr6, hS6, hf6⟩; (try have BE1 : w6.heap[W2.heap.size]? = some (.cells #[.int .i64 v, .int .i64 x] 33 (0, 0)) := heap_still hS6 (old_block W2 _ _)); (try have BE2 : w6.heap[W2.heap.size + 1]? = some (.cells #[.int .i64 v, .int .i64 x] 33 (0, 0)) := heap_still hS6 (new_block2 W2 _ _))))
          | ((refine step_append_full (en + 1) (E.flatMap edc ++ [iv v, iv x]) (by rfl) _ _ _ _ (by rfl) slE (by rfl) (HEE.out _ (by with_reducible repeat (first | assumption | exact Only.refl _ _ | exact HS2.out | apply Only.alloc | apply Only.drew | (refine Same.trans ?_ hO7) | (refine Same.trans ?_ hS6)))).1.cut (by rfl) (Src.row (size := 2) (cs := #[.int .i64 v, .int .i64 x]) (t := 33) (fr := (0, 0)) Tryd.underlying22 (by first | exact heap_alloc_new w6 _ | exact BE1 | exact BE2) 1 1 rfl (by simp [Value.oneCell'])) (by omega) rfl rfl (by unfold maxLen; omega) (by omega) ?_; intro a7 c7 w7 hG; have hO7 : Same _ w7 := hG.only; have hS7 : Same W2 w7 := Same.trans (by with_reducible repeat (first | exact Only.refl _ _ | apply Only.alloc | apply Only.drew | (refine Same.trans ?_ hS6))) hO7; have hf7 : ∀ k, At a7 k → W2.heap.size ≤ k := fun k hk => Nat.le_trans (Only.size (S := fun _ => False) (by with_reducible repeat (first | exact Only.refl _ _ | apply Only.alloc | apply Only.drew | (refine Same.trans ?_ hS6)))) (hG.fresh k hk); obtain ⟨p0, p1, o0, o1⟩ := HK4.out w7 (HS2.out.trans hS7))))
      all_goals
        clear HKK HST HEE HJ
        have hS07 : Same w w7 := HSW.out.trans (HS2.out.trans hS7)
        have HS07 := Lib.hid hS07
        have HS27 := Lib.hid hS7
        have HV7 : Hid (RL iv w7 a6 n6 c6 (st.withL V [v, x])) := Lib.hid (hr6.still (Same.trans (by with_reducible repeat (first | exact Only.refl _ _ | apply Only.alloc | apply Only.drew)) hO7))
        have HE7 : Hid (RE w7 a7 (en + 1) c7 (E ++ [(v, x)])) := Lib.hid ⟨by have := hG.own.rd; rw [List.flatMap_append]; exact this, by rw [List.length_append, (HE.out w (Only.refl _ _)).2]; rfl⟩
        have HF6 : Hid (∀ k, At a6 k → W2.heap.size ≤ k ∧ k < w7.heap.size) := Lib.hid (fun k hk => ⟨(hf6 k hk).1, Nat.lt_of_lt_of_le (hf6 k hk).2 (Only.size (S := fun _ => False) (Same.trans (by with_reducible repeat (first | exact Only.refl _ _ | apply Only.alloc | apply Only.drew)) hO7))⟩)
        have HF7 : Hid (∀ k, At a7 k → W2.heap.size ≤ k ∧ k < w7.heap.size) := Lib.hid (fun k hk => ⟨hf7 k hk, hG.own.lt k hk⟩)
        clear hr6 hG hO7 hS7 hS07 hS6 hf6 hf7
        go_wp2_with fail
        obtain ⟨Wf, hWf⟩ : ∃ Wf, Wf = (w7.setCell ⟨g + 1 + 1, 0, none⟩ (.slice a6 n6 c6)).setCell ⟨g + 1 + 1, 1, none⟩ (.slice a7 (en + 1) c7) := ⟨_, rfl⟩
        rw [← hWf]
        have hBf : Wf.heap[g + 1 + 1]? = some (.cells #[.slice a6 n6 c6, .slice a7 (en + 1) c7] 27 (0, 0)) := by rw [hWf]; exact setCell_heap (setCell_heap (heap_still (HS2.out.trans HS27.out) HB4.out) 0 _) 1 _
        have hOf : Only (fun k => k = g + 1 + 1) w7 Wf := by rw [hWf]; exact ((Only.refl (fun k => k = g + 1 + 1) _).setCell ⟨g + 1 + 1, 0, none⟩ _ (fun _ => rfl)).setCell ⟨g + 1 + 1, 1, none⟩ _ (fun _ => rfl)
        have hSf : Same w Wf := new_only HS07.out hOf (fun k hk => by have := HGW.out; omega)
        have hgl : g + 1 + 1 < W2.heap.size := lt_of_heap (heap_still HS2.out HB4.out)
        have r0 : Wf.cell? ⟨g + 1 + 1, 0, none⟩ = some (.slice a6 n6 c6) := block_cell hBf rfl
        have r1 : Wf.cell? ⟨g + 1 + 1, 1, none⟩ = some (.slice a7 (en + 1) c7) := block_cell hBf rfl
        refine bodyPost_ret (v := .tuple #[.agg #[.slice a6 n6 c6, .slice a7 (en + 1) c7], .int .i64 0]) ?_ rfl ?_
        · simp [results, Tryd.results14, go_sem, r0, r1]
        · refine ⟨a6, n6, c6, a7, en + 1, c7, by rw [HQ.out]; rfl, ?_, ?_, hSf, fun k hk => .inr (by have := HF6.out k hk; have := HSW.out.size; have := HS2.out.size; have := hOf.size; omega), fun k hk => .inr (by have := HF7.out k hk; have := HSW.out.size; have := HS2.out.size; have := hOf.size; omega)⟩
          · unfold qV; rw [HQ.out]; exact HV7.out.keep hOf (fun k hk e => by have := HF6.out k hk; omega)
          · unfold qE; rw [HQ.out]; exact ⟨HE7.out.1.keep hOf (fun k hk e => by have := HF7.out k hk; omega), HE7.out.2⟩
end Go.Proofs.YtpccodjmjgfloaaDoor.gr
