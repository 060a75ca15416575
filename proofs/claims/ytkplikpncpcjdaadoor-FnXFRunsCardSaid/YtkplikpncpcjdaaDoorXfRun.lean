/-
  XFRun: the walk.
-/
import Derived.Test.YtkplikpncpcjdaaDoorXfInv
import Derived.Test.YtkplikpncpcjdaaDoorApp
namespace Go.Proofs.YtkplikpncpcjdaaDoor.xf
open Go.RowKit Go.Proofs.YtkplikpncpcjdaaDoor.base Go.Proofs.YtkplikpncpcjdaaDoor.heap Go.Proofs.YtkplikpncpcjdaaDoor.rows Go.Proofs.YtkplikpncpcjdaaDoor.mapn
set_option linter.unusedVariables false

def RunPost (w : World) (l : List Stp) (n : Nat) (e : Ending) (w' : World) : Prop :=
  ∃ oa oc As, e = .returned (.slice oa n oc) ∧ RS anc 3 w' oa n oc As ∧ (∀ x ∈ As, AnIn w' x) ∧ Ran l As ∧ Same w w'
theorem slAn : SliceOf Tryd.prog 29 39 3 40 := SliceOf.mk (z := .agg #[.slice none 0 0, .int .u64 0, .bool false]) Tryd.underlying29 (by kernel_rfl) rfl
theorem slEn : SliceOf Tryd.prog 50 57 1 16 := SliceOf.mk (z := .nilIface) Tryd.underlying50 (by kernel_rfl) rfl
/-- in the course of the entries -/
structure Mks (w3 wj : World) (la : Option Addr) (j lc : Nat) (I : List It) : Prop where
  out : OL 57 itv wj la j lc (I.take j)
  same : Same w3 wj
  new : ∀ k, At la k → w3.heap.size ≤ k
theorem Mks.step {w3 wj wk w8 : World} {la la2 : Option Addr} {j lc lc2 : Nat} {I : List It} {y : It} (h : Mks w3 wj la j lc I) (hy : I[j]? = some y) (hs : Same wj wk) (hG : Grew 57 1 wk w8 la la2 1 (j + 1) lc lc2 ((I.map itv).take j ++ [item y.1 y.2])) : Mks w3 w8 la2 (j + 1) lc2 I := by
  have z1 := h.same.size
  have z2 := hs.size
  refine ⟨?_, new_only (h.same.trans hs) hG.only h.new, fun k hk => ?_⟩
  · rw [take_snoc I j y hy]
    exact ⟨by rw [List.map_append, List.map_take]; exact hG.own, by rw [List.length_append, h.out.2]; rfl⟩
  · rcases hG.fresh k hk with h' | h'
    · exact h.new k h'
    · omega
theorem Inv.ins1 {w wr w3 wj : World} {tb m : Nat} {O : Nat → Prop} {l : List Stp} {oa la : Option Addr} {k n oc lc : Nat} {As : List An} {s : Stp} (h : Inv w wr tb m O l oa k oc As) (hT : Tabs w) (ho : Okay m s) (hin : s.I.length = n) (hs : Same wr w3) (hE : Mks w3 wj la n lc s.I) (hk : k ≤ 1000) :
    Calls Tryd.prog 18 #[op (some tb), .slice la n lc] wj (fun e w' => e = .returned (.tuple #[]) ∧ Same wr wj ∧ Gone wj w' tb O (puts (runL (l.take k)) s.I) m) := by
  have h1 := h.len
  have h2 := ho.few
  have hr := hE.out.rl
  rw [List.take_of_length_le (by omega)] at hr
  have hs2 := hs.trans hE.same
  exact (insertsC wj tb O _ m la n lc s.I (h.tr.still hs2) (hT.still (h.same.trans hs2)) hr (fun j hj hO => by
    have h8 := hE.new j hj
    have h9 := (h.tr.lt hO).2
    have := hs.size
    omega) (by omega) ho.inU).mono (fun e w' hh => ⟨hh.1, hs2, hh.2⟩)
theorem putStep {wr wj w5 : World} {tb m : Nat} {O : Nat → Prop} {L : List It} {s : Stp} (h1 : s.op = 1) (hG : Same wr wj ∧ Gone wj w5 tb O (puts L s.I) m) : StepR wr tb O L m s ⟨none, 0, 0, [], 0, false⟩ w5 := by
  obtain ⟨hs, O', g1, g2, g3⟩ := hG
  have z := hs.size
  refine ⟨O', ?_, Only.trans (S := O) (hs.mono (fun _ _ f => f.elim)) g2 (fun _ _ h => h), fun k hk => (g3 k hk).imp id (fun h => by omega), ?_, RS.nil _ _ _, fun k hk => hk.elim⟩
  · unfold nxt; rw [if_pos h1]; exact g1
  · unfold Says sayL sayN sayY
    rw [if_neg (by omega), if_neg (by omega), if_neg (by omega), if_neg (by omega), if_neg (by omega)]
    exact ⟨rfl, rfl, rfl⟩
theorem Gone.only {w wr : World} {tb m : Nat} {O : Nat → Prop} {L : List It} (h : Gone w wr tb O L m) : Only O w wr := by
  obtain ⟨_, _, h2, _⟩ := h
  exact h2
/-- an answer that is being made -/
def Sb (w : World) (b : Nat) (x : An) : Prop := w.heap[b]? = some (.cells #[.slice x.a x.n x.cap, .int .u64 (x.num : Int), .bool x.yes] 39 (0, 0))
theorem Says.len {L : List It} {s : Stp} (h : s.op = 5) {k : Nat} (hk : L.length = k) : nxt L s = L ∧ Says L s ⟨none, 0, 0, [], k, false⟩ := by
  unfold Says nxt sayL sayN sayY
  rw [if_neg (by omega), if_neg (by omega), if_neg (by omega), if_neg (by omega), if_pos h, if_neg (by omega)]
  exact ⟨rfl, rfl, hk.symm, rfl⟩
theorem Says.yes {L : List It} {s : Stp} (h : s.op = 4) {k : Bool} (hk : sayY L s = k) : nxt L s = L ∧ Says L s ⟨none, 0, 0, [], 0, k⟩ := by
  unfold Says
  rw [hk]
  unfold nxt sayL sayN
  rw [if_neg (by omega), if_neg (by omega), if_neg (by omega), if_neg (by omega), if_neg (by omega)]
  exact ⟨rfl, rfl, rfl, rfl⟩
theorem Says.ent {L E : List It} {s : Stp} {o : Int} (h : s.op = o) {a : Option Addr} {n c : Nat} (hk : sayL L s = E) (h1 : o ≠ 1 ∧ o ≠ 4 ∧ o ≠ 5) : nxt L s = L ∧ Says L s ⟨a, n, c, E, 0, false⟩ := by
  unfold Says
  rw [hk]
  unfold nxt sayY sayN
  rw [if_neg (by omega), if_neg (by omega), if_neg (by omega)]
  exact ⟨rfl, rfl, rfl, rfl⟩
theorem ask_step {wr w6 : World} {tb m : Nat} {O : Nat → Prop} {L : List It} {s : Stp} {x : An} (h : nxt L s = L ∧ Says L s x) (ht : Tr wr tb O L m) (hs : Same wr w6) (hr : AnIn w6 x) (hn : ∀ k, At x.a k → wr.heap.size ≤ k ∧ k < w6.heap.size) : StepR wr tb O L m s x w6 := by
  refine ⟨O, ?_, hs.mono (fun _ _ f => f.elim), fun k hk => .inl hk, h.2, hr, fun k hk => ⟨(hn k hk).1, (hn k hk).2, fun hk' => ?_⟩⟩
  · rw [h.1]; exact ht.still hs
  · have := (hn k hk).1; have := (ht.lt hk').2; omega
set_option maxRecDepth 100000 in
set_option maxHeartbeats 6400000 in
theorem xfRun (m : Nat) (hb : Bits m) (a : Option Addr) (n cap : Nat) (l : List Stp) (w : World) (hl : RS stc 3 w a n cap l) (hn : n ≤ 1000) (hs : ∀ s ∈ l, Okay m s ∧ StIn w s) (hT : Tabs w) :
    Calls Tryd.prog 9 #[.int .i64 (m : Int), .slice a n cap] w (RunPost w l n) := by
  have hbd := hl.bound
  have HR := Lib.hid hl
  have HS := Lib.hid hs
  have HT := Lib.hid hT
  have hw2 := hT.2.2
  have HU := Lib.hid (universe_of m w hb)
  have HN : Hid (∀ wx, Same w wx → Calls Tryd.prog 16 #[uni m] wx (FreshP m wx)) := Lib.hid (fun wx hx => newC m wx hb (by have := hx.size; omega))
  clear hl hs hT
  go_enter Tryd.func9, Tryd.ntmps9
  go_wp2_with fail
  refine HU.out.mono ?_
  rintro e w1 ⟨rfl, hs1⟩
  have HN1 := Lib.hid (HN.out w1 hs1)
  have HS1 := Lib.hid hs1
  clear hs1 HU HN
  go_wp2_with fail
  refine HN1.out.mono ?_
  rintro e w2 ⟨tb, O, rfl, ht, hs2, ho⟩
  have HI0 : Hid (Inv w w2 tb m O l none 0 0 []) := Lib.hid ⟨ht, OS.nil _ _ _ _, fun x hx => absurd hx List.not_mem_nil, fun j hj => by
    rcases hj with hj | hj
    · have := ho j hj; have := HS1.out.size; omega
    · exact hj.elim, fun j hj => hj.elim, HS1.out.trans hs2, ⟨rfl, fun i s x hi => by simp at hi⟩, by simp [runL]⟩
  clear ht hs2 ho HN1 HS1
  go_wp2_with fail
  go_loopw [6, 18] (fun o i wr => ∃ (k : Nat) (O : Nat → Prop) (oa : Option Addr) (oc : Nat) (As : List An), o = .slice oa k oc ∧ i = .int .i64 (k : Int) ∧ k ≤ n ∧ Hid (Inv w wr tb m O l oa k oc As)) (fun _ i _ => n - (intOf i).toNat)
  case atStart => exact ⟨0, O, none, 0, [], rfl, rfl, Nat.zero_le _, HI0⟩
  case round =>
    clear HI0
    obtain ⟨k, O, oa, oc, As, rfl, rfl, hk, HI⟩ := hrel
    have hbo := HI.out.out.bound
    by_cases hlt : k < n
    · have hlt' : (k : Int) < (n : Int) := by omega
      obtain ⟨b, off, ha, hb', hc⟩ := (HR.out.still HI.out.same).at stc_len (by omega)
      obtain ⟨s, hsk⟩ := HR.out.get hlt
      have hc2 := hc k s hsk
      have c0 : wr.cell? ⟨b, off + k * 3, none⟩ = some (.int .i64 s.op) := hc2 0 _ rfl
      have c1 : wr.cell? ⟨b, off + k * 3 + 1, none⟩ = some (.slice s.ia s.im s.ic) := hc2 1 _ rfl
      have c2 : wr.cell? ⟨b, off + k * 3 + 2, none⟩ = some (.slice s.ka s.km s.kc) := hc2 2 _ rfl
      have HSK := Lib.hid hsk
      subst ha
      clear hc hc2 hsk
      have HOK := Lib.hid (HS.out s (List.mem_of_getElem? HSK.out))
      rcases HOK.out.1.op with h1 | h1 | h1 | h1 | h1 | h1
      · rw [h1] at c0
        have HSB : Hid (Sb ((wr.alloc (.cells #[.int .i64 1, .slice s.ia s.im s.ic, .slice s.ka s.km s.kc] 36)).alloc (.cells #[.slice none 0 0, .int .u64 0, .bool false] 39)) (wr.heap.size + 1) ⟨none, 0, 0, [], 0, false⟩) := Lib.hid (heap_alloc_new' _ _ _ (by simp))
        have HSW : Hid (Same wr ((wr.alloc (.cells #[.int .i64 1, .slice s.ia s.im s.ic, .slice s.ka s.km s.kc] 36)).alloc (.cells #[.slice none 0 0, .int .u64 0, .bool false] 39))) := Lib.hid (((Only.refl _ _).alloc _).alloc _)
        have HIM := Lib.hid HOK.out.2.1
        have hin := HOK.out.2.1.2
        have hib := HOK.out.2.1.bound
        have him : s.im ≤ 100 := by have := HOK.out.1.few; omega
        go_wp2_with fail
        have HZ0 : Hid (((wr.alloc (.cells #[.int .i64 1, .slice s.ia s.im s.ic, .slice s.ka s.km s.kc] 36)).alloc (.cells #[.slice none 0 0, .int .u64 0, .bool false] 39)).heap.size = wr.heap.size + 1 + 1) := Lib.hid (by simp)
        obtain ⟨w3, hw3⟩ : ∃ w3, (wr.alloc (.cells #[.int .i64 1, .slice s.ia s.im s.ic, .slice s.ka s.km s.kc] 36)).alloc (.cells #[.slice none 0 0, .int .u64 0, .bool false] 39) = w3 := ⟨_, rfl⟩
        rw [hw3] at HSB HSW HZ0 ⊢
        clear hw3 c0 c1 c2
        have HE0 : Hid (Mks w3 w3 none 0 0 s.I) := Lib.hid ⟨OL.nil _ _ _, Only.refl _ _, fun j hj => hj.elim⟩
        go_loopw [10, 29] (fun o i wj => ∃ (j : Nat) (la : Option Addr) (lc : Nat), o = .slice la j lc ∧ i = .int .i64 (j : Int) ∧ j ≤ s.im ∧ Hid (Mks w3 wj la j lc s.I)) (fun _ i _ => s.im - (intOf i).toNat)
        case atStart => exact ⟨0, none, 0, rfl, rfl, Nat.zero_le _, HE0⟩
        case round =>
          clear HE0
          obtain ⟨j, la, lc, rfl, rfl, hj, HE⟩ := hrel
          have hbe := HE.out.out.bound
          by_cases hjlt : j < s.im
          · have hjlt' : (j : Int) < (s.im : Int) := by omega
            obtain ⟨b2, off2, ha2, hb2', hc2⟩ := (((HIM.out.still HI.out.same).still HSW.out).still HE.out.same).at itc_len (by omega)
            obtain ⟨y, hy⟩ := HIM.out.get hjlt
            have d0 : wr.cell? ⟨b2, off2 + j * 2, none⟩ = some (.int .u64 (y.1 : Int)) := hc2 j y hy 0 _ rfl
            have d1 : wr.cell? ⟨b2, off2 + j * 2 + 1, none⟩ = some (.int .i64 y.2) := hc2 j y hy 1 _ rfl
            have HY := Lib.hid hy
            clear hc2 hy
            rw [ha2]
            have HOW := Lib.hid HE.out.out
            clear ha2
            go_wp2_with (at_builtin; refine wpList_append (j + 1) ((s.I.take j).map itv ++ [item y.1 y.2]) rfl _ _ _ _ rfl slEn rfl (HOW.out.1.keep (S := fun _ => False) (by repeat (first | exact Only.refl _ _ | apply Only.alloc | apply Only.drew)) (fun _ _ => id)) rfl (Src.row (size := 1) (cs := #[item y.1 y.2]) (t := 57) (fr := (0, 0)) Tryd.underlying50 (by exact heap_alloc_new' _ _ _ (by simp)) 1 1 rfl (by simp [Value.oneCell'])) rfl rfl (by unfold maxLen; omega) (by omega) ?_)
            intro la2 lc2 w8 hG
            have HE2 := Lib.hid (HE.out.step HY.out (by repeat (first | exact Only.refl _ _ | apply Only.alloc | apply Only.drew)) hG)
            clear hG HOW
            go_wp2_with fail
            go_roundw
            case rel => exact ⟨j + 1, la2, lc2, rfl, by go_num, by omega, HE2⟩
            case measure => simp [intOf]; omega
          · have hjlt' : ¬ (j : Int) < (s.im : Int) := by omega
            obtain rfl : j = s.im := by omega
            have HIC := Lib.hid (HI.out.ins1 HT.out HOK.out.1 hin HSW.out HE.out (Nat.le_trans hk hn))
            go_wp2_with fail
            refine HIC.out.mono ?_
            rintro e w5 ⟨rfl, hG5⟩
            have HGO := Lib.hid hG5
            clear hG5 HIC
            have HSB5 := Lib.hid (HGO.out.2.only.obj (HE.out.same.obj HSB.out id) (fun h => by have := (HI.out.tr.lt h).2; omega))
            have y0 := block_cell (j := 0) HSB5.out rfl
            have y1 := block_cell (j := 1) HSB5.out rfl
            have y2 := block_cell (j := 2) HSB5.out rfl
            have ly := lt_of_heap HSB5.out
            have HST := Lib.hid (putStep h1 HGO.out)
            have HOW : Hid (OS 39 anc 3 w5 oa k oc As) := Lib.hid ((HI.out.out.still HGO.out.1).keep HGO.out.2.only (fun j hj hf => HI.out.apart j hj hf))
            go_wp2_with (at_builtin; refine wpList_append (k + 1) (As.flatMap anc ++ anc ⟨none, 0, 0, [], 0, false⟩) rfl _ _ _ _ rfl slAn rfl (HOW.out.1.keep (S := fun _ => False) (by repeat (first | exact Only.refl _ _ | apply Only.alloc | apply Only.drew)) (fun _ _ => id)) rfl (Src.row (size := 3) (cs := #[.slice none 0 0, .int .u64 (0 : Int), .bool false]) (t := 39) (fr := (0, 0)) Tryd.underlying29 (by exact heap_alloc_new' _ _ _ (by simp)) 1 1 rfl (by simp [Value.oneCell'])) rfl rfl (by unfold maxLen; omega) (by omega) ?_)
            intro oa2 oc2 w8 hG
            have HI2 := Lib.hid (HI.out.step HSK.out HOK.out.1 (Only.refl _ _) HST.out ((Only.refl _ w5).alloc _) hG)
            clear hG HOW HST
            obtain ⟨O2, hI2⟩ := HI2.out
            have HI3 := Lib.hid hI2
            clear hI2 HI2
            go_wp2_with fail
            go_roundw
            case rel => exact ⟨k + 1, O2, oa2, oc2, _, rfl, by go_num, by omega, HI3⟩
            case measure => simp [intOf]; omega
      · rw [h1] at c0
        have HSB : Hid (Sb ((wr.alloc (.cells #[.int .i64 3, .slice s.ia s.im s.ic, .slice s.ka s.km s.kc] 36)).alloc (.cells #[.slice none 0 0, .int .u64 0, .bool false] 39)) (wr.heap.size + 1) ⟨none, 0, 0, [], 0, false⟩) := Lib.hid (heap_alloc_new' _ _ _ (by simp))
        have HSW : Hid (Same wr ((wr.alloc (.cells #[.int .i64 3, .slice s.ia s.im s.ic, .slice s.ka s.km s.kc] 36)).alloc (.cells #[.slice none 0 0, .int .u64 0, .bool false] 39))) := Lib.hid (((Only.refl _ _).alloc _).alloc _)
        have HSL : Hid (∀ wx, Same ((wr.alloc (.cells #[.int .i64 3, .slice s.ia s.im s.ic, .slice s.ka s.km s.kc] 36)).alloc (.cells #[.slice none 0 0, .int .u64 0, .bool false] 39)) wx → (wr.heap.size + 1) < wx.heap.size) := Lib.hid (fun wx hx => lt_of_heap (hx.obj HSB.out id))
        have HFI : Hid (∀ wx, Same wr wx → Calls Tryd.prog 22 #[.slice s.ka s.km s.kc] wx (SayP (uv (s.K.headD 0)) wx)) := Lib.hid (fun wx hx => first_of wx _ _ _ _ ((HOK.out.2.still HI.out.same).still hx).2)
        obtain ⟨kx, hkx⟩ : ∃ kx, s.K.headD 0 = kx := ⟨_, rfl⟩
        have hku := HOK.out.1.key
        rw [hkx] at hku HFI
        obtain ⟨ov, hov⟩ : ∃ ov, ans (fnd (runL (l.take k)) kx) = ov := ⟨_, rfl⟩
        have HGE : Hid (∀ wx, Same wr wx → Calls Tryd.prog 21 #[op (some tb), .int .u64 (kx : Int)] wx (SayP ov wx)) := Lib.hid (fun wx hx => by
          have h9 := getC wx tb O _ m kx (HI.out.tr.still hx) hku
          rwa [hov] at h9)
        have HEN : Hid (∀ wx, Calls Tryd.prog 20 #[ov] wx (EntP (fnd (runL (l.take k)) kx) wx)) := Lib.hid (fun wx => by rw [← hov]; exact entryC wx _)
        have HYE : Hid (sayL (runL (l.take k)) s = (fnd (runL (l.take k)) kx).toList) := Lib.hid (by unfold sayL; rw [if_pos h1, hkx])
        clear hov hkx hku
        go_wp2_with fail
        refine (HFI.out _ HSW.out).mono ?_
        rintro e w2' ⟨rfl, hs2'⟩
        have HS2 := Lib.hid hs2'
        clear hs2' HFI
        go_wp2_with fail
        refine (HGE.out _ (HSW.out.trans HS2.out)).mono ?_
        rintro e w3 ⟨rfl, hs3'⟩
        have HS3 := Lib.hid (HS2.out.trans hs3')
        clear hs3' HGE HS2
        go_wp2_with fail
        refine (HEN.out _).mono ?_
        rintro e w4 ⟨ea, en, ec, rfl, hr4, hs4, hn4⟩
        have hs3 := HS3.out.trans hs4
        have HR4 := Lib.hid (And.intro hr4 hn4)
        have HZ4 : Hid (wr.heap.size + 1 < w3.heap.size) := Lib.hid (HSL.out _ HS3.out)
        clear hs4 hr4 hn4 HEN HS3
        have hsb3 := hs3.obj HSB.out id
        have x0 : ∀ i, w4.frozen? ⟨wr.heap.size + 1, i, none⟩ = false := fun i => block_free hsb3
        have xl := HSL.out _ hs3
        have HSB3 := Lib.hid hsb3
        have HON : Hid (Only (fun k => k = wr.heap.size + 1) w4 (((w4.setCell ⟨wr.heap.size + 1, 0, none⟩ (.slice ea en ec)).setCell ⟨wr.heap.size + 1, 1, none⟩ (.int .u64 0)).setCell ⟨wr.heap.size + 1, 2, none⟩ (.bool false))) := Lib.hid (Only.setCell (Only.setCell (Only.setCell (Only.refl (fun k => k = wr.heap.size + 1) w4) ⟨wr.heap.size + 1, 0, none⟩ _ (fun _ => rfl)) ⟨wr.heap.size + 1, 1, none⟩ _ (fun _ => rfl)) ⟨wr.heap.size + 1, 2, none⟩ _ (fun _ => rfl))
        have HW6 : Hid (Same wr (((w4.setCell ⟨wr.heap.size + 1, 0, none⟩ (.slice ea en ec)).setCell ⟨wr.heap.size + 1, 1, none⟩ (.int .u64 0)).setCell ⟨wr.heap.size + 1, 2, none⟩ (.bool false)) ∧ True) := Lib.hid ⟨new_only (HSW.out.trans hs3) HON.out (fun k e => by have : k = wr.heap.size + 1 := e; omega), trivial⟩
        have HR6 : Hid (RS itc 2 (((w4.setCell ⟨wr.heap.size + 1, 0, none⟩ (.slice ea en ec)).setCell ⟨wr.heap.size + 1, 1, none⟩ (.int .u64 0)).setCell ⟨wr.heap.size + 1, 2, none⟩ (.bool false)) ea en ec (fnd (runL (l.take k)) kx).toList ∧ ∀ k, At ea k → wr.heap.size ≤ k ∧ k < ((((w4.setCell ⟨wr.heap.size + 1, 0, none⟩ (.slice ea en ec)).setCell ⟨wr.heap.size + 1, 1, none⟩ (.int .u64 0)).setCell ⟨wr.heap.size + 1, 2, none⟩ (.bool false))).heap.size) := Lib.hid (by
          have hz3 := HZ4.out
          obtain ⟨q1, q2⟩ := HR4.out
          refine ⟨q1.keep HON.out (fun k hk e => ?_), fun k hk => ⟨?_, ?_⟩⟩
          · have := (q2 k hk).1; have e' : k = wr.heap.size + 1 := e; omega
          · have := (q2 k hk).1; omega
          · have := (q2 k hk).2; have := HON.out.size; omega)
        have y0 : w4.cell? ⟨wr.heap.size + 1, 0, none⟩ = some (.slice none 0 0) := block_cell HSB3.out rfl
        have y1 : w4.cell? ⟨wr.heap.size + 1, 1, none⟩ = some (.int .u64 0) := block_cell HSB3.out rfl
        have y2 : w4.cell? ⟨wr.heap.size + 1, 2, none⟩ = some (.bool false) := block_cell HSB3.out rfl
        obtain ⟨sb, hsb⟩ : ∃ sb, wr.heap.size + 1 = sb := ⟨_, rfl⟩
        rw [hsb] at x0 xl HW6 HR6 y0 y1 y2 ⊢
        clear c0 c1 c2 hs3 hsb3 HSB3 HSL HSW HSB hsb HON HR4 HZ4
        have HST : Hid (StepR wr tb O (runL (l.take k)) m s ⟨ea, en, ec, (fnd (runL (l.take k)) kx).toList, 0, false⟩ (((w4.setCell ⟨sb, 0, none⟩ (.slice ea en ec)).setCell ⟨sb, 1, none⟩ (.int .u64 0)).setCell ⟨sb, 2, none⟩ (.bool false))) := Lib.hid (ask_step (Says.ent h1 HYE.out ⟨by omega, by omega, by omega⟩) HI.out.tr HW6.out.1 HR6.out.1 HR6.out.2)
        have HOW : Hid (OS 39 anc 3 (((w4.setCell ⟨sb, 0, none⟩ (.slice ea en ec)).setCell ⟨sb, 1, none⟩ (.int .u64 0)).setCell ⟨sb, 2, none⟩ (.bool false)) oa k oc As) := Lib.hid (HI.out.out.still HW6.out.1)
        go_wp2_with (at_builtin; refine wpList_append (k + 1) (As.flatMap anc ++ anc ⟨ea, en, ec, (fnd (runL (l.take k)) kx).toList, 0, false⟩) rfl _ _ _ _ rfl slAn rfl (HOW.out.1.keep (S := fun _ => False) (by repeat (first | exact Only.refl _ _ | apply Only.alloc | apply Only.drew)) (fun _ _ => id)) rfl (Src.row (size := 3) (cs := #[.slice ea en ec, .int .u64 (0 : Int), .bool false]) (t := 39) (fr := (0, 0)) Tryd.underlying29 (by exact heap_alloc_new' _ _ _ (by simp)) 1 1 rfl (by simp [Value.oneCell'])) rfl rfl (by unfold maxLen; omega) (by omega) ?_)
        intro oa2 oc2 w8 hG
        have HI2 := Lib.hid (HI.out.step HSK.out HOK.out.1 (Only.refl _ _) HST.out ((Only.refl _ (((w4.setCell ⟨sb, 0, none⟩ (.slice ea en ec)).setCell ⟨sb, 1, none⟩ (.int .u64 0)).setCell ⟨sb, 2, none⟩ (.bool false))).alloc _) hG)
        clear hG HOW HST
        obtain ⟨O2, hI2⟩ := HI2.out
        have HI3 := Lib.hid hI2
        clear hI2 HI2
        go_wp2_with fail
        go_roundw
        case rel => exact ⟨k + 1, O2, oa2, oc2, _, rfl, by go_num, by omega, HI3⟩
        case measure => simp [intOf]; omega
      · rw [h1] at c0
        have HSB : Hid (Sb ((wr.alloc (.cells #[.int .i64 4, .slice s.ia s.im s.ic, .slice s.ka s.km s.kc] 36)).alloc (.cells #[.slice none 0 0, .int .u64 0, .bool false] 39)) (wr.heap.size + 1) ⟨none, 0, 0, [], 0, false⟩) := Lib.hid (heap_alloc_new' _ _ _ (by simp))
        have HSW : Hid (Same wr ((wr.alloc (.cells #[.int .i64 4, .slice s.ia s.im s.ic, .slice s.ka s.km s.kc] 36)).alloc (.cells #[.slice none 0 0, .int .u64 0, .bool false] 39))) := Lib.hid (((Only.refl _ _).alloc _).alloc _)
        have HSL : Hid (∀ wx, Same ((wr.alloc (.cells #[.int .i64 4, .slice s.ia s.im s.ic, .slice s.ka s.km s.kc] 36)).alloc (.cells #[.slice none 0 0, .int .u64 0, .bool false] 39)) wx → (wr.heap.size + 1) < wx.heap.size) := Lib.hid (fun wx hx => lt_of_heap (hx.obj HSB.out id))
        have HFI : Hid (∀ wx, Same wr wx → Calls Tryd.prog 22 #[.slice s.ka s.km s.kc] wx (SayP (uv (s.K.headD 0)) wx)) := Lib.hid (fun wx hx => first_of wx _ _ _ _ ((HOK.out.2.still HI.out.same).still hx).2)
        obtain ⟨kx, hkx⟩ : ∃ kx, s.K.headD 0 = kx := ⟨_, rfl⟩
        have hku := HOK.out.1.key
        rw [hkx] at hku HFI
        obtain ⟨ye, hye⟩ : ∃ ye, (fnd (runL (l.take k)) kx).isSome = ye := ⟨_, rfl⟩
        have HEX : Hid (∀ wx, Same wr wx → Calls Tryd.prog 23 #[op (some tb), .int .u64 (kx : Int)] wx (SayP (.bool ye) wx)) := Lib.hid (fun wx hx => by
          have h9 := existsC wx tb O _ m kx (HI.out.tr.still hx) hku
          rwa [hye] at h9)
        have HYE : Hid (sayY (runL (l.take k)) s = ye) := Lib.hid (by unfold sayY; rw [if_pos h1, hkx, hye])
        clear hye hkx hku
        go_wp2_with fail
        refine (HFI.out _ HSW.out).mono ?_
        rintro e w2' ⟨rfl, hs2'⟩
        have HS2 := Lib.hid hs2'
        clear hs2' HFI
        go_wp2_with fail
        refine (HEX.out _ (HSW.out.trans HS2.out)).mono ?_
        rintro e w3 ⟨rfl, hs3'⟩
        have hs3 := HS2.out.trans hs3'
        have HS3 := Lib.hid hs3
        have hsb3 := hs3.obj HSB.out id
        have x0 : ∀ i, w3.frozen? ⟨wr.heap.size + 1, i, none⟩ = false := fun i => block_free hsb3
        have xl := HSL.out _ hs3
        have HSB3 := Lib.hid hsb3
        have HW6 : Hid (Same wr (w3.setCell ⟨wr.heap.size + 1, 2, none⟩ (.bool ye)) ∧ True) := Lib.hid ⟨new_only (HSW.out.trans hs3) ((Only.refl (fun k => k = wr.heap.size + 1) w3).setCell ⟨wr.heap.size + 1, 2, none⟩ _ (fun _ => rfl)) (fun k e => by have : k = wr.heap.size + 1 := e; omega), trivial⟩
        have HSB6 : Hid (Sb (w3.setCell ⟨wr.heap.size + 1, 2, none⟩ (.bool ye)) (wr.heap.size + 1) ⟨none, 0, 0, [], 0, ye⟩) := Lib.hid (setCell_heap hsb3 2 (.bool ye))
        clear hs3 hsb3
        obtain ⟨sb, hsb⟩ : ∃ sb, wr.heap.size + 1 = sb := ⟨_, rfl⟩
        rw [hsb] at x0 xl HW6 HSB6 ⊢
        have y0 : w3.cell? ⟨sb, 0, none⟩ = some (.slice none 0 0) := by rw [← hsb]; exact block_cell HSB3.out rfl
        have y1 : w3.cell? ⟨sb, 1, none⟩ = some (.int .u64 0) := by rw [← hsb]; exact block_cell HSB3.out rfl
        have y2 : w3.cell? ⟨sb, 2, none⟩ = some (.bool false) := by rw [← hsb]; exact block_cell HSB3.out rfl
        clear c0 c1 c2 HSB3 HSL HSW HSB HS3 hsb
        have HST : Hid (StepR wr tb O (runL (l.take k)) m s ⟨none, 0, 0, [], 0, ye⟩ (w3.setCell ⟨sb, 2, none⟩ (.bool ye))) := Lib.hid (ask_step (Says.yes h1 HYE.out) HI.out.tr HW6.out.1 (RS.nil _ _ _) (fun k hk => hk.elim))
        have HOW : Hid (OS 39 anc 3 (w3.setCell ⟨sb, 2, none⟩ (.bool ye)) oa k oc As) := Lib.hid (HI.out.out.still HW6.out.1)
        go_wp2_with (at_builtin; refine wpList_append (k + 1) (As.flatMap anc ++ anc ⟨none, 0, 0, [], 0, ye⟩) rfl _ _ _ _ rfl slAn rfl (HOW.out.1.keep (S := fun _ => False) (by repeat (first | exact Only.refl _ _ | apply Only.alloc | apply Only.drew)) (fun _ _ => id)) rfl (Src.row (size := 3) (cs := #[.slice none 0 0, .int .u64 (0 : Int), .bool ye]) (t := 39) (fr := (0, 0)) Tryd.underlying29 (by exact heap_alloc_new' _ _ _ (by simp)) 1 1 rfl (by simp [Value.oneCell'])) rfl rfl (by unfold maxLen; omega) (by omega) ?_)
        intro oa2 oc2 w8 hG
        have HI2 := Lib.hid (HI.out.step HSK.out HOK.out.1 (Only.refl _ _) HST.out ((Only.refl _ (w3.setCell ⟨sb, 2, none⟩ (.bool ye))).alloc _) hG)
        clear hG HOW HST
        obtain ⟨O2, hI2⟩ := HI2.out
        have HI3 := Lib.hid hI2
        clear hI2 HI2
        go_wp2_with fail
        go_roundw
        case rel => exact ⟨k + 1, O2, oa2, oc2, _, rfl, by go_num, by omega, HI3⟩
        case measure => simp [intOf]; omega
      · rw [h1] at c0
        have HSB : Hid (Sb ((wr.alloc (.cells #[.int .i64 5, .slice s.ia s.im s.ic, .slice s.ka s.km s.kc] 36)).alloc (.cells #[.slice none 0 0, .int .u64 0, .bool false] 39)) (wr.heap.size + 1) ⟨none, 0, 0, [], 0, false⟩) := Lib.hid (heap_alloc_new' _ _ _ (by simp))
        have HSW : Hid (Same wr ((wr.alloc (.cells #[.int .i64 5, .slice s.ia s.im s.ic, .slice s.ka s.km s.kc] 36)).alloc (.cells #[.slice none 0 0, .int .u64 0, .bool false] 39))) := Lib.hid (((Only.refl _ _).alloc _).alloc _)
        have HSL : Hid (∀ wx, Same ((wr.alloc (.cells #[.int .i64 5, .slice s.ia s.im s.ic, .slice s.ka s.km s.kc] 36)).alloc (.cells #[.slice none 0 0, .int .u64 0, .bool false] 39)) wx → (wr.heap.size + 1) < wx.heap.size) := Lib.hid (fun wx hx => lt_of_heap (hx.obj HSB.out id))
        have HLE : Hid (∀ wx, Same wr wx → Calls Tryd.prog 24 #[op (some tb)] wx (SayP (.int .u64 ((runL (l.take k)).length : Int)) wx)) := Lib.hid (fun wx hx => lenC wx tb O _ m (HI.out.tr.still hx))
        obtain ⟨nL, hnL⟩ : ∃ nL, (runL (l.take k)).length = nL := ⟨_, rfl⟩
        have HNL := Lib.hid hnL
        rw [hnL] at HLE
        clear hnL
        go_wp2_with fail
        refine (HLE.out _ HSW.out).mono ?_
        rintro e w3 ⟨rfl, hs3⟩
        have HS3 := Lib.hid hs3
        have hsb3 := hs3.obj HSB.out id
        have x0 : ∀ i, w3.frozen? ⟨wr.heap.size + 1, i, none⟩ = false := fun i => block_free hsb3
        have xl := HSL.out _ hs3
        have HSB3 := Lib.hid hsb3
        have HW6 : Hid (Same wr (w3.setCell ⟨wr.heap.size + 1, 1, none⟩ (.int .u64 (nL : Int))) ∧ True) := Lib.hid ⟨new_only (HSW.out.trans hs3) ((Only.refl (fun k => k = wr.heap.size + 1) w3).setCell ⟨wr.heap.size + 1, 1, none⟩ _ (fun _ => rfl)) (fun k e => by have : k = wr.heap.size + 1 := e; omega), trivial⟩
        have HSB6 : Hid (Sb (w3.setCell ⟨wr.heap.size + 1, 1, none⟩ (.int .u64 (nL : Int))) (wr.heap.size + 1) ⟨none, 0, 0, [], nL, false⟩) := Lib.hid (setCell_heap hsb3 1 (.int .u64 (nL : Int)))
        clear hs3 hsb3
        obtain ⟨sb, hsb⟩ : ∃ sb, wr.heap.size + 1 = sb := ⟨_, rfl⟩
        rw [hsb] at x0 xl HW6 HSB6 ⊢
        have y0 : w3.cell? ⟨sb, 0, none⟩ = some (.slice none 0 0) := by rw [← hsb]; exact block_cell HSB3.out rfl
        have y1 : w3.cell? ⟨sb, 1, none⟩ = some (.int .u64 0) := by rw [← hsb]; exact block_cell HSB3.out rfl
        have y2 : w3.cell? ⟨sb, 2, none⟩ = some (.bool false) := by rw [← hsb]; exact block_cell HSB3.out rfl
        clear c0 c1 c2 HSB3 HSL HSW HSB HS3 hsb
        have HST : Hid (StepR wr tb O (runL (l.take k)) m s ⟨none, 0, 0, [], nL, false⟩ (w3.setCell ⟨sb, 1, none⟩ (.int .u64 (nL : Int)))) := Lib.hid (ask_step (Says.len h1 HNL.out) HI.out.tr HW6.out.1 (RS.nil _ _ _) (fun k hk => hk.elim))
        have HOW : Hid (OS 39 anc 3 (w3.setCell ⟨sb, 1, none⟩ (.int .u64 (nL : Int))) oa k oc As) := Lib.hid (HI.out.out.still HW6.out.1)
        go_wp2_with (at_builtin; refine wpList_append (k + 1) (As.flatMap anc ++ anc ⟨none, 0, 0, [], nL, false⟩) rfl _ _ _ _ rfl slAn rfl (HOW.out.1.keep (S := fun _ => False) (by repeat (first | exact Only.refl _ _ | apply Only.alloc | apply Only.drew)) (fun _ _ => id)) rfl (Src.row (size := 3) (cs := #[.slice none 0 0, .int .u64 (nL : Int), .bool false]) (t := 39) (fr := (0, 0)) Tryd.underlying29 (by exact heap_alloc_new' _ _ _ (by simp)) 1 1 rfl (by simp [Value.oneCell'])) rfl rfl (by unfold maxLen; omega) (by omega) ?_)
        intro oa2 oc2 w8 hG
        have HI2 := Lib.hid (HI.out.step HSK.out HOK.out.1 (Only.refl _ _) HST.out ((Only.refl _ (w3.setCell ⟨sb, 1, none⟩ (.int .u64 (nL : Int)))).alloc _) hG)
        clear hG HOW HST
        obtain ⟨O2, hI2⟩ := HI2.out
        have HI3 := Lib.hid hI2
        clear hI2 HI2
        go_wp2_with fail
        go_roundw
        case rel => exact ⟨k + 1, O2, oa2, oc2, _, rfl, by go_num, by omega, HI3⟩
        case measure => simp [intOf]; omega
      · rw [h1] at c0
        have HSB : Hid (Sb ((wr.alloc (.cells #[.int .i64 6, .slice s.ia s.im s.ic, .slice s.ka s.km s.kc] 36)).alloc (.cells #[.slice none 0 0, .int .u64 0, .bool false] 39)) (wr.heap.size + 1) ⟨none, 0, 0, [], 0, false⟩) := Lib.hid (heap_alloc_new' _ _ _ (by simp))
        have HSW : Hid (Same wr ((wr.alloc (.cells #[.int .i64 6, .slice s.ia s.im s.ic, .slice s.ka s.km s.kc] 36)).alloc (.cells #[.slice none 0 0, .int .u64 0, .bool false] 39))) := Lib.hid (((Only.refl _ _).alloc _).alloc _)
        have HSL : Hid (∀ wx, Same ((wr.alloc (.cells #[.int .i64 6, .slice s.ia s.im s.ic, .slice s.ka s.km s.kc] 36)).alloc (.cells #[.slice none 0 0, .int .u64 0, .bool false] 39)) wx → (wr.heap.size + 1) < wx.heap.size) := Lib.hid (fun wx hx => lt_of_heap (hx.obj HSB.out id))
        obtain ⟨ov, hov⟩ : ∃ ov, ans (runL (l.take k)).head? = ov := ⟨_, rfl⟩
        have HGE : Hid (∀ wx, Same wr wx → Calls Tryd.prog 25 #[op (some tb)] wx (SayP ov wx)) := Lib.hid (fun wx hx => by
          have h9 := minC wx tb O _ m (HI.out.tr.still hx)
          rwa [hov] at h9)
        have HEN : Hid (∀ wx, Calls Tryd.prog 20 #[ov] wx (EntP (runL (l.take k)).head? wx)) := Lib.hid (fun wx => by rw [← hov]; exact entryC wx _)
        have HYE : Hid (sayL (runL (l.take k)) s = (runL (l.take k)).head?.toList) := Lib.hid (by unfold sayL; rw [if_neg (by omega), if_pos h1])
        clear hov
        go_wp2_with fail
        refine (HGE.out _ HSW.out).mono ?_
        rintro e w3 ⟨rfl, hs3'⟩
        have HS3 := Lib.hid hs3'
        clear hs3' HGE
        go_wp2_with fail
        refine (HEN.out _).mono ?_
        rintro e w4 ⟨ea, en, ec, rfl, hr4, hs4, hn4⟩
        have hs3 := HS3.out.trans hs4
        have HR4 := Lib.hid (And.intro hr4 hn4)
        have HZ4 : Hid (wr.heap.size + 1 < w3.heap.size) := Lib.hid (HSL.out _ HS3.out)
        clear hs4 hr4 hn4 HEN HS3
        have hsb3 := hs3.obj HSB.out id
        have x0 : ∀ i, w4.frozen? ⟨wr.heap.size + 1, i, none⟩ = false := fun i => block_free hsb3
        have xl := HSL.out _ hs3
        have HSB3 := Lib.hid hsb3
        have HON : Hid (Only (fun k => k = wr.heap.size + 1) w4 (((w4.setCell ⟨wr.heap.size + 1, 0, none⟩ (.slice ea en ec)).setCell ⟨wr.heap.size + 1, 1, none⟩ (.int .u64 0)).setCell ⟨wr.heap.size + 1, 2, none⟩ (.bool false))) := Lib.hid (Only.setCell (Only.setCell (Only.setCell (Only.refl (fun k => k = wr.heap.size + 1) w4) ⟨wr.heap.size + 1, 0, none⟩ _ (fun _ => rfl)) ⟨wr.heap.size + 1, 1, none⟩ _ (fun _ => rfl)) ⟨wr.heap.size + 1, 2, none⟩ _ (fun _ => rfl))
        have HW6 : Hid (Same wr (((w4.setCell ⟨wr.heap.size + 1, 0, none⟩ (.slice ea en ec)).setCell ⟨wr.heap.size + 1, 1, none⟩ (.int .u64 0)).setCell ⟨wr.heap.size + 1, 2, none⟩ (.bool false)) ∧ True) := Lib.hid ⟨new_only (HSW.out.trans hs3) HON.out (fun k e => by have : k = wr.heap.size + 1 := e; omega), trivial⟩
        have HR6 : Hid (RS itc 2 (((w4.setCell ⟨wr.heap.size + 1, 0, none⟩ (.slice ea en ec)).setCell ⟨wr.heap.size + 1, 1, none⟩ (.int .u64 0)).setCell ⟨wr.heap.size + 1, 2, none⟩ (.bool false)) ea en ec (runL (l.take k)).head?.toList ∧ ∀ k, At ea k → wr.heap.size ≤ k ∧ k < ((((w4.setCell ⟨wr.heap.size + 1, 0, none⟩ (.slice ea en ec)).setCell ⟨wr.heap.size + 1, 1, none⟩ (.int .u64 0)).setCell ⟨wr.heap.size + 1, 2, none⟩ (.bool false))).heap.size) := Lib.hid (by
          have hz3 := HZ4.out
          obtain ⟨q1, q2⟩ := HR4.out
          refine ⟨q1.keep HON.out (fun k hk e => ?_), fun k hk => ⟨?_, ?_⟩⟩
          · have := (q2 k hk).1; have e' : k = wr.heap.size + 1 := e; omega
          · have := (q2 k hk).1; omega
          · have := (q2 k hk).2; have := HON.out.size; omega)
        have y0 : w4.cell? ⟨wr.heap.size + 1, 0, none⟩ = some (.slice none 0 0) := block_cell HSB3.out rfl
        have y1 : w4.cell? ⟨wr.heap.size + 1, 1, none⟩ = some (.int .u64 0) := block_cell HSB3.out rfl
        have y2 : w4.cell? ⟨wr.heap.size + 1, 2, none⟩ = some (.bool false) := block_cell HSB3.out rfl
        obtain ⟨sb, hsb⟩ : ∃ sb, wr.heap.size + 1 = sb := ⟨_, rfl⟩
        rw [hsb] at x0 xl HW6 HR6 y0 y1 y2 ⊢
        clear c0 c1 c2 hs3 hsb3 HSB3 HSL HSW HSB hsb HON HR4 HZ4
        have HST : Hid (StepR wr tb O (runL (l.take k)) m s ⟨ea, en, ec, (runL (l.take k)).head?.toList, 0, false⟩ (((w4.setCell ⟨sb, 0, none⟩ (.slice ea en ec)).setCell ⟨sb, 1, none⟩ (.int .u64 0)).setCell ⟨sb, 2, none⟩ (.bool false))) := Lib.hid (ask_step (Says.ent h1 HYE.out ⟨by omega, by omega, by omega⟩) HI.out.tr HW6.out.1 HR6.out.1 HR6.out.2)
        have HOW : Hid (OS 39 anc 3 (((w4.setCell ⟨sb, 0, none⟩ (.slice ea en ec)).setCell ⟨sb, 1, none⟩ (.int .u64 0)).setCell ⟨sb, 2, none⟩ (.bool false)) oa k oc As) := Lib.hid (HI.out.out.still HW6.out.1)
        go_wp2_with (at_builtin; refine wpList_append (k + 1) (As.flatMap anc ++ anc ⟨ea, en, ec, (runL (l.take k)).head?.toList, 0, false⟩) rfl _ _ _ _ rfl slAn rfl (HOW.out.1.keep (S := fun _ => False) (by repeat (first | exact Only.refl _ _ | apply Only.alloc | apply Only.drew)) (fun _ _ => id)) rfl (Src.row (size := 3) (cs := #[.slice ea en ec, .int .u64 (0 : Int), .bool false]) (t := 39) (fr := (0, 0)) Tryd.underlying29 (by exact heap_alloc_new' _ _ _ (by simp)) 1 1 rfl (by simp [Value.oneCell'])) rfl rfl (by unfold maxLen; omega) (by omega) ?_)
        intro oa2 oc2 w8 hG
        have HI2 := Lib.hid (HI.out.step HSK.out HOK.out.1 (Only.refl _ _) HST.out ((Only.refl _ (((w4.setCell ⟨sb, 0, none⟩ (.slice ea en ec)).setCell ⟨sb, 1, none⟩ (.int .u64 0)).setCell ⟨sb, 2, none⟩ (.bool false))).alloc _) hG)
        clear hG HOW HST
        obtain ⟨O2, hI2⟩ := HI2.out
        have HI3 := Lib.hid hI2
        clear hI2 HI2
        go_wp2_with fail
        go_roundw
        case rel => exact ⟨k + 1, O2, oa2, oc2, _, rfl, by go_num, by omega, HI3⟩
        case measure => simp [intOf]; omega
      · rw [h1] at c0
        have HSB : Hid (Sb ((wr.alloc (.cells #[.int .i64 7, .slice s.ia s.im s.ic, .slice s.ka s.km s.kc] 36)).alloc (.cells #[.slice none 0 0, .int .u64 0, .bool false] 39)) (wr.heap.size + 1) ⟨none, 0, 0, [], 0, false⟩) := Lib.hid (heap_alloc_new' _ _ _ (by simp))
        have HSW : Hid (Same wr ((wr.alloc (.cells #[.int .i64 7, .slice s.ia s.im s.ic, .slice s.ka s.km s.kc] 36)).alloc (.cells #[.slice none 0 0, .int .u64 0, .bool false] 39))) := Lib.hid (((Only.refl _ _).alloc _).alloc _)
        have HSL : Hid (∀ wx, Same ((wr.alloc (.cells #[.int .i64 7, .slice s.ia s.im s.ic, .slice s.ka s.km s.kc] 36)).alloc (.cells #[.slice none 0 0, .int .u64 0, .bool false] 39)) wx → (wr.heap.size + 1) < wx.heap.size) := Lib.hid (fun wx hx => lt_of_heap (hx.obj HSB.out id))
        obtain ⟨ov, hov⟩ : ∃ ov, ans (runL (l.take k)).getLast? = ov := ⟨_, rfl⟩
        have HGE : Hid (∀ wx, Same wr wx → Calls Tryd.prog 26 #[op (some tb)] wx (SayP ov wx)) := Lib.hid (fun wx hx => by
          have h9 := maxC wx tb O _ m (HI.out.tr.still hx)
          rwa [hov] at h9)
        have HEN : Hid (∀ wx, Calls Tryd.prog 20 #[ov] wx (EntP (runL (l.take k)).getLast? wx)) := Lib.hid (fun wx => by rw [← hov]; exact entryC wx _)
        have HYE : Hid (sayL (runL (l.take k)) s = (runL (l.take k)).getLast?.toList) := Lib.hid (by unfold sayL; rw [if_neg (by omega), if_neg (by omega), if_pos h1])
        clear hov
        go_wp2_with fail
        refine (HGE.out _ HSW.out).mono ?_
        rintro e w3 ⟨rfl, hs3'⟩
        have HS3 := Lib.hid hs3'
        clear hs3' HGE
        go_wp2_with fail
        refine (HEN.out _).mono ?_
        rintro e w4 ⟨ea, en, ec, rfl, hr4, hs4, hn4⟩
        have hs3 := HS3.out.trans hs4
        have HR4 := Lib.hid (And.intro hr4 hn4)
        have HZ4 : Hid (wr.heap.size + 1 < w3.heap.size) := Lib.hid (HSL.out _ HS3.out)
        clear hs4 hr4 hn4 HEN HS3
        have hsb3 := hs3.obj HSB.out id
        have x0 : ∀ i, w4.frozen? ⟨wr.heap.size + 1, i, none⟩ = false := fun i => block_free hsb3
        have xl := HSL.out _ hs3
        have HSB3 := Lib.hid hsb3
        have HON : Hid (Only (fun k => k = wr.heap.size + 1) w4 (((w4.setCell ⟨wr.heap.size + 1, 0, none⟩ (.slice ea en ec)).setCell ⟨wr.heap.size + 1, 1, none⟩ (.int .u64 0)).setCell ⟨wr.heap.size + 1, 2, none⟩ (.bool false))) := Lib.hid (Only.setCell (Only.setCell (Only.setCell (Only.refl (fun k => k = wr.heap.size + 1) w4) ⟨wr.heap.size + 1, 0, none⟩ _ (fun _ => rfl)) ⟨wr.heap.size + 1, 1, none⟩ _ (fun _ => rfl)) ⟨wr.heap.size + 1, 2, none⟩ _ (fun _ => rfl))
        have HW6 : Hid (Same wr (((w4.setCell ⟨wr.heap.size + 1, 0, none⟩ (.slice ea en ec)).setCell ⟨wr.heap.size + 1, 1, none⟩ (.int .u64 0)).setCell ⟨wr.heap.size + 1, 2, none⟩ (.bool false)) ∧ True) := Lib.hid ⟨new_only (HSW.out.trans hs3) HON.out (fun k e => by have : k = wr.heap.size + 1 := e; omega), trivial⟩
        have HR6 : Hid (RS itc 2 (((w4.setCell ⟨wr.heap.size + 1, 0, none⟩ (.slice ea en ec)).setCell ⟨wr.heap.size + 1, 1, none⟩ (.int .u64 0)).setCell ⟨wr.heap.size + 1, 2, none⟩ (.bool false)) ea en ec (runL (l.take k)).getLast?.toList ∧ ∀ k, At ea k → wr.heap.size ≤ k ∧ k < ((((w4.setCell ⟨wr.heap.size + 1, 0, none⟩ (.slice ea en ec)).setCell ⟨wr.heap.size + 1, 1, none⟩ (.int .u64 0)).setCell ⟨wr.heap.size + 1, 2, none⟩ (.bool false))).heap.size) := Lib.hid (by
          have hz3 := HZ4.out
          obtain ⟨q1, q2⟩ := HR4.out
          refine ⟨q1.keep HON.out (fun k hk e => ?_), fun k hk => ⟨?_, ?_⟩⟩
          · have := (q2 k hk).1; have e' : k = wr.heap.size + 1 := e; omega
          · have := (q2 k hk).1; omega
          · have := (q2 k hk).2; have := HON.out.size; omega)
        have y0 : w4.cell? ⟨wr.heap.size + 1, 0, none⟩ = some (.slice none 0 0) := block_cell HSB3.out rfl
        have y1 : w4.cell? ⟨wr.heap.size + 1, 1, none⟩ = some (.int .u64 0) := block_cell HSB3.out rfl
        have y2 : w4.cell? ⟨wr.heap.size + 1, 2, none⟩ = some (.bool false) := block_cell HSB3.out rfl
        obtain ⟨sb, hsb⟩ : ∃ sb, wr.heap.size + 1 = sb := ⟨_, rfl⟩
        rw [hsb] at x0 xl HW6 HR6 y0 y1 y2 ⊢
        clear c0 c1 c2 hs3 hsb3 HSB3 HSL HSW HSB hsb HON HR4 HZ4
        have HST : Hid (StepR wr tb O (runL (l.take k)) m s ⟨ea, en, ec, (runL (l.take k)).getLast?.toList, 0, false⟩ (((w4.setCell ⟨sb, 0, none⟩ (.slice ea en ec)).setCell ⟨sb, 1, none⟩ (.int .u64 0)).setCell ⟨sb, 2, none⟩ (.bool false))) := Lib.hid (ask_step (Says.ent h1 HYE.out ⟨by omega, by omega, by omega⟩) HI.out.tr HW6.out.1 HR6.out.1 HR6.out.2)
        have HOW : Hid (OS 39 anc 3 (((w4.setCell ⟨sb, 0, none⟩ (.slice ea en ec)).setCell ⟨sb, 1, none⟩ (.int .u64 0)).setCell ⟨sb, 2, none⟩ (.bool false)) oa k oc As) := Lib.hid (HI.out.out.still HW6.out.1)
        go_wp2_with (at_builtin; refine wpList_append (k + 1) (As.flatMap anc ++ anc ⟨ea, en, ec, (runL (l.take k)).getLast?.toList, 0, false⟩) rfl _ _ _ _ rfl slAn rfl (HOW.out.1.keep (S := fun _ => False) (by repeat (first | exact Only.refl _ _ | apply Only.alloc | apply Only.drew)) (fun _ _ => id)) rfl (Src.row (size := 3) (cs := #[.slice ea en ec, .int .u64 (0 : Int), .bool false]) (t := 39) (fr := (0, 0)) Tryd.underlying29 (by exact heap_alloc_new' _ _ _ (by simp)) 1 1 rfl (by simp [Value.oneCell'])) rfl rfl (by unfold maxLen; omega) (by omega) ?_)
        intro oa2 oc2 w8 hG
        have HI2 := Lib.hid (HI.out.step HSK.out HOK.out.1 (Only.refl _ _) HST.out ((Only.refl _ (((w4.setCell ⟨sb, 0, none⟩ (.slice ea en ec)).setCell ⟨sb, 1, none⟩ (.int .u64 0)).setCell ⟨sb, 2, none⟩ (.bool false))).alloc _) hG)
        clear hG HOW HST
        obtain ⟨O2, hI2⟩ := HI2.out
        have HI3 := Lib.hid hI2
        clear hI2 HI2
        go_wp2_with fail
        go_roundw
        case rel => exact ⟨k + 1, O2, oa2, oc2, _, rfl, by go_num, by omega, HI3⟩
        case measure => simp [intOf]; omega
    · have hlt' : ¬ (k : Int) < (n : Int) := by omega
      obtain rfl : k = n := by omega
      go_wp2_with fail
      go_ret
      have hi := HI.out
      have hr := hi.ran
      rw [List.take_of_length_le (by rw [HR.out.2]; exact Nat.le_refl _)] at hr
      exact ⟨oa, oc, As, rfl, hi.out.rs, fun x hx => (hi.ins x hx).1, hr, hi.same⟩
end Go.Proofs.YtkplikpncpcjdaaDoor.xf
