/-
  STRun of the thin package: the walk.
-/
import Derived.Test.YtpccodjmjgfloaaStRun
import Derived.Deep.RegionLaw
namespace Go.Proofs.Ytpccodjmjgfloaa.st
open Go.RowKit Go.Proofs.Ytpccodjmjgfloaa.base Go.Proofs.Ytpccodjmjgfloaa.heap Go.Proofs.Ytpccodjmjgfloaa.rows Go.Proofs.Ytpccodjmjgfloaa.mapi
set_option linter.unusedVariables false

/-- behind the switch of a round -/
def Mid (p : Nat) (o : O) (W1 : World) (ks : List Int) (f : Bool) (wx : World) : Prop :=
  ∃ (o' : O) (fo' : Option (List Int)), o'.p = p ∧ o'.ok wx ks fo' ∧ (∀ F, fo' = some F → F.length ≤ 1000 ∧ (f = true → F.Perm ks)) ∧ Only o.foot W1 wx ∧ ∀ k, o'.foot k → o.foot k ∨ W1.heap.size ≤ k

theorem Mid.of_did {p : Nat} {o : O} {W1 w2 : World} {ks : List Int} {f : Bool} {r : Value} {fo' : Option (List Int)} {e : Ending} {w' : World} (hp : o.p = p) (h : Did o w2 r ks fo' e w') (hS : Same W1 w2) (hf : ∀ F, fo' = some F → F.length ≤ 1000 ∧ (f = true → F.Perm ks)) :
    e = .returned r ∧ Mid p o W1 ks f w' := by
  obtain ⟨o', he, hp', hok, hO, hfr⟩ := h
  exact ⟨he, o', fo', hp'.trans hp, hok, hf, Only.trans (hS.mono (fun _ _ f => f.elim)) hO (fun _ _ h => h), fun k hk => (hfr k hk).imp id (fun h => by have := hS.size; omega)⟩

def FRun (first : List Int) (l : List St) (n : Nat) (w : World) (e : Ending) (w' : World) : Prop :=
  ∃ (oa : Option Addr) (oc : Nat) (L : List Sd), e = .returned (.slice oa n oc) ∧ Rd 4 w' oa n oc (L.flatMap sdc) ∧ L.length = n ∧ (∀ i s t, L[i]? = some s → l[i]? = some t → Sok w' s (ksAt first l (i + 1)) t.d (flAt l (i + 1))) ∧ Same w w'

theorem slSaid : SliceOf Try.prog 26 35 4 64 := SliceOf.mk (z := .agg #[.int .i64 0, .slice none 0 0, .bool false, .slice none 0 0]) Try.underlying26 (by kernel_rfl) rfl
theorem slB : SliceOf Try.prog 33 4 1 1 := SliceOf.mk (z := .bool false) Try.underlying33 (by kernel_rfl) rfl

theorem asserted (x : Int) (w : World) : (Instr.typeAssert (ai x) 20 3 false).run Try.prog w = .ok (iv x) w := by
  simp [Instr.typeAssert, run_underlying Try.underlying3, Result.andThen]

set_option maxRecDepth 100000 in
set_option maxHeartbeats 6400000 in
theorem stRun (fa : Option Addr) (m fc : Nat) (first : List Int) (a : Option Addr) (n cap : Nat) (l : List St) (w : World) (hf : RL iv w fa m fc first) (h : RS w a n cap l)
    (hd : ∀ s ∈ l, ∀ wx, Same w wx → RL iv wx s.a s.n s.cap s.d) (hm : m ≤ 20) (hn : n ≤ 40) (hs : ∀ s ∈ l, 1 ≤ s.op ∧ s.op ≤ 4 ∧ s.n ≤ 20) :
    Calls Try.prog 7 #[.slice fa m fc, .slice a n cap] w (FRun first l n w) := by
  have hbd := h.1.bound
  have hbf := hf.bound
  have HR : Hid (∀ wx, Same w wx → RS wx a n cap l) := Lib.hid (fun wx hx => h.keep hx (fun _ _ => id))
  have HL := Lib.hid h.2
  have HD := Lib.hid hd
  have HS := Lib.hid hs
  have HKS : Hid (∀ k, k ≤ n → (ksAt first l k).Nodup ∧ (ksAt first l k).length ≤ 20 + 20 * k) := Lib.hid (fun k hk => ksAt_ok first l (by rw [hf.2]; exact hm) (fun s hs' => by
    have h1 := (hd s hs' w (Only.refl _ _)).2
    have h2 := (hs s hs').2.2
    omega) k (by rw [h.2]; exact hk))
  have HA := Lib.hid (anys fa m fc first w hf (by omega))
  clear h hf hd hs
  go_enter Try.func7, Try.ntmps7
  go_wp2_with fail
  refine HA.out.mono ?_
  rintro e w1 ⟨a1, c1, rfl, hr1, hO1, hf1⟩
  have HN := Lib.hid (new a1 m c1 first w1 hr1)
  have HO1 := Lib.hid hO1
  clear HA hr1 hO1 hf1
  go_wp2_with fail
  refine HN.out.mono ?_
  rintro e w2 ⟨o, rfl, hok, hO2, hof⟩
  have HI0 : Hid (Inv w w2 o.p first l 0 none 0 [] o none) := Lib.hid ⟨rfl, hok, fun F h => (nomatch h), Own.nil _ _ _, rfl, fun i s t h => by simp at h, fun s h => (nomatch h), fun j hj => by
    rcases hj with hj | hj
    · have := hof j hj; have := HO1.out.size; omega
    · exact hj.elim, fun j hj => hj.elim, Same.trans HO1.out hO2⟩
  clear hok hO2 hof HN
  unfold O.ptr
  generalize o.p = p at *
  go_wp2_with fail
  go_loopw [6, 19] (fun out i wr => ∃ (k : Nat) (oa : Option Addr) (oc : Nat) (L : List Sd) (o : O) (fo : Option (List Int)), k ≤ n ∧ i = .int .i64 (k : Int) ∧ out = .slice oa k oc ∧ Inv w wr p first l k oa oc L o fo) (fun _ i _ => n - (intOf i).toNat)
  case atStart => exact ⟨0, none, 0, [], o, none, Nat.zero_le _, rfl, rfl, HI0.out⟩
  case round =>
    clear HI0
    obtain ⟨k, oa, oc, L, o, fo, hk, rfl, rfl, hI⟩ := hrel
    have HI := Lib.hid hI
    have hbo : k ≤ oc ∧ oc ≤ 9223372036854775807 := hI.out.bound
    clear hI
    by_cases hlt : k < n
    · have hlt' : (k : Int) < (n : Int) := by omega
      obtain ⟨b, off, rfl, hb, hc⟩ := (HR.out wr HI.out.same).at (by omega)
      obtain ⟨s, hsk⟩ : ∃ s, l[k]? = some s := ⟨l[k]'(by rw [HL.out]; omega), List.getElem?_eq_getElem _⟩
      obtain ⟨c0, c1⟩ := hc k s hsk
      obtain ⟨g1, g2, g3⟩ := HS.out s (List.mem_of_getElem? hsk)
      have HSK := Lib.hid hsk
      have HDD : Hid (∀ wx, Same w wx → RL iv wx s.a s.n s.cap s.d) := Lib.hid (HD.out s (List.mem_of_getElem? hsk))
      have HK1 : Hid (ksAt first l (k + 1) = stepL (ksAt first l k) s) := Lib.hid (ksAt_succ first l k s hsk)
      have HF1 : Hid (flAt l (k + 1) = stepF (flAt l k) s) := Lib.hid (flAt_succ l k s hsk)
      have hsc := (HDD.out w (Only.refl _ _)).bound
      clear hc hsk
      obtain ⟨W1, hW1⟩ : ∃ W1, W1 = wr.alloc (.cells #[.int .i64 s.op, .slice s.a s.n s.cap] 30) := ⟨_, rfl⟩
      obtain ⟨sb, hsb⟩ : ∃ sb, sb = wr.heap.size := ⟨_, rfl⟩
      have HS1 : Hid (Same wr W1) := Lib.hid (by rw [hW1]; exact (Only.refl _ _).alloc _)
      have HB1 : Hid (W1.heap[sb]? = some (.cells #[.int .i64 s.op, .slice s.a s.n s.cap] 30 (0, 0))) := Lib.hid (by rw [hW1, hsb]; exact heap_alloc_new _ _)
      have HSZ : Hid (sb = wr.heap.size) := Lib.hid hsb
      have HSZ1 : Hid (W1.heap.size = sb + 1) := Lib.hid (by rw [hW1, hsb]; simp)
      go_upto_block 2 with fail
      rw [← hW1, ← hsb]
      clear hW1 hsb

      go_cut [24] (fun _ wx => Mid p o W1 (ksAt first l (k + 1)) (flAt l (k + 1)) wx)
      case first =>
        have HNF : Hid (∀ j, o.foot j → j < W1.heap.size) := Lib.hid (fun j hj => by have := HI.out.ok.lt j hj; have := HS1.out.size; omega)
        have HP := Lib.hid HI.out.p
        have HOK1 : Hid (o.ok W1 (ksAt first l k) fo) := Lib.hid (HI.out.ok.still HS1.out)
        have hptr : o.ptr = .pointer (some ⟨p, 0, none⟩) := by unfold O.ptr; rw [HP.out]
        have HAN : Hid (Calls Try.prog 15 #[.slice s.a s.n s.cap] W1 fun e w' => ∃ a' c', e = .returned (.slice a' s.n c') ∧ RL ai w' a' s.n c' s.d ∧ Same W1 w' ∧ ∀ k, At a' k → W1.heap.size ≤ k) := Lib.hid (anys s.a s.n s.cap s.d W1 (HDD.out W1 (Same.trans HI.out.same HS1.out)) (by omega))
        have d0 : W1.cell? ⟨sb, 0, none⟩ = some (.int .i64 s.op) := block_cell HB1.out rfl
        have d1 : W1.cell? ⟨sb, 1, none⟩ = some (.slice s.a s.n s.cap) := block_cell HB1.out rfl
        have hop : s.op = 1 ∨ s.op = 2 ∨ s.op = 3 ∨ s.op = 4 := by omega
        rcases hop with hop | hop | hop | hop
        · have HC : Hid (∀ w2 a2 c2, Same W1 w2 → RL ai w2 a2 s.n c2 s.d → (∀ k, At a2 k → W1.heap.size ≤ k) → Calls Try.prog 16 #[.pointer (some ⟨p, 0, none⟩), .slice a2 s.n c2] w2 (fun e w' => e = .returned (.tuple #[]) ∧ Mid p o W1 (ksAt first l (k + 1)) (flAt l (k + 1)) w')) := Lib.hid (fun w2 a2 c2 hS hr hfr => by
            rw [← hptr]
            refine (add o _ fo a2 s.n c2 s.d w2 (HOK1.out.still hS) hr (fun j hj hf => by have := hfr j hj; have := HNF.out j hf; omega)).mono ?_
            intro e w' hdid
            have e1 : withL (ksAt first l k) s.d = ksAt first l (k + 1) := by rw [HK1.out]; unfold stepL; rw [if_pos hop]
            rw [e1] at hdid
            exact Mid.of_did HP.out hdid hS (fun F h => (nomatch h)))
          rw [hop]
          rw [hop] at d0
          clear hptr
          go_wp2_with fail
          refine HAN.out.mono ?_
          rintro e w2 ⟨a2, c2, rfl, hr2, hS2, hfr2⟩
          go_wp2_with fail
          refine (HC.out w2 a2 c2 hS2 hr2 hfr2).mono ?_
          rintro e w3 ⟨rfl, hmid⟩
          go_wp2_with fail
          go_meet
          exact hmid
        · have HC : Hid (∀ w2 a2 c2, Same W1 w2 → RL ai w2 a2 s.n c2 s.d → (∀ k, At a2 k → W1.heap.size ≤ k) → Calls Try.prog 17 #[.pointer (some ⟨p, 0, none⟩), .slice a2 s.n c2] w2 (fun e w' => e = .returned (.tuple #[]) ∧ Mid p o W1 (ksAt first l (k + 1)) (flAt l (k + 1)) w')) := Lib.hid (fun w2 a2 c2 hS hr hfr => by
            rw [← hptr]
            refine (remove o _ fo a2 s.n c2 s.d w2 (HOK1.out.still hS) hr (fun j hj hf => by have := hfr j hj; have := HNF.out j hf; omega)).mono ?_
            intro e w' hdid
            have e1 : dels (ksAt first l k) s.d = ksAt first l (k + 1) := by rw [HK1.out, dels_eq _ _ (HKS.out k hk).1]; unfold stepL; rw [if_neg (by omega), if_pos hop]
            rw [e1] at hdid
            exact Mid.of_did HP.out hdid hS (fun F h => (nomatch h)))
          rw [hop]
          rw [hop] at d0
          clear hptr
          go_wp2_with fail
          refine HAN.out.mono ?_
          rintro e w2 ⟨a2, c2, rfl, hr2, hS2, hfr2⟩
          go_wp2_with fail
          refine (HC.out w2 a2 c2 hS2 hr2 hfr2).mono ?_
          rintro e w3 ⟨rfl, hmid⟩
          go_wp2_with fail
          go_meet
          exact hmid
        · have HC : Hid (Calls Try.prog 18 #[.pointer (some ⟨p, 0, none⟩)] W1 (fun e w' => e = .returned (.tuple #[]) ∧ Mid p o W1 (ksAt first l (k + 1)) (flAt l (k + 1)) w')) := Lib.hid (by
            rw [← hptr]
            refine (clearS o _ fo W1 HOK1.out).mono ?_
            intro e w' hdid
            have e1 : [] = ksAt first l (k + 1) := by rw [HK1.out]; unfold stepL; rw [if_neg (by omega), if_neg (by omega), if_pos hop]
            have e2 : flAt l (k + 1) = false := by rw [HF1.out]; unfold stepF; simp [hop]
            rw [e1] at hdid
            exact Mid.of_did HP.out hdid (Only.refl _ _) (fun F hF => ⟨(HI.out.flat F hF).1, fun h => by rw [e2] at h; cases h⟩))
          rw [hop]
          rw [hop] at d0
          clear hptr
          go_wp2_with fail
          refine HC.out.mono ?_
          rintro e w3 ⟨rfl, hmid⟩
          go_wp2_with fail
          go_meet
          exact hmid
        · have HC : Hid (Mid p o W1 (ksAt first l (k + 1)) (flAt l (k + 1)) W1) := Lib.hid (by
            have e1 : ksAt first l (k + 1) = ksAt first l k := by rw [HK1.out]; unfold stepL; rw [if_neg (by omega), if_neg (by omega), if_neg (by omega)]
            have e2 : flAt l (k + 1) = flAt l k := by rw [HF1.out]; unfold stepF; simp [hop]
            rw [e1, e2]
            exact ⟨o, fo, HP.out, HOK1.out, HI.out.flat, Only.refl _ _, fun k hk => .inl hk⟩)
          rw [hop]
          rw [hop] at d0
          clear hptr
          go_wp2_with fail
          go_meet
          exact HC.out
      case rest =>
        obtain ⟨o1, fo1, hp1, hok1, hfl1, hO1x, hfr1⟩ := hcut
        obtain ⟨w3, rfl⟩ : ∃ w3, w3 = wc := ⟨_, rfl⟩
        generalize hks : ksAt first l (k + 1) = ks at *
        generalize hff : flAt l (k + 1) = ff at *
        have HKF : Hid (ksAt first l (k + 1) = ks ∧ flAt l (k + 1) = ff) := Lib.hid ⟨hks, hff⟩
        have HND : Hid (ks.Nodup ∧ ks.length ≤ 20 + 20 * (k + 1)) := Lib.hid (by rw [← hks]; exact HKS.out (k + 1) (by omega))
        clear HK1 HF1 hks hff
        have HOKb : Hid (o1.ok w3 ks fo1) := Lib.hid hok1
        have HP1 := Lib.hid hp1
        have HFL1 := Lib.hid hfl1
        have HRS : Hid (Rest w w3 first l k oa oc L o1) := Lib.hid (HI.out.rest.step (by rw [HL.out]; exact hk) (Only.trans (HS1.out.mono (fun _ _ f => f.elim)) hO1x (fun _ _ h => h)) (fun j hj => (hfr1 j hj).imp id (fun h => by have := HS1.out.size; omega)))
        have HNF : Hid (∀ j, o.foot j → j < sb) := Lib.hid (fun j hj => by have := HI.out.ok.lt j hj; have := HSZ.out; omega)
        have HBC : Hid (w3.heap[sb]? = some (.cells #[.int .i64 s.op, .slice s.a s.n s.cap] 30 (0, 0))) := Lib.hid (hO1x.obj HB1.out (fun h => by have := HNF.out _ h; omega))
        have HNF1 : Hid (∀ j, o1.foot j → j ≠ sb ∧ j < w3.heap.size) := Lib.hid (fun j hj => ⟨fun e => by
          rcases hfr1 j hj with h | h
          · have := HNF.out j h; omega
          · have := HSZ1.out; omega, hok1.lt j hj⟩)
        have hptr : o1.ptr = .pointer (some ⟨p, 0, none⟩) := by unfold O.ptr; rw [HP1.out]
        have HLEN : Hid (∀ wx, Same w3 wx → Calls Try.prog 19 #[.pointer (some ⟨p, 0, none⟩)] wx fun e w' => e = .returned (.int .i64 (ks.length : Int)) ∧ wx = w') := Lib.hid (fun wx hx => by rw [← hptr]; exact lenS o1 ks fo1 wx (HOKb.out.still hx) _ rfl)
        have HSW : Hid (Same w w3) := Lib.hid HRS.out.same
        have HAN : Hid (∀ wx, Same w3 wx → Calls Try.prog 15 #[.slice s.a s.n s.cap] wx fun e w' => ∃ a' c', e = .returned (.slice a' s.n c') ∧ RL ai w' a' s.n c' s.d ∧ Same wx w') := Lib.hid (fun wx hx => (anys s.a s.n s.cap s.d wx (HDD.out wx (Same.trans HSW.out hx)) (by omega)).mono fun e w' ⟨a', c', he, hr, hS, _⟩ => ⟨a', c', he, hr, hS⟩)
        have HALL : Hid (∀ wx a' c', Same w3 wx → RL ai wx a' s.n c' s.d → Calls Try.prog 20 #[.pointer (some ⟨p, 0, none⟩), .slice a' s.n c'] wx (FV wx (.bool (decide (∀ x ∈ s.d, x ∈ ks))))) := Lib.hid (fun wx a' c' hx hr => by rw [← hptr]; exact fv (Only.refl _ _) (allS o1 ks fo1 a' s.n c' s.d wx (HOKb.out.still hx) hr))
        generalize hall : decide (∀ x ∈ s.d, x ∈ ks) = ball at *
        have HBALL := Lib.hid hall
        obtain ⟨nl, hnl⟩ : ∃ nl, nl = ks.length := ⟨_, rfl⟩
        rw [← hnl] at HLEN
        have HNL := Lib.hid hnl
        have hnlb : nl ≤ 1000 := by have := HND.out.2; omega
        have HKC : Hid (∀ wx, Same w3 wx → wx.cell? ⟨sb, 1, none⟩ = some (.slice s.a s.n s.cap)) := Lib.hid (fun wx hx => block_cell (heap_still hx HBC.out) rfl)
        have d1 : w3.cell? ⟨sb, 1, none⟩ = some (.slice s.a s.n s.cap) := HKC.out w3 (Only.refl _ _)
        clear hok1 hp1 hfl1 hO1x hfr1 HI hptr hall hnl HS1 HB1 HSZ1 HNF c0 c1 g1 g2
        go_upto_region 13 with fail
        go_cut [9] (fun v wx => Box w3 nl ball v wx)
        case first =>
          go_region_held3 (fun w' => w'.cell? ⟨sb, 1, none⟩ = some (.slice s.a s.n s.cap)) (exact HKC.out _ (by with_reducible repeat (first | assumption | exact Only.refl _ _ | apply Only.alloc | apply Only.drew | (refine Same.trans ?_ hS5) | (refine Same.trans ?_ hS4) | (refine Only.setCell ?_ _ _ (fun h => absurd h (by first | exact Nat.lt_irrefl _ | (have e4 := hS4.size; simp at e4 ⊢; omega)))))))
            (first
              | ((go_at_call 19; (with_reducible refine (HLEN.out _ (by with_reducible repeat (first | assumption | exact Only.refl _ _ | apply Only.alloc | apply Only.drew | (refine Same.trans ?_ hS5) | (refine Same.trans ?_ hS4)))).mono ?_); rintro e w9 ⟨rfl, rfl⟩))
              | ((go_at_call 15; (with_reducible refine (HAN.out _ (by with_reducible repeat (first | assumption | exact Only.refl _ _ | apply Only.alloc | apply Only.drew | (refine Same.trans ?_ hS5) | (refine Same.trans ?_ hS4)))).mono ?_); rintro e w4 ⟨a4, c4, rfl, hr4, hS4⟩; (try have B4 : w4.heap[w3.heap.size]? = some (.cells #[.int .i64 0, .slice none 0 0, .bool false, .slice none 0 0] 35 (0, 0)) := heap_still hS4 (heap_alloc_new _ _))))
              | ((go_at_call 20; (with_reducible refine (HALL.out _ _ _ (by with_reducible repeat (first | assumption | exact Only.refl _ _ | apply Only.alloc | apply Only.drew | (refine Same.trans ?_ hS5) | (refine Same.trans ?_ hS4))) (hr4.still (by repeat (first | exact Only.refl _ _ | apply Only.alloc | apply Only.drew)))).mono ?_); rintro e w5 ⟨rfl, hS5⟩; (first | (have B5 : w5.heap[w3.heap.size]? = some (.cells #[.int .i64 0, .slice none 0 0, .bool false, .slice none 0 0] 35 (0, 0)) := heap_still hS5 B4; obtain ⟨q0, q1, q2, q3, p0, p1, p2, p3⟩ := box_cells B5) | (have B5 : w5.heap[w4.heap.size]? = some (.cells #[.int .i64 0, .slice none 0 0, .bool false, .slice none 0 0] 35 (0, 0)) := heap_still hS5 (heap_alloc_new _ _); obtain ⟨q0, q1, q2, q3, p0, p1, p2, p3⟩ := box_cells B5) | skip))))
          all_goals go_wp2_with fail
          all_goals go_meet
          all_goals clear HRS HKC HNF1 HAN HALL HLEN HSW HBC
          all_goals unfold Box
          all_goals have hSC : Same w3 w4 := Same.trans (by with_reducible repeat (first | exact Only.refl _ _ | apply Only.alloc | apply Only.drew)) hS4
          all_goals have hSC5 : Same w3 w5 := Same.trans hSC (Same.trans (by with_reducible repeat (first | exact Only.refl _ _ | apply Only.alloc | apply Only.drew)) hS5)
          all_goals have e4 : w3.heap.size ≤ w4.heap.size := hSC.size
          · exact ⟨_, rfl, hSC5.size, heap_alloc_new _ _, hSC5.alloc _⟩
          all_goals
            refine ⟨_, rfl, ?_, box_set B5, ?_⟩
            · first | exact Nat.le_refl _ | exact e4
            · refine Only.setCell (Only.setCell (Only.setCell (Only.setCell hSC5 _ _ ?_) _ _ ?_) _ _ ?_) _ _ ?_ <;> (intro h; exact absurd h (Nat.not_lt.2 (by first | exact Nat.le_refl _ | exact e4)))
        case rest =>
          obtain ⟨g, rfl, hg, hBg, hS4⟩ := hcut
          obtain ⟨w6, rfl⟩ : ∃ w6, w6 = wc := ⟨_, rfl⟩
          have HBG := Lib.hid hBg
          have HS36 := Lib.hid hS4
          have HOK6 : Hid (o1.ok w6 ks fo1) := Lib.hid (HOKb.out.still hS4)
          have HFT : Hid (Calls Try.prog 21 #[.pointer (some ⟨p, 0, none⟩)] w6 (Flat o1 w6 ks fo1)) := Lib.hid (by
            have hptr : o1.ptr = .pointer (some ⟨p, 0, none⟩) := by unfold O.ptr; rw [HP1.out]
            rw [← hptr]; exact flatten o1 ks fo1 w6 HOK6.out (by have := HND.out.2; omega) HND.out.1)
          have HGF : Hid (¬ o1.foot g) := Lib.hid (fun h => by have := (HNF1.out g h).2; omega)
          clear hBg hS4 HLEN HAN HALL
          go_wp2_with fail
          refine HFT.out.mono ?_
          rintro e w7 ⟨o2, F, rfl, hp2, hok2, hpf, hsf, hO7, hfr2⟩
          have hbF := hok2.flat.2.bound
          have HFL2 : Hid (F.length ≤ 1000 ∧ (ff = true → F.Perm ks)) := Lib.hid (by
            cases fo1 with
            | none => exact ⟨by rw [(hpf rfl).length_eq]; have := HND.out.2; omega, fun _ => hpf rfl⟩
            | some F0 => rw [hsf F0 rfl]; exact HFL1.out F0 rfl)
          have HF2 : Hid (Calls Try.prog 21 #[.pointer (some ⟨p, 0, none⟩)] w7 fun e w' => e = .returned (.slice o2.fa o2.fn o2.fc) ∧ w7 = w') := Lib.hid (by
            have hptr : o2.ptr = .pointer (some ⟨p, 0, none⟩) := by unfold O.ptr; rw [hp2, HP1.out]
            rw [← hptr]; exact flatten1 o2 ks F w7 hok2)
          have HOK7 := Lib.hid hok2
          have HP2 : Hid (o2.p = p) := Lib.hid (hp2.trans HP1.out)
          have HO67 := Lib.hid hO7
          have HFR2 : Hid (∀ j, o2.foot j → o1.foot j ∨ w6.heap.size ≤ j) := Lib.hid hfr2
          have HB7 : Hid (w7.heap[g]? = some (.cells #[.int .i64 (nl : Int), .slice none 0 0, .bool ball, .slice none 0 0] 35 (0, 0))) := Lib.hid (hO7.obj HBG.out HGF.out)
          have HGF2 : Hid (¬ o2.foot g) := Lib.hid (fun h => by
            rcases hfr2 g h with h | h
            · exact HGF.out h
            · have := lt_of_heap HBG.out; omega)
          have HSB7 : Hid (w7.heap[sb]? = some (.cells #[.int .i64 s.op, .slice s.a s.n s.cap] 30 (0, 0))) := Lib.hid (hO7.obj (heap_still HS36.out HBC.out) (fun h => (HNF1.out _ h).1 rfl))
          have HSW7 : Hid (Same w w7) := Lib.hid (Only.trans (Same.trans HSW.out HS36.out) hO7 (fun j hj h => by have := HRS.out.old j (.inl h); omega))
          clear hp2 hok2 hpf hsf hO7 hfr2 HFT
          go_wp2_with fail
          refine HF2.out.mono ?_
          rintro e w8 ⟨rfl, rfl⟩
          clear HF2
          generalize hfa : o2.fa = xa at *
          generalize hfn : o2.fn = xn at *
          generalize hfc : o2.fc = xc at *
          have HXF : Hid (o2.fa = xa ∧ o2.fn = xn ∧ o2.fc = xc) := Lib.hid ⟨hfa, hfn, hfc⟩
          clear hfa hfn hfc
          go_wp2_with fail
          have HXO : Hid (RL ai w7 xa xn xc F) := Lib.hid (by have := HOK7.out.flat.2.rl; rw [HXF.out.1, HXF.out.2.1, HXF.out.2.2] at this; exact this)
          have HXG : Hid (∀ q, At xa q → q ≠ g) := Lib.hid (fun q hq e => HGF2.out (.inr (.inr (by rw [HXF.out.1, ← e]; exact hq))))
          have HGL : Hid (g < w7.heap.size) := Lib.hid (lt_of_heap HB7.out)
          go_loopw [56] (fun i wr => ∃ (j : Nat) (ya : Option Addr) (yc : Nat), j ≤ xn ∧ i = .int .i64 (j : Int) ∧ wr.heap[g]? = some (.cells #[.int .i64 (nl : Int), .slice ya j yc, .bool ball, .slice none 0 0] 35 (0, 0)) ∧ OL 3 iv wr ya j yc (F.take j) ∧ Only (fun q => q = g) w7 wr ∧ ∀ q, At ya q → w7.heap.size ≤ q) (fun i _ => xn - (intOf i).toNat)
          case atStart => exact ⟨0, none, 0, Nat.zero_le _, rfl, HB7.out, OL.nil _ _ _, Only.refl _ _, fun q hq => hq.elim⟩
          case round =>
            obtain ⟨j, ya, yc, hj, rfl, hbg, hown, hO, hyf⟩ := hrel
            have hby := hown.bound
            have HBGr := Lib.hid hbg
            have HOWN := Lib.hid hown
            have HOr := Lib.hid hO
            have HYF := Lib.hid hyf
            clear hbg hown hO hyf
            by_cases hjx : j < xn
            · have hjx' : (j : Int) < (xn : Int) := by omega
              obtain ⟨fb, fo, rfl, hfb, hfc⟩ := (HXO.out.keep HOr.out HXG.out).at (by omega)
              obtain ⟨x, hx⟩ := HXO.out.get hjx
              have e0 := hfc j x hx
              have HX := Lib.hid hx
              clear hfc hx
              have e1 : wr.cell? ⟨g, 1, none⟩ = some (.slice ya j yc) := block_cell HBGr.out rfl
              have e2 : wr.frozen? ⟨g, 1, none⟩ = false := block_free HBGr.out
              have hta := asserted x
              have HKE : Hid (∀ wx, Same wr wx → wx.cell? ⟨g, 1, none⟩ = some (.slice ya j yc)) := Lib.hid (fun wx hx => block_cell (heap_still hx HBGr.out) rfl)
              have e1a : (wr.alloc (.cells #[.int .i64 x] 3)).cell? ⟨g, 1, none⟩ = some (.slice ya j yc) := HKE.out _ ((Only.refl _ wr).alloc _)
              have hjj : j ≤ 1000000 := by have h1 := HXO.out.2; have h2 := HFL2.out.1; omega
              go_wp2_with fail
              go_region_law
                ((refine step_append (j + 1) ((F.take j).map iv ++ [iv x]) (by rfl) _ _ _ _ (by rfl) slI (by rfl) (HOWN.out.1.keep (S := fun _ => False) (by with_reducible repeat (first | exact Only.refl _ _ | apply Only.alloc | apply Only.drew)) (fun _ _ => id)) (by rfl) (Src.row (size := 1) (cs := #[.int .i64 x]) (t := 3) (fr := (0, 0)) Try.underlying22 (show ((wr.alloc (.cells #[.int .i64 x] 3)).drew).heap[wr.heap.size]? = _ from heap_alloc_new' wr _ _ rfl) 1 1 rfl (by simp [Value.oneCell'])) rfl rfl (by unfold maxLen; omega) (by omega) ?_; intro ya2 yc2 w9 hG; have hO9 : Only (At ya) wr w9 := Only.trans (S := At ya) (by with_reducible repeat (first | exact Only.refl _ _ | apply Only.alloc | apply Only.drew)) hG.only (fun _ _ h => h); have B9 : w9.heap[g]? = some (.cells #[.int .i64 (nl : Int), .slice ya j yc, .bool ball, .slice none 0 0] 35 (0, 0)) := hO9.obj HBGr.out (fun h => by have := HYF.out g h; have := HGL.out; omega); have e3 : w9.cell? ⟨g, 1, none⟩ = some (.slice ya j yc) := block_cell B9 rfl; have e4 : w9.frozen? ⟨g, 1, none⟩ = false := block_free B9))
              all_goals
                have HG := Lib.hid hG
                have HO9 := Lib.hid hO9
                have HB9 := Lib.hid B9
                clear hG hO9 B9 e3 e4 e1 e2 e1a e0 hta
                obtain ⟨w10, hw10⟩ : ∃ w10, w10 = w9.setCell ⟨g, 1, none⟩ (.slice ya2 (j + 1) yc2) := ⟨_, rfl⟩
                rw [← hw10]
                have HO10 : Hid (Only (fun q => q = g) w9 w10) := Lib.hid (by rw [hw10]; exact (Only.refl _ _).setCell _ _ (fun _ => rfl))
                have HB10 : Hid (w10.heap[g]? = some (.cells #[.int .i64 (nl : Int), .slice ya2 (j + 1) yc2, .bool ball, .slice none 0 0] 35 (0, 0))) := Lib.hid (by rw [hw10]; exact setCell_heap HB9.out 1 _)
                have HFR10 : Hid (∀ q, At ya2 q → w7.heap.size ≤ q) := Lib.hid (fun q hq => by
                  rcases HG.out.fresh q hq with h | h
                  · exact HYF.out q h
                  · have h1 : wr.heap.size + 1 ≤ q := by simpa using h
                    have := HOr.out.size; omega)
                have HOW : Hid (OL 3 iv w10 ya2 (j + 1) yc2 (F.take (j + 1))) := Lib.hid ⟨by
                  have := HG.out.own.keep HO10.out (fun q hq e => by have := HFR10.out q hq; have := HGL.out; omega)
                  rw [take_snoc F j x HX.out, List.map_append]; exact this, by rw [List.length_take, HXO.out.2]; omega⟩
                have HO7r : Hid (Only (fun q => q = g) w7 w10) := Lib.hid (Only.trans (Only.trans HOr.out HO9.out (fun q hq h => by have := HYF.out q h; omega)) HO10.out (fun _ _ h => h))
                clear hw10
                go_wp2_with fail
                go_roundw
                case rel => exact ⟨j + 1, ya2, yc2, by omega, by go_num, HB10.out, HOW.out, HO7r.out, HFR10.out⟩
                case measure => simp [intOf]; omega
            · obtain rfl : j = xn := by omega
              rw [List.take_of_length_le (by rw [HXO.out.2]; exact Nat.le_refl _)] at HOWN
              have hsbg : sb ≠ g := by have := lt_of_heap HBC.out; omega
              have HSBr : Hid (wr.heap[sb]? = some (.cells #[.int .i64 s.op, .slice s.a s.n s.cap] 30 (0, 0))) := Lib.hid (HOr.out.obj HSB7.out hsbg)
              have hgw : w.heap.size ≤ g := by have := HSW.out.size; omega
              have HSWr : Hid (Same w wr) := Lib.hid (new_only HSW7.out HOr.out (fun q e => by omega))
              have HOKr : Hid (o2.ok wr ks (some F)) := Lib.hid (HOK7.out.keep HOr.out (fun q hq e => HGF2.out (by rw [← e]; exact hq)))
              have hptr2 : o2.ptr = .pointer (some ⟨p, 0, none⟩) := by unfold O.ptr; rw [HP2.out]
              have HEX : Hid (∀ (x : Int) (wa wb : World), Only (fun q => q = g) wr wa → Same wa wb → Calls Try.prog 22 #[.pointer (some ⟨p, 0, none⟩), ai x] wb (FV wb (.bool (decide (x ∈ ks))))) := Lib.hid (fun x wa wb ha hb => by rw [← hptr2]; exact existsS o2 ks (some F) wb ((HOKr.out.keep ha (fun q hq e => HGF2.out (by rw [← e]; exact hq))).still hb) x)
              have t1 : wr.cell? ⟨sb, 1, none⟩ = some (.slice s.a s.n s.cap) := block_cell HSBr.out rfl
              clear hptr2
              obtain ⟨w11, rfl⟩ : ∃ w11, w11 = wr := ⟨_, rfl⟩
              go_wp2_with fail
              clear t1
              go_loopw [71] (fun i wr => ∃ (q : Nat) (za : Option Addr) (zc : Nat), q ≤ s.n ∧ i = .int .i64 (q : Int) ∧ wr.heap[g]? = some (.cells #[.int .i64 (nl : Int), .slice ya j yc, .bool ball, .slice za q zc] 35 (0, 0)) ∧ OL 4 bv wr za q zc ((s.d.take q).map fun x => decide (x ∈ ks)) ∧ Only (fun q => q = g) w11 wr ∧ ∀ q, At za q → w11.heap.size ≤ q) (fun i _ => s.n - (intOf i).toNat)
              case atStart => exact ⟨0, none, 0, Nat.zero_le _, rfl, HBGr.out, OL.nil _ _ _, Only.refl _ _, fun q hq => hq.elim⟩
              case round =>
                obtain ⟨q, za, zc, hq, rfl, hbg, hown, hO, hzf⟩ := hrel
                have hbz := hown.bound
                have HBGz := Lib.hid hbg
                have HOWZ := Lib.hid hown
                have HOz := Lib.hid hO
                have HZF := Lib.hid hzf
                have HGL11 : Hid (g < w11.heap.size) := Lib.hid (lt_of_heap HBGr.out)
                clear hbg hown hO hzf
                by_cases hqn : q < s.n
                · have hqn' : (q : Int) < (s.n : Int) := by omega
                  have HDR : Hid (RL iv wr s.a s.n s.cap s.d) := Lib.hid (HDD.out wr (new_only HSWr.out HOz.out (fun q e => by omega)))
                  obtain ⟨db, do', hda, hdb, hdc⟩ := HDR.out.at (by omega)
                  obtain ⟨x, hx⟩ := HDR.out.get hqn
                  have e0 := hdc q x hx
                  have HX := Lib.hid hx
                  clear hdc hx
                  have HEXx : Hid (∀ wb, Same wr wb → Calls Try.prog 22 #[.pointer (some ⟨p, 0, none⟩), ai x] wb (FV wb (.bool (decide (x ∈ ks))))) := Lib.hid (fun wb hb => HEX.out x wr wb HOz.out hb)
                  generalize hbb : decide (x ∈ ks) = bb at *
                  have HBB := Lib.hid hbb
                  clear hbb
                  have HKE : Hid (∀ wx, Same wr wx → wx.heap[g]? = some (.cells #[.int .i64 (nl : Int), .slice ya j yc, .bool ball, .slice za q zc] 35 (0, 0))) := Lib.hid (fun wx hx => heap_still hx HBGz.out)
                  have e1 : wr.cell? ⟨g, 3, none⟩ = some (.slice za q zc) := block_cell HBGz.out rfl
                  rw [hda]
                  go_wp2_with fail
                  go_region_law (first
                    | (go_simp; go_at_call 22; (with_reducible refine (HEXx.out _ (by with_reducible repeat (first | assumption | exact Only.refl _ _ | apply Only.alloc | apply Only.drew))).mono ?_); rintro e w12 ⟨rfl, hS12⟩; have hSr12 : Same wr w12 := Same.trans (by with_reducible repeat (first | assumption | exact Only.refl _ _ | apply Only.alloc | apply Only.drew)) hS12; have e3 : w12.cell? ⟨g, 3, none⟩ = some (.slice za q zc) := block_cell (HKE.out _ hSr12) rfl; have e3a : (w12.alloc (.cells #[.bool bb] 4)).cell? ⟨g, 3, none⟩ = some (.slice za q zc) := block_cell (HKE.out _ (hSr12.alloc _)) rfl)
                    | (refine step_append (q + 1) (((s.d.take q).map fun x => decide (x ∈ ks)).map bv ++ [bv bb]) (by rfl) _ _ _ _ (by rfl) slB (by rfl) (HOWZ.out.1.keep (S := fun _ => False) (by with_reducible repeat (first | assumption | exact Only.refl _ _ | apply Only.alloc | apply Only.drew)) (fun _ _ => id)) (by rfl) (Src.row (size := 1) (cs := #[.bool bb]) (t := 4) (fr := (0, 0)) Try.underlying33 (heap_alloc_new' w12 _ _ rfl) 1 1 rfl (by simp [Value.oneCell'])) rfl rfl (by unfold maxLen; omega) (by omega) ?_; intro za2 zc2 w13 hG; have hO13 : Only (At za) wr w13 := Only.trans (S := At za) (Only.mono (S := fun _ => False) (by with_reducible repeat (first | assumption | exact Only.refl _ _ | apply Only.alloc | apply Only.drew)) (fun _ _ f => f.elim)) hG.only (fun _ _ h => h); have B13 : w13.heap[g]? = some (.cells #[.int .i64 (nl : Int), .slice ya j yc, .bool ball, .slice za q zc] 35 (0, 0)) := hO13.obj HBGz.out (fun h => by have := HZF.out g h; have := HGL11.out; omega); have e5 : w13.cell? ⟨g, 3, none⟩ = some (.slice za q zc) := block_cell B13 rfl; have e6 : w13.frozen? ⟨g, 3, none⟩ = false := block_free B13))
                  all_goals
                    have HG := Lib.hid hG
                    have HO13 := Lib.hid hO13
                    have HB13 := Lib.hid B13
                    have HSZ12 : Hid (wr.heap.size ≤ w12.heap.size) := Lib.hid hSr12.size
                    clear hG hO13 B13 e3 e3a e5 e6 e1 e0 hS12 hSr12
                    obtain ⟨w14, hw14⟩ : ∃ w14, w14 = w13.setCell ⟨g, 3, none⟩ (.slice za2 (q + 1) zc2) := ⟨_, rfl⟩
                    rw [← hw14]
                    have HO14 : Hid (Only (fun q => q = g) w13 w14) := Lib.hid (by rw [hw14]; exact (Only.refl _ _).setCell _ _ (fun _ => rfl))
                    have HB14 : Hid (w14.heap[g]? = some (.cells #[.int .i64 (nl : Int), .slice ya j yc, .bool ball, .slice za2 (q + 1) zc2] 35 (0, 0))) := Lib.hid (by rw [hw14]; exact setCell_heap HB13.out 3 _)
                    have HFR14 : Hid (∀ q, At za2 q → w11.heap.size ≤ q) := Lib.hid (fun q hq => by
                      rcases HG.out.fresh q hq with h | h
                      · exact HZF.out q h
                      · have h1 : w12.heap.size + 1 ≤ q := by simpa using h
                        have := HOz.out.size; have := HSZ12.out; omega)
                    have HOW : Hid (OL 4 bv w14 za2 (q + 1) zc2 ((s.d.take (q + 1)).map fun x => decide (x ∈ ks))) := Lib.hid ⟨by
                      have := HG.out.own.keep HO14.out (fun q hq e => by have := HFR14.out q hq; have := HGL11.out; omega)
                      rw [take_snoc s.d q x HX.out, List.map_append, List.map_append, List.map_cons, List.map_nil, List.map_cons, List.map_nil, HBB.out]; exact this, by rw [List.length_map, List.length_take, HDR.out.2]; omega⟩
                    have HO11r : Hid (Only (fun q => q = g) w11 w14) := Lib.hid (Only.trans (Only.trans HOz.out HO13.out (fun q hq h => by have := HZF.out q h; omega)) HO14.out (fun _ _ h => h))
                    clear hw14
                    go_wp2_with fail
                    go_roundw
                    case rel => exact ⟨q + 1, za2, zc2, by omega, by go_num, HB14.out, HOW.out, HO11r.out, HFR14.out⟩
                    case measure => simp [intOf]; omega
                · obtain rfl : q = s.n := by omega
                  have HDL : Hid (s.d.take s.n = s.d) := Lib.hid (List.take_of_length_le (by rw [(HDD.out w (Only.refl _ _)).2]; exact Nat.le_refl _))
                  rw [HDL.out] at HOWZ
                  have HO3r : Hid (Only o1.foot w3 wr) := Lib.hid (by
                    have h1 : Only o1.foot w3 w7 := Only.trans (HS36.out.mono (fun _ _ f => f.elim)) HO67.out (fun _ _ h => h)
                    have h2 : Only o1.foot w3 w11 := Only.trans h1 HOr.out (fun q hq e => by omega)
                    exact Only.trans h2 HOz.out (fun q hq e => by omega))
                  have HF3r : Hid (∀ q, o2.foot q → o1.foot q ∨ w3.heap.size ≤ q) := Lib.hid (fun q hq => (HFR2.out q hq).imp id (fun h => by have := HS36.out.size; omega))
                  have HRSr : Hid (Rest w wr first l k oa oc L o2) := Lib.hid (HRS.out.step (by rw [HL.out]; exact hk) HO3r.out HF3r.out)
                  have HOKe : Hid (o2.ok wr ks (some F)) := Lib.hid (HOKr.out.keep HOz.out (fun q hq e => HGF2.out (by rw [← e]; exact hq)))
                  have HSOK : Hid (Sok wr ⟨nl, ya, j, yc, ball, za, s.n, zc⟩ ks s.d ff) := Lib.hid ⟨HNL.out, HBALL.out.symm, HOWZ.out, F, HOWN.out.keep HOz.out (fun q hq e => by have := HYF.out q hq; have := HGL.out; omega), HFL2.out.2⟩
                  have HSFT : Hid (∀ q, Sd.foot ⟨nl, ya, j, yc, ball, za, s.n, zc⟩ q → ¬ o2.foot q ∧ ¬ At oa q) := Lib.hid (fun q hq => by
                    have h7 : w7.heap.size ≤ q := by
                      rcases hq with hq | hq
                      · exact HYF.out q hq
                      · have := HZF.out q hq; have := HOr.out.size; omega
                    exact ⟨fun h => by have := HOK7.out.lt q h; omega, fun h => by have := HRS.out.out.lt q h; have := HO67.out.size; have := HS36.out.size; omega⟩)
                  have z0 : wr.cell? ⟨g, 0, none⟩ = some (.int .i64 (nl : Int)) := block_cell HBGz.out rfl
                  have z1 : wr.cell? ⟨g, 1, none⟩ = some (.slice ya j yc) := block_cell HBGz.out rfl
                  have z2 : wr.cell? ⟨g, 2, none⟩ = some (.bool ball) := block_cell HBGz.out rfl
                  have z3 : wr.cell? ⟨g, 3, none⟩ = some (.slice za s.n zc) := block_cell HBGz.out rfl
                  go_wp2_with (at_builtin; refine wpList_append (k + 1) (L.flatMap sdc ++ sdc ⟨nl, ya, j, yc, ball, za, s.n, zc⟩) rfl _ _ _ _ rfl slSaid rfl (HRSr.out.out.keep (S := fun _ => False) (by repeat (first | exact Only.refl _ _ | apply Only.alloc)) (fun _ _ => id)) rfl (Src.row (size := 4) (cs := #[.int .i64 (nl : Int), .slice ya j yc, .bool ball, .slice za s.n zc]) (t := 35) (fr := (0, 0)) Try.underlying26 (heap_alloc_new' _ _ _ (by simp)) 1 1 rfl (by simp [Value.oneCell'])) rfl rfl (by unfold maxLen; omega) (by omega) ?_)
                  intro oa2 oc2 w20 hG
                  have hO20 : Only (At oa) wr w20 := Only.trans (S := At oa) ((Only.refl (At oa) wr).alloc _) hG.only (fun _ _ h => h)
                  have HINV : Hid (Inv w w20 p first l (k + 1) oa2 oc2 (L ++ [⟨nl, ya, j, yc, ball, za, s.n, zc⟩]) o2 (some F)) := Lib.hid (by
                    have hp := HRSr.out.push (by rw [HL.out]; exact hk) HSK.out (by rw [HKF.out.1, HKF.out.2]; exact HSOK.out) HSFT.out HOKe.out.lt hG.own hO20 (fun q hq => (hG.fresh q hq).imp id (fun h => by simp at h; omega))
                    refine ⟨HP2.out, ?_, ?_, hp.out, hp.len, hp.said, hp.apart, hp.old, hp.apart2, hp.same⟩
                    · rw [HKF.out.1]; exact HOKe.out.keep hO20 (fun q hq h => HRSr.out.apart2 q h hq)
                    · rw [HKF.out.1, HKF.out.2]
                      intro F0 hF0
                      cases hF0
                      exact HFL2.out)
                  clear hG hO20 z0 z1 z2 z3
                  go_wp2_with fail
                  go_roundw
                  case rel => exact ⟨k + 1, oa2, oc2, _, o2, some F, by omega, by go_num, rfl, HINV.out⟩
                  case measure => simp [intOf]; omega
    · obtain rfl : k = n := by omega
      go_wp2_with fail
      go_ret
      exact ⟨oa, oc, L, rfl, HI.out.out.rd, HI.out.len, HI.out.said, HI.out.same⟩
end Go.Proofs.Ytpccodjmjgfloaa.st
