/-
  Degree and Adj of the graph; GRDegree, GRAdj of the thin package.
-/
import Derived.Test.YtpccodjmjgfloaaDoorGrRun
import Derived.Test.YtpccodjmjgfloaaDoorGrHandP
import Derived.WalkSpells
namespace Go.Proofs.YtpccodjmjgfloaaDoor.gr
open Go.RowKit Go.Proofs.YtpccodjmjgfloaaDoor.base Go.Proofs.YtpccodjmjgfloaaDoor.heap Go.Proofs.YtpccodjmjgfloaaDoor.rows Go.Proofs.YtpccodjmjgfloaaDoor.mapi
set_option linter.unusedVariables false

/-- the error's number of a vertex that is asked for -/
def vErr (S : Sh) (v : Int) : Nat := if hasV S v = true then 0 else 1
theorem hasV_sh (A : List Nb) (v : Int) : hasV (sh A) v = (A.find? (fun a => v == a.k)).isSome := by unfold hasV; rw [sh_find, Option.isSome_map]
theorem nbrs_sh {A : List Nb} {v : Int} {a : Nb} (h : A.find? (fun a => v == a.k) = some a) : nbrs (sh A) v = a.ks := by unfold nbrs; rw [sh_find, h]; rfl
theorem nbrs_no {A : List Nb} {v : Int} (h : A.find? (fun a => v == a.k) = none) : nbrs (sh A) v = [] := by unfold nbrs; rw [sh_find, h]; rfl

set_option maxHeartbeats 1600000 in
theorem degree (g : G) (v : Int) (a0 a1 a2 : Addr) (w : World) (hok : g.ok w) (hE : Errs w a0 a1 a2) :
    Calls Tryd.prog 15 #[.pointer (some ⟨g.p, 0, none⟩), ai v] w (FV w (.tuple #[.int .i64 ((nbrs (sh g.A) v).length : Int), errV a0 a1 a2 (vErr (sh g.A) v)])) := by
  obtain ⟨p, mb, A, ne⟩ := g
  have HB : Hid (w.heap[p]? = some (.cells #[.map (some mb), .int .i64 (A.length : Int), .int .i64 (ne : Int)] 59 (0, 0))) := Lib.hid hok.obj
  have HM : Hid (MapIs 3 w mb (pairs A)) := Lib.hid hok.map
  have c0 : w.cell? ⟨p, 0, none⟩ = some (.map (some mb)) := block_cell HB.out rfl
  simp only
  cases hf : A.find? (fun a => v == a.k) with
  | some a =>
    have hmem := find_mem hf
    have HI : Hid (MapIs 3 w a.b (ul a.ks)) := Lib.hid (hok.adj a hmem.1)
    have HV : Hid ((if true = true then Value.tuple #[(mapi.get v (pairs A)).getD (.map none), .bool (mapi.get v (pairs A)).isSome] else (mapi.get v (pairs A)).getD (.map none)) = .tuple #[.map (some a.b), .bool true]) := Lib.hid (by rw [if_pos rfl, pairs_get, hf]; rfl)
    have HR : Hid (nbrs (sh A) v = a.ks ∧ vErr (sh A) v = 0) := Lib.hid ⟨nbrs_sh hf, by unfold vErr; rw [hasV_sh, hf]; rfl⟩
    rw [HR.out.1, HR.out.2]
    clear hf hmem hok hE
    obtain ⟨n, hn⟩ : ∃ n, a.ks.length = n := ⟨_, rfl⟩
    rw [hn]
    have HN := Lib.hid hn
    clear hn
    go_enter Tryd.func15, Tryd.ntmps15
    go_wp2_with (first | (at_lookup; refine wpList_lookupI rfl _ _ TO true rfl ikey Tryd.underlying57 (zeroI _) rfl v rfl HM.out _ HV.out ?_) | (at_len; refine wpList_lenI rfl _ TI rfl Tryd.underlying62 rfl HI.out n (by rw [ul_len]; exact HN.out) ?_))
    go_ret2
    exact ⟨rfl, Only.refl _ _⟩
  | none =>
    have HV : Hid ((if true = true then Value.tuple #[(mapi.get v (pairs A)).getD (.map none), .bool (mapi.get v (pairs A)).isSome] else (mapi.get v (pairs A)).getD (.map none)) = .tuple #[.map none, .bool false]) := Lib.hid (by rw [if_pos rfl, pairs_get, hf]; rfl)
    have HR : Hid (nbrs (sh A) v = [] ∧ vErr (sh A) v = 1) := Lib.hid ⟨nbrs_no hf, by unfold vErr; rw [hasV_sh, hf]; rfl⟩
    rw [HR.out.1, HR.out.2]
    have e0 := hE.g0
    clear hf hok hE
    go_enter Tryd.func15, Tryd.ntmps15
    go_wp2_with (at_lookup; refine wpList_lookupI rfl _ _ TO true rfl ikey Tryd.underlying57 (zeroI _) rfl v rfl HM.out _ HV.out ?_)
    go_quiet (fail)
    go_wp2_with fail
    go_ret2
    exact ⟨rfl, by repeat (first | exact Only.refl _ _ | apply Only.drewN | apply Only.drew)⟩

theorem slA : SliceOf Tryd.prog 52 20 1 16 := SliceOf.mk (z := .nilIface) Tryd.underlying52 (by kernel_rfl) rfl
theorem mk_anys (c : Nat) (hc : c ≤ 1000000) (w : World) : (Instr.makeSlice 52 (.int .i64 (c : Int)) (.int .i64 (c : Int))).run Tryd.prog w =
    .ok (.slice (some ⟨w.heap.size, 0, none⟩) c c) (w.alloc (.cells (madeCells (Value.nilIface).cells c) 20)) := by
  obtain ⟨ht, i, z, hi, hz, hs, hb, hzs⟩ := slA
  have hz' : i.zero = some .nilIface := by
    have h : (Tryd.prog.info? 20).map (·.zero) = some (some .nilIface) := by kernel_rfl
    rw [hi] at h
    simpa using h
  have h := run_make (P := Tryd.prog) w 52 20 i .nilIface ht hi hz' .i64 .i64 (c : Int) (c : Int) (by omega) (Int.le_refl _) (by rw [hb]; omega) (by omega)
  rw [hs, Nat.mul_one] at h
  exact h
theorem neq_nil (w : World) (a : Addr) : (binOp .neq 47 (.iface ET (.pointer (some a))) .nilIface).run Tryd.prog w = .ok (.bool true) w := by
  have h : ∀ d : Nat, (Op.equalIn (d + 1) 47 (.iface ET (.pointer (some a))) .nilIface).run Tryd.prog w = .ok false w := fun d => by simp [Op.equalIn, run_underlying Tryd.underlying47]
  simp only [binOp]
  simp [Op.equal, Op.maxDepth, h 9999]
theorem neq_nil_nil (w : World) : (binOp .neq 47 .nilIface .nilIface).run Tryd.prog w = .ok (.bool false) w := by
  have h : ∀ d : Nat, (Op.equalIn (d + 1) 47 .nilIface .nilIface).run Tryd.prog w = .ok true w := fun d => by simp [Op.equalIn, run_underlying Tryd.underlying47]
  simp only [binOp]
  simp [Op.equal, Op.maxDepth, h 9999]

def Adjs (S : Sh) (v : Int) (a0 a1 a2 : Addr) (w : World) (e : Ending) (w' : World) : Prop :=
  ∃ a c F, e = .returned (.tuple #[.slice a (nbrs S v).length c, errV a0 a1 a2 (vErr S v)]) ∧ RL ai w' a (nbrs S v).length c F ∧ F.Perm (nbrs S v) ∧ Same w w'

theorem perm_step {F left ks : List Int} {x : Int} (hx : x ∈ left) (hn : left.Nodup) (h : (F ++ left).Perm ks) : ((F ++ [x]) ++ left.filter (fun k => !(k == x))).Perm ks := by
  refine List.Perm.trans ?_ h
  rw [List.append_assoc]
  refine List.Perm.append_left F ?_
  have := List.perm_cons_erase hx
  rw [hn.erase_eq_filter] at this
  exact this.symm
theorem mid_get (F : List Int) (N : Nat) (h : F.length < N) : ((F.map ai) ++ List.replicate (N - F.length) Value.nilIface)[F.length]? = some Value.nilIface := by
  rw [List.getElem?_append_right (by simp), List.length_map, Nat.sub_self, List.getElem?_replicate]
  exact if_pos (by omega)
theorem set_mid (F : List Int) (x : Int) (m : Nat) : ((F.map ai) ++ List.replicate (m + 1) Value.nilIface).set F.length (ai x) = ((F ++ [x]).map ai) ++ List.replicate m Value.nilIface := by
  rw [List.set_append_right _ _ (by simp)]
  simp [List.replicate_succ]

set_option maxRecDepth 100000 in
set_option maxHeartbeats 3200000 in
theorem adj (g : G) (v : Int) (a0 a1 a2 : Addr) (w : World) (hok : g.ok w) (hE : Errs w a0 a1 a2) (hn : (nbrs (sh g.A) v).length ≤ 100000) (hnd : (nbrs (sh g.A) v).Nodup) :
    Calls Tryd.prog 18 #[.pointer (some ⟨g.p, 0, none⟩), ai v] w (Adjs (sh g.A) v a0 a1 a2 w) := by
  have HD := Lib.hid (degree g v a0 a1 a2 w hok hE)
  have HOK := Lib.hid hok
  have HE := Lib.hid hE
  have HND := Lib.hid hnd
  clear hok hE hnd
  obtain ⟨p, mb, A, ne⟩ := g
  simp only at *
  cases hf : A.find? (fun a => v == a.k) with
  | none =>
    have e1 : nbrs (sh A) v = [] ∧ vErr (sh A) v = 1 := ⟨nbrs_no hf, by unfold vErr; rw [hasV_sh, hf]; rfl⟩
    rw [e1.1, e1.2] at HD
    have HR := Lib.hid e1
    have hq := fun wx => neq_nil wx a0
    clear e1 hf
    simp only [errV] at HD
    go_enter Tryd.func18, Tryd.ntmps18
    go_wp2_with fail
    refine HD.out.mono ?_
    rintro e w1 ⟨rfl, hS⟩
    have g0 := (HE.out.still hS).g0
    have HS := Lib.hid hS
    clear hS HD
    go_wp2_with fail
    go_quiet (fail)
    go_wp2_with fail
    go_ret2
    refine ⟨none, 0, [], by rw [HR.out.1, HR.out.2]; rfl, by rw [HR.out.1]; exact RL.nil _ _, by rw [HR.out.1], ?_⟩
    repeat (first | exact HS.out | apply Only.drewN | apply Only.drew)
  | some a =>
    have e1 : nbrs (sh A) v = a.ks ∧ vErr (sh A) v = 0 := ⟨nbrs_sh hf, by unfold vErr; rw [hasV_sh, hf]; rfl⟩
    rw [e1.1, e1.2] at HD
    rw [e1.1] at hn HND
    have HR := Lib.hid e1
    have hq := neq_nil_nil
    have hmem := find_mem hf
    have HV : Hid ((if false = true then Value.tuple #[(mapi.get v (pairs A)).getD (.map none), .bool (mapi.get v (pairs A)).isSome] else (mapi.get v (pairs A)).getD (.map none)) = .map (some a.b)) := Lib.hid (by rw [pairs_get, hf]; rfl)
    have HMO : Hid (∀ wx, Same w wx → MapIs 3 wx mb (pairs A)) := Lib.hid (fun wx hx => (HOK.out.still hx).map)
    have HMI : Hid (∀ wx, Same w wx → MapIs 3 wx a.b (ul a.ks)) := Lib.hid (fun wx hx => (HOK.out.still hx).adj a hmem.1)
    have HKC : Hid (∀ wx, Same w wx → wx.cell? ⟨p, 0, none⟩ = some (.map (some mb))) := Lib.hid (fun wx hx => block_cell (HOK.out.still hx).obj rfl)
    clear e1 hf hmem
    simp only [errV] at HD
    obtain ⟨N, hN⟩ : ∃ N, a.ks.length = N := ⟨_, rfl⟩
    rw [hN] at HD hn
    have HN := Lib.hid hN
    clear hN
    go_enter Tryd.func18, Tryd.ntmps18
    go_wp2_with fail
    refine HD.out.mono ?_
    rintro e w1 ⟨rfl, hS1⟩
    have HS1 := Lib.hid hS1
    obtain ⟨w2, hw2⟩ : ∃ w2, w2 = w1.alloc (.cells (madeCells (Value.nilIface).cells N) 20) := ⟨_, rfl⟩
    obtain ⟨r0, hr0⟩ : ∃ r0, r0 = w1.heap.size := ⟨_, rfl⟩
    have hmk : (Instr.makeSlice 52 (.int .i64 (N : Int)) (.int .i64 (N : Int))).run Tryd.prog w1 = .ok (.slice (some ⟨r0, 0, none⟩) N N) w2 := by rw [hw2, hr0]; exact mk_anys N (by omega) w1
    have HS12 : Hid (Same w1 w2) := Lib.hid (by rw [hw2]; exact (Only.refl _ _).alloc _)
    have HROW : Hid (Own 20 1 w2 (some ⟨r0, 0, none⟩) N N (List.replicate N Value.nilIface)) := Lib.hid (by
      have h1 := Own.made 20 1 w1 (madeCells (Value.nilIface).cells N) N N (Nat.le_refl _) (by unfold maxLen; omega) (by simp [madeCells]) (by
        intro u hu
        have h2 := made_one Value.nilIface rfl N
        rw [Nat.mul_one] at h2
        rw [h2] at hu
        have := List.eq_of_mem_replicate (List.mem_of_mem_take hu)
        rw [this]; rfl)
      have h2 := made_one Value.nilIface rfl N
      rw [Nat.mul_one] at h2
      rw [h2, ← hw2, ← hr0] at h1
      rwa [List.take_of_length_le (by simp)] at h1)
    have HR0 : Hid (w.heap.size ≤ r0 ∧ r0 < w2.heap.size) := Lib.hid ⟨by have := hS1.size; omega, by rw [hw2, hr0]; simp⟩
    have HS2 : Hid (Same w w2) := Lib.hid (hS1.trans HS12.out)
    have k0 := HKC.out w2 HS2.out
    clear hw2 hr0 hS1 HD
    go_wp2_with (first | (at_lookup; refine wpList_lookupI rfl _ _ TO false rfl ikey Tryd.underlying57 (zeroI _) rfl v rfl (HMO.out _ HS2.out) _ HV.out ?_) | (at_range; refine wpList_rangeI rfl _ TI rfl Tryd.underlying62 rfl (HMI.out _ HS2.out) ?_; intro w3 hr3 hg3 hs3))
    obtain ⟨r, hr⟩ : ∃ r, r = w2.heap.size := ⟨_, rfl⟩
    rw [← hr] at hr3 ⊢
    rw [ul_keys] at hr3
    have HR3 := Lib.hid hr3
    have HS23 : Hid (Same w2 w3) := Lib.hid ((Only.refl _ w2).grown hg3 (fun _ _ e => by cases e))
    have hrr : r0 < r := by have := HR0.out.2; omega
    have hwr0 : w.heap.size ≤ r0 := HR0.out.1
    have hab : a.b < w.heap.size := (HMI.out w (Only.refl _ _)).lt
    clear hr3 hg3 hs3 k0 hr hmk
    go_frame
    go_loopw [9, 10] (fun i _ wr => ∃ (F left : List Int), i = .int .i64 (F.length : Int) ∧ Own 20 1 wr (some ⟨r0, 0, none⟩) N N (F.map ai ++ List.replicate (N - F.length) Value.nilIface) ∧ RangeI 3 wr a.b r (ul a.ks) left ∧ (F ++ left).Perm a.ks ∧ left.Nodup ∧ Same w wr) (fun _ _ wr => wr.rangeLeft a.b r)
    case atStart => exact ⟨[], a.ks, rfl, HROW.out.keep HS23.out (fun _ _ => id), HR3.out, List.Perm.refl _, HND.out, HS2.out.trans HS23.out⟩
    case round =>
      obtain ⟨F, left, rfl, hown, hR, hP, hL, hO⟩ := hrel
      have HOWN := Lib.hid hown
      have HRr := Lib.hid hR
      have HP := Lib.hid hP
      have HL := Lib.hid hL
      have HO := Lib.hid hO
      have hlp : F.length + left.length = N := by have := hP.length_eq; rw [List.length_append, HN.out] at this; exact this
      have HLE := Lib.hid hR.left_eq
      clear hown hR hP hL hO
      go_wp2_with (at_next; refine wpList_nextI rfl _ rfl rfl HRr.out ?_ ?_)
      · intro hleft
        subst hleft
        have HP' : Hid (F.Perm a.ks) := Lib.hid (by have := HP.out; rwa [List.append_nil] at this)
        have hFN : F.length = N := by simpa using hlp
        have HFIN : Hid (RL ai wr (some ⟨r0, 0, none⟩) N N F) := Lib.hid (by
          have := HOWN.out.rd
          rw [hFN, Nat.sub_self, List.replicate_zero, List.append_nil] at this
          exact ⟨this, hFN⟩)
        clear hlp hFN
        go_wp2_with fail
        go_ret2
        exact ⟨some ⟨r0, 0, none⟩, N, F, by rw [HR.out.1, HR.out.2, HN.out]; rfl, by rw [HR.out.1, HN.out]; exact HFIN.out, by rw [HR.out.1]; exact HP'.out, HO.out⟩
      · intro x u w4 hx hpx hR4 hg4 hs4 hen
        have hlx : 0 < left.length := List.length_pos_of_mem hx
        have HX := Lib.hid hx
        have HR4 := Lib.hid hR4
        have HO4 : Hid (Only (fun k => k = r) wr w4) := Lib.hid ((Only.refl _ wr).grown hg4 (fun _ _ e => by cases e; rfl))
        have HOW4 : Hid (Own 20 1 w4 (some ⟨r0, 0, none⟩) N N (F.map ai ++ List.replicate (N - F.length) Value.nilIface)) := Lib.hid (HOWN.out.keep HO4.out (fun k hk e => by have hk' : r0 = k := hk; omega))
        have hjN : (F.length : Int) < (N : Int) := by omega
        have hj0 : (0 : Int) ≤ (F.length : Int) := by omega
        obtain ⟨rb, hrb, hrbl, hcells⟩ := HOW4.out.at (by omega)
        have hrb' : r0 = rb := by simpa using hrb
        have c1 : w4.cell? ⟨r0, F.length, none⟩ = some .nilIface := by
          have := hcells F.length Value.nilIface (mid_get F N (by omega))
          rw [hrb']; simpa using this
        have f1 : w4.frozen? ⟨r0, F.length, none⟩ = false := HOW4.out.frozen rfl _
        clear hx hpx hR4 hg4 hs4 hrb hrbl hcells hrb'
        go_wp2_with fail
        obtain ⟨w5, hw5⟩ : ∃ w5, w5 = w4.setCell ⟨r0, F.length, none⟩ (ai x) := ⟨_, rfl⟩
        rw [← hw5]
        have HO5 : Hid (Only (fun k => k = r0) w4 w5) := Lib.hid (by rw [hw5]; exact (Only.refl _ _).setCell _ _ (fun _ => rfl))
        have HOW5 : Hid (Own 20 1 w5 (some ⟨r0, 0, none⟩) N N ((F ++ [x]).map ai ++ List.replicate (N - (F ++ [x]).length) Value.nilIface)) := Lib.hid (by
          have := HOW4.out.set rfl F.length (ai x) rfl (by omega)
          rw [show N - F.length = (N - F.length - 1) + 1 by omega, set_mid, ← hw5] at this
          rw [show N - (F ++ [x]).length = N - F.length - 1 by rw [List.length_append]; simp; omega]
          exact this)
        have HR5 : Hid (RangeI 3 w5 a.b r (ul a.ks) (left.filter (fun k => !(k == x)))) := Lib.hid (by
          have h1 := HR4.out.map.lt
          have h2 := HR4.out.lt
          exact HR4.out.of_heap (HO5.out.block _ h1 (fun e => by have e' : a.b = r0 := e; omega)) (HO5.out.block _ h2 (fun e => by have e' : r = r0 := e; omega)))
        have HSW : Hid (Same w w5) := Lib.hid (Only.trans (Only.trans HO.out HO4.out (fun k hk e => by omega)) HO5.out (fun k hk e => by omega))
        have hfl : ((F.length : Int) + 1) = ((F ++ [x]).length : Int) := by rw [List.length_append]; simp
        have HFL := Lib.hid hfl
        clear hw5 hfl c1 f1
        go_roundw
        case rel => exact ⟨F ++ [x], left.filter (fun k => !(k == x)), by rw [HFL.out], HOW5.out, HR5.out, perm_step HX.out HL.out HP.out, HL.out.filter _, HSW.out⟩
        case measure =>
          rw [HR5.out.left_eq, HLE.out]
          have h1 := List.perm_cons_erase HX.out
          rw [HL.out.erase_eq_filter] at h1
          have h2 := h1.length_eq
          rw [List.length_cons] at h2
          have h3 : (left.filter (fun k => !(k == x))).length = (left.filter (fun k => k != x)).length := rfl
          omega
end Go.Proofs.YtpccodjmjgfloaaDoor.gr
