/-
  The thin package's BLRun: steps on one filter.
-/
import Derived.Test.YtpiajkabikbdnaaBlSteps
namespace Go.Proofs.Ytpiajkabikbdnaa.bs
open Go.RowKit Go.Proofs.Ytpiajkabikbdnaa.base Go.Proofs.Ytpiajkabikbdnaa.heap Go.Proofs.Ytpiajkabikbdnaa.bit
set_option linter.unusedVariables false

section
variable (H : List Nat → Int × Int × Int × Int) (K : Nat)
/-- the locations of a step's data -/
def St.locs (s : St) : List Nat := (List.range K).map (loc (H s.d))
/-- the bits behind a step; what it says -/
def St.bits (b : List Bool) (s : St) : List Bool := if s.op = 5 then List.replicate b.length false else if s.op = 2 then b else putAll b (s.locs H K)
def St.says (b : List Bool) (s : St) : Bool := if s.op = 1 ∨ s.op = 5 then false else allAt (fun i => b.getD i false) b.length (s.locs H K)
def runB (b : List Bool) (l : List St) : List Bool := l.foldl (fun b s => s.bits H K b) b
def runY (b : List Bool) : List St → List Bool
  | [] => []
  | s :: l => s.says H K b :: runY (s.bits H K b) l
theorem runY_snoc (l : List St) (s : St) : ∀ b, runY H K b (l ++ [s]) = runY H K b l ++ [s.says H K (runB H K b l)] := by
  induction l with
  | nil => intro b; rfl
  | cons t l ih => intro b; simp only [List.cons_append, runY, ih]; rfl
theorem runB_snoc (b : List Bool) (l : List St) (s : St) : runB H K b (l ++ [s]) = s.bits H K (runB H K b l) := by simp [runB]
theorem bits_len (b : List Bool) (s : St) : (s.bits H K b).length = b.length := by
  unfold St.bits
  split
  · simp
  · split
    · rfl
    · exact putAll_len _ _
theorem runB_len (l : List St) : ∀ b, (runB H K b l).length = b.length := by
  induction l with
  | nil => intro b; rfl
  | cons t l ih => intro b; show (runB H K (t.bits H K b) l).length = _; rw [ih, bits_len]
theorem runY_len (l : List St) : ∀ b, (runY H K b l).length = l.length := by
  induction l with
  | nil => intro b; rfl
  | cons t l ih => intro b; simp only [runY, List.length_cons, ih]
theorem take_snoc' (l : List St) (k : Nat) (s : St) (h : l[k]? = some s) : l.take (k + 1) = l.take k ++ [s] := by
  obtain ⟨hk, he⟩ := List.getElem?_eq_some_iff.1 h
  rw [List.take_succ_eq_append_getElem hk, he]
end

def FRun (M K nw n : Nat) (ys b : List Bool) (w : World) (e : Ending) (w' : World) : Prop :=
  ∃ oa oc ra rc rl, e = .returned (.tuple #[.slice oa n oc, .agg #[.int .u64 (M : Int), .int .u64 (K : Int), .slice ra nw rc]]) ∧ RB w' oa n oc ys ∧ PutIn w' ra nw rc rl M b ∧ Same w w'

/-- what a step's call leaves -/
def Did (f : F) (K : Nat) (b : List Bool) (w : World) (w' : World) : Prop := ∃ f' : F, Like f f' ∧ FB f' w' K b ∧ Only f.o.foot w w'

theorem did_1 (H : List Nat → Int × Int × Int × Int) (hH : ∀ l w a n cap, n ≤ 1048576 → RY w a n cap l → Calls Try.prog 53 #[.slice a n cap] w (FV w (H4 (H l))))
    (f2 : F) (K : Nat) (b : List Bool) (s : St) (wx : World) (hf2 : FB f2 wx K b) (hry : RY wx s.a s.n s.cap s.d) (hn : s.n ≤ 20) (hK : K ≤ 1048576) (hop : s.op = 1) :
    Calls Try.prog 37 #[f2.ptr, .slice s.a s.n s.cap] wx fun e w' => e = .returned (f2.ptr) ∧ Did f2 K (s.bits H K b) wx w' :=
  (bl_add H hH f2 K b s.d s.a s.n s.cap wx hf2 hry (by omega) hK).mono fun e w' ⟨f3, he, h1, h2, h3⟩ => ⟨he, f3, h1, by unfold St.bits St.locs; rw [if_neg (by omega), if_neg (by omega)]; exact h2, h3⟩
theorem did_2 (H : List Nat → Int × Int × Int × Int) (hH : ∀ l w a n cap, n ≤ 1048576 → RY w a n cap l → Calls Try.prog 53 #[.slice a n cap] w (FV w (H4 (H l))))
    (f2 : F) (K : Nat) (b : List Bool) (s : St) (wx : World) (hf2 : FB f2 wx K b) (hry : RY wx s.a s.n s.cap s.d) (hn : s.n ≤ 20) (hK : K ≤ 1048576) (hop : s.op = 2) :
    Calls Try.prog 43 #[f2.ptr, .slice s.a s.n s.cap] wx fun e w' => e = .returned (.bool (s.says H K b)) ∧ Did f2 K (s.bits H K b) wx w' :=
  (bl_test H hH f2 K b s.d s.a s.n s.cap wx hf2 hry (by omega) hK).mono fun e w' ⟨he, hO⟩ => ⟨by rw [he]; unfold St.says St.locs; rw [if_neg (by omega)], f2, Like.refl f2, by unfold St.bits; rw [if_neg (by omega), if_pos hop]; exact hf2.keep hO, hO.mono (fun _ _ h => h.elim)⟩
theorem did_3 (H : List Nat → Int × Int × Int × Int) (hH : ∀ l w a n cap, n ≤ 1048576 → RY w a n cap l → Calls Try.prog 53 #[.slice a n cap] w (FV w (H4 (H l))))
    (f2 : F) (K : Nat) (b : List Bool) (s : St) (wx : World) (hf2 : FB f2 wx K b) (hry : RY wx s.a s.n s.cap s.d) (hn : s.n ≤ 20) (hK : K ≤ 1048576) (hop : s.op = 3) :
    Calls Try.prog 39 #[f2.ptr, .slice s.a s.n s.cap] wx fun e w' => e = .returned (.bool (s.says H K b)) ∧ Did f2 K (s.bits H K b) wx w' :=
  (bl_testAndAdd H hH f2 K b s.d s.a s.n s.cap wx hf2 hry (by omega) hK).mono fun e w' ⟨f3, he, h1, h2, h3⟩ => ⟨by rw [he]; unfold St.says St.locs; rw [if_neg (by omega)], f3, h1, by unfold St.bits St.locs; rw [if_neg (by omega), if_neg (by omega)]; exact h2, h3⟩
theorem did_4 (H : List Nat → Int × Int × Int × Int) (hH : ∀ l w a n cap, n ≤ 1048576 → RY w a n cap l → Calls Try.prog 53 #[.slice a n cap] w (FV w (H4 (H l))))
    (f2 : F) (K : Nat) (b : List Bool) (s : St) (wx : World) (hf2 : FB f2 wx K b) (hry : RY wx s.a s.n s.cap s.d) (hn : s.n ≤ 20) (hK : K ≤ 1048576) (hop : s.op = 4) :
    Calls Try.prog 44 #[f2.ptr, .slice s.a s.n s.cap] wx fun e w' => e = .returned (.bool (s.says H K b)) ∧ Did f2 K (s.bits H K b) wx w' :=
  (bl_testOrAdd H hH f2 K b s.d s.a s.n s.cap wx hf2 hry (by omega) hK).mono fun e w' ⟨f3, he, h1, h2, h3⟩ => ⟨by rw [he]; unfold St.says St.locs; rw [if_neg (by omega)], f3, h1, by unfold St.bits St.locs; rw [if_neg (by omega), if_neg (by omega)]; exact h2, h3⟩
theorem did_5 (H : List Nat → Int × Int × Int × Int) (hH : ∀ l w a n cap, n ≤ 1048576 → RY w a n cap l → Calls Try.prog 53 #[.slice a n cap] w (FV w (H4 (H l))))
    (f2 : F) (K : Nat) (b : List Bool) (s : St) (wx : World) (hf2 : FB f2 wx K b) (hry : RY wx s.a s.n s.cap s.d) (hn : s.n ≤ 20) (hK : K ≤ 1048576) (hop : s.op = 5) :
    Calls Try.prog 45 #[f2.ptr] wx fun e w' => e = .returned (f2.ptr) ∧ Did f2 K (s.bits H K b) wx w' :=
  (bl_clearAll f2 K b wx hf2).mono fun e w' ⟨f3, he, h1, h2, h3⟩ => ⟨he, f3, h1, by unfold St.bits; rw [if_pos hop]; exact h2, h3⟩
theorem run_end {w wx : World} {M K nw n : Nat} {ys b : List Bool} {oa ra : Option Addr} {oc rc : Nat} (h : FFB w K nw b (.returned (.agg #[.int .u64 (M : Int), .int .u64 (K : Int), .slice ra nw rc])) wx) (hy : RB wx oa n oc ys) (hb : b.length = M) :
    FRun M K nw n ys b w (.returned (.tuple #[.slice oa n oc, .agg #[.int .u64 (M : Int), .int .u64 (K : Int), .slice ra nw rc]])) wx := by
  subst hb
  obtain ⟨a, cap, l, he, h1, h2, h3, h4, hO, _⟩ := h
  cases he
  exact ⟨oa, oc, ra, rc, l, rfl, hy, ⟨h1, h2, h3, h4⟩, hO⟩

set_option maxRecDepth 100000 in
set_option maxHeartbeats 6400000 in
theorem bl_run (H : List Nat → Int × Int × Int × Int) (hH : ∀ l w a n cap, n ≤ 1048576 → RY w a n cap l → Calls Try.prog 53 #[.slice a n cap] w (FV w (H4 (H l))))
    (M K : Nat) (a : Option Addr) (n cap : Nat) (l : List St) (w0 w : World) (h0 : Same w0 w) (h : RS w a n cap l) (hg : ∀ s ∈ l, Good w0 s) (hn : n ≤ 40) (hM1 : 1 ≤ M) (hM : M ≤ 1048576) (hK1 : 1 ≤ K) (hK : K ≤ 1048576) :
    Calls Try.prog 27 #[.int .u64 (M : Int), .int .u64 (K : Int), .slice a n cap] w (FRun M K ((M + 63) / 64) n (runY H K (List.replicate M false) l) (runB H K (List.replicate M false) l) w) := by
  have hbd := h.1.bound
  have HR : Hid (∀ wx, Same w wx → RS wx a n cap l) := Lib.hid (fun wx hx => h.keep hx (fun _ _ => id))
  have HG := Lib.hid hg
  have HL := Lib.hid h.2
  have HH := Lib.hid hH
  have H0 := Lib.hid h0
  have HN := Lib.hid (fun wx => bl_new M K hM hM1 hK hK1 wx)
  clear hH h0 h hg
  go_enter Try.func27, Try.ntmps27
  go_wp2_with fail
  obtain ⟨W, hW, hS, hB, hk⟩ := newBlock w #[.int .u64 0, .int .u64 0, .slice none 0 0] 26
  rw [← hW]
  refine (HN.out W).mono ?_
  rintro e w1 ⟨f, rfl, hf, hm, hO1, hfr⟩
  have HF := Lib.hid hf
  have HM := Lib.hid hm
  have HFR : Hid (∀ k, f.foot k → w.heap.size < k) := Lib.hid (fun k hk' => by have := hfr k hk'; omega)
  have HRES := Lib.hid (still hO1 hB)
  have HS := Lib.hid (Same.trans hS hO1)
  clear hW hS hB hk hf hm hO1 hfr HN
  unfold F.ptr
  generalize hb0 : List.replicate M false = b0 at *
  have HB0 : Hid (b0.length = M) := Lib.hid (by rw [← hb0, List.length_replicate])
  clear hb0
  go_wp2_with fail
  go_loopw [9, 11, 12, 18] (fun out _ _ i wr => ∃ (k : Nat) (f' : F) (oa : Option Addr) (oc : Nat), k ≤ n ∧ i = .int .i64 (k : Int) ∧ out = .slice oa k oc ∧ Own 4 1 wr oa k oc (B (runY H K b0 (l.take k))) ∧ Like f f' ∧ FB f' wr K (runB H K b0 (l.take k)) ∧ (∀ j, At oa j → w.heap.size < j ∧ ¬ f.foot j) ∧
      wr.heap[w.heap.size]? = some (.cells #[.int .u64 0, .int .u64 0, .slice none 0 0] 26 (0, 0)) ∧ Same w wr) (fun _ _ _ i _ => n - (intOf i).toNat)
  case atStart => exact ⟨0, f, none, 0, Nat.zero_le _, rfl, rfl, Own.nil _ _ _, Like.refl f, HF.out, fun j hj => hj.elim, HRES.out, HS.out⟩
  case round =>
    obtain ⟨k, f', oa, oc, hk, rfl, rfl, hown, hlike, hfb, hat, hres, hO⟩ := hrel
    have hbo := hown.bound
    have HOWN := Lib.hid hown
    have HLK := Lib.hid hlike
    have HFB := Lib.hid hfb
    have HAT := Lib.hid hat
    have HRES := Lib.hid hres
    have HO := Lib.hid hO
    clear hown hlike hfb hat hres hO HF HS
    by_cases hlt : k < n
    · have hlt' : (k : Int) < (n : Int) := by omega
      obtain ⟨b, off, rfl, hb, hc⟩ := (HR.out wr HO.out).at (by omega)
      obtain ⟨s, hsk⟩ : ∃ s, l[k]? = some s := ⟨l[k]'(by rw [HL.out]; omega), List.getElem?_eq_getElem _⟩
      obtain ⟨c0, c1⟩ := hc k s hsk
      obtain ⟨g1, g2, g3, g4, g5, g6⟩ := HG.out s (List.mem_of_getElem? hsk)
      have G6 := Lib.hid g6
      have HTK := Lib.hid (take_snoc' l k s hsk)
      have HDONE : Hid (∀ (t : Bool) (w3 w4 : World) (a' : Option Addr) (cap' : Nat) (b' : List Bool), Same wr w3 → Did f K b' w3 w4 → (∀ wA, Only (fun j => w4.heap.size ≤ j) w4 wA → True) → True) := Lib.hid (fun _ _ _ _ _ _ _ _ _ => trivial)
      clear hc hsk g6 HDONE
      have hop : s.op = 1 ∨ s.op = 2 ∨ s.op = 3 ∨ s.op = 4 ∨ s.op = 5 := by omega
      have hzb : b < wr.heap.size := hb
      rcases hop with hop | hop | hop | hop | hop
      · have HCALL : Hid (∀ wx, Same wr wx → Calls Try.prog 37 #[.pointer (some ⟨f.p, 0, none⟩), .slice s.a s.n s.cap] wx fun e w' => e = .returned (.pointer (some ⟨f.p, 0, none⟩)) ∧ Did f K (s.bits H K (runB H K b0 (l.take k))) wx w') := Lib.hid (fun wx hx => by
          have hf2 := HFB.out.keep hx
          have hry := G6.out wx (Same.trans H0.out (Same.trans HO.out hx))
          have hlk := HLK.out
          generalize f' = f2 at hf2 hlk
          have key := did_1 H HH.out f2 K (runB H K b0 (l.take k)) s wx hf2 hry g3 hK hop
          unfold F.ptr at key
          rw [hlk.p] at key
          exact key.mono fun e w' ⟨he, f3, h1, h2, h3⟩ => ⟨he, f3, ⟨h1.p.trans hlk.p, h1.op.trans hlk.op, h1.oa.trans hlk.oa, h1.on.trans hlk.on, h1.om.trans hlk.om⟩, h2, h3.mono (fun j _ h => (hlk.foot j).1 h)⟩)
        have HSAY : Hid (s.says H K (runB H K b0 (l.take k)) = false) := Lib.hid (by unfold St.says; rw [if_pos (by omega)])
        have HTY : Hid (runY H K b0 (l.take (k + 1)) = runY H K b0 (l.take k) ++ [false]) := Lib.hid (by rw [HTK.out, runY_snoc, HSAY.out])
        have HTB : Hid (runB H K b0 (l.take (k + 1)) = s.bits H K (runB H K b0 (l.take k))) := Lib.hid (by rw [HTK.out, runB_snoc])
        rw [hop] at c0
        generalize s.bits H K (runB H K b0 (l.take k)) = b' at *
        clear HSAY
        go_wp2_with fail
        refine (HCALL.out _ ((Only.refl _ wr).alloc _)).mono ?_
        rintro e w3 ⟨rfl, hdid⟩
        have HDID := Lib.hid hdid
        have HO3 : Hid (Only f.o.foot wr w3) := Lib.hid (by
          obtain ⟨f3, h1, h2, h3⟩ := hdid
          exact Only.trans ((Only.refl f.o.foot wr).alloc _) h3 (fun _ _ h => h))
        have HOWN3 := Lib.hid (HOWN.out.keep HO3.out (fun j hj h => (HAT.out j hj).2 (.inr h)))
        have HSZ3 := Lib.hid HO3.out.size
        clear hdid
        go_wp2_with (at_builtin; refine wpList_append (k + 1) (B (runY H K b0 (l.take k)) ++ [.bool (false)]) rfl _ _ _ _ rfl slBool rfl (HOWN3.out.keep (S := fun _ => False) (by repeat (first | exact Only.refl _ _ | apply Only.alloc | apply Only.drewN)) (fun _ _ => id)) rfl (Src.row (cs := #[.bool (false)]) (t := 4) (fr := (0, 0)) Try.underlying30 (heap_alloc_new' _ _ _ (by simp)) 1 1 rfl (by simp [Value.oneCell'])) rfl rfl (by unfold maxLen; omega) (by omega) ?_)
        intro a' cap' w4 hG
        have HG4 := Lib.hid hG
        have hO4 : Only (At oa) w3 w4 := Only.trans ((Only.refl (At oa) w3).alloc _) hG.only (fun _ _ h => h)
        have HE4 : Hid (Same w w4 ∧ (∃ f3 : F, Like f f3 ∧ FB f3 w4 K b') ∧ (∀ j, At a' j → w.heap.size < j ∧ ¬ f.foot j) ∧ w4.heap[w.heap.size]? = some (.cells #[.int .u64 0, .int .u64 0, .slice none 0 0] 26 (0, 0))) := Lib.hid (by
          obtain ⟨f3, h1, h2, h3⟩ := HDID.out
          have hsz := HSZ3.out
          have hzr := lt_of_heap HRES.out
          have hflt : ∀ j, f.foot j → j < w3.heap.size := fun j hj => h2.lt j ((h1.feet j).2 hj)
          refine ⟨Only.trans (Only.trans HO.out HO3.out (fun j hj h => by have := HFR.out j (.inr h); omega)) hO4 (fun j hj h => by have := (HAT.out j h).1; omega), ⟨f3, h1, ?_⟩, fun j hj => ?_, ?_⟩
          · refine ⟨h2.ok.keep hO4 (fun j hj h => (HAT.out j h).2 ((h1.feet j).1 hj)), h2.M, h2.K, h2.le, h2.room, h2.pos, h2.small, h2.bits⟩
          · rcases hG.fresh j hj with h | h
            · exact HAT.out j h
            · simp at h
              exact ⟨by omega, fun hf => by have := hflt j hf; omega⟩
          · have hne : ¬ f.o.foot w.heap.size := fun h => by have := HFR.out _ (.inr h); omega
            exact hO4.obj (HO3.out.obj HRES.out hne) (fun h => by have := (HAT.out _ h).1; omega))
        clear hG hO4
        go_wp2_with fail
        go_roundw
        case rel =>
          obtain ⟨q1, ⟨f3, q2, q3⟩, q4, q5⟩ := HE4.out
          exact ⟨k + 1, f3, a', cap', by omega, by go_num, rfl, by rw [HTY.out, ← B_app]; exact HG4.out.own, q2, by rw [HTB.out]; exact q3, q4, q5, q1⟩
        case measure => simp [intOf]; omega
      · have HCALL : Hid (∀ wx, Same wr wx → Calls Try.prog 43 #[.pointer (some ⟨f.p, 0, none⟩), .slice s.a s.n s.cap] wx fun e w' => e = .returned (.bool (St.says H K (runB H K b0 (l.take k)) s)) ∧ Did f K (s.bits H K (runB H K b0 (l.take k))) wx w') := Lib.hid (fun wx hx => by
          have hf2 := HFB.out.keep hx
          have hry := G6.out wx (Same.trans H0.out (Same.trans HO.out hx))
          have hlk := HLK.out
          generalize f' = f2 at hf2 hlk
          have key := did_2 H HH.out f2 K (runB H K b0 (l.take k)) s wx hf2 hry g3 hK hop
          unfold F.ptr at key
          rw [hlk.p] at key
          exact key.mono fun e w' ⟨he, f3, h1, h2, h3⟩ => ⟨he, f3, ⟨h1.p.trans hlk.p, h1.op.trans hlk.op, h1.oa.trans hlk.oa, h1.on.trans hlk.on, h1.om.trans hlk.om⟩, h2, h3.mono (fun j _ h => (hlk.foot j).1 h)⟩)
        have HSAY : Hid (s.says H K (runB H K b0 (l.take k)) = St.says H K (runB H K b0 (l.take k)) s) := Lib.hid (rfl)
        have HTY : Hid (runY H K b0 (l.take (k + 1)) = runY H K b0 (l.take k) ++ [St.says H K (runB H K b0 (l.take k)) s]) := Lib.hid (by rw [HTK.out, runY_snoc, HSAY.out])
        have HTB : Hid (runB H K b0 (l.take (k + 1)) = s.bits H K (runB H K b0 (l.take k))) := Lib.hid (by rw [HTK.out, runB_snoc])
        rw [hop] at c0
        generalize s.bits H K (runB H K b0 (l.take k)) = b' at *
        generalize St.says H K (runB H K b0 (l.take k)) s = t at *
        go_wp2_with fail
        refine (HCALL.out _ ((Only.refl _ wr).alloc _)).mono ?_
        rintro e w3 ⟨rfl, hdid⟩
        have HDID := Lib.hid hdid
        have HO3 : Hid (Only f.o.foot wr w3) := Lib.hid (by
          obtain ⟨f3, h1, h2, h3⟩ := hdid
          exact Only.trans ((Only.refl f.o.foot wr).alloc _) h3 (fun _ _ h => h))
        have HOWN3 := Lib.hid (HOWN.out.keep HO3.out (fun j hj h => (HAT.out j hj).2 (.inr h)))
        have HSZ3 := Lib.hid HO3.out.size
        clear hdid
        go_wp2_with (at_builtin; refine wpList_append (k + 1) (B (runY H K b0 (l.take k)) ++ [.bool t]) rfl _ _ _ _ rfl slBool rfl (HOWN3.out.keep (S := fun _ => False) (by repeat (first | exact Only.refl _ _ | apply Only.alloc | apply Only.drewN)) (fun _ _ => id)) rfl (Src.row (cs := #[.bool t]) (t := 4) (fr := (0, 0)) Try.underlying30 (heap_alloc_new' _ _ _ (by simp)) 1 1 rfl (by simp [Value.oneCell'])) rfl rfl (by unfold maxLen; omega) (by omega) ?_)
        intro a' cap' w4 hG
        have HG4 := Lib.hid hG
        have hO4 : Only (At oa) w3 w4 := Only.trans ((Only.refl (At oa) w3).alloc _) hG.only (fun _ _ h => h)
        have HE4 : Hid (Same w w4 ∧ (∃ f3 : F, Like f f3 ∧ FB f3 w4 K b') ∧ (∀ j, At a' j → w.heap.size < j ∧ ¬ f.foot j) ∧ w4.heap[w.heap.size]? = some (.cells #[.int .u64 0, .int .u64 0, .slice none 0 0] 26 (0, 0))) := Lib.hid (by
          obtain ⟨f3, h1, h2, h3⟩ := HDID.out
          have hsz := HSZ3.out
          have hzr := lt_of_heap HRES.out
          have hflt : ∀ j, f.foot j → j < w3.heap.size := fun j hj => h2.lt j ((h1.feet j).2 hj)
          refine ⟨Only.trans (Only.trans HO.out HO3.out (fun j hj h => by have := HFR.out j (.inr h); omega)) hO4 (fun j hj h => by have := (HAT.out j h).1; omega), ⟨f3, h1, ?_⟩, fun j hj => ?_, ?_⟩
          · refine ⟨h2.ok.keep hO4 (fun j hj h => (HAT.out j h).2 ((h1.feet j).1 hj)), h2.M, h2.K, h2.le, h2.room, h2.pos, h2.small, h2.bits⟩
          · rcases hG.fresh j hj with h | h
            · exact HAT.out j h
            · simp at h
              exact ⟨by omega, fun hf => by have := hflt j hf; omega⟩
          · have hne : ¬ f.o.foot w.heap.size := fun h => by have := HFR.out _ (.inr h); omega
            exact hO4.obj (HO3.out.obj HRES.out hne) (fun h => by have := (HAT.out _ h).1; omega))
        clear hG hO4
        go_wp2_with fail
        go_roundw
        case rel =>
          obtain ⟨q1, ⟨f3, q2, q3⟩, q4, q5⟩ := HE4.out
          exact ⟨k + 1, f3, a', cap', by omega, by go_num, rfl, by rw [HTY.out, ← B_app]; exact HG4.out.own, q2, by rw [HTB.out]; exact q3, q4, q5, q1⟩
        case measure => simp [intOf]; omega
      · have HCALL : Hid (∀ wx, Same wr wx → Calls Try.prog 39 #[.pointer (some ⟨f.p, 0, none⟩), .slice s.a s.n s.cap] wx fun e w' => e = .returned (.bool (St.says H K (runB H K b0 (l.take k)) s)) ∧ Did f K (s.bits H K (runB H K b0 (l.take k))) wx w') := Lib.hid (fun wx hx => by
          have hf2 := HFB.out.keep hx
          have hry := G6.out wx (Same.trans H0.out (Same.trans HO.out hx))
          have hlk := HLK.out
          generalize f' = f2 at hf2 hlk
          have key := did_3 H HH.out f2 K (runB H K b0 (l.take k)) s wx hf2 hry g3 hK hop
          unfold F.ptr at key
          rw [hlk.p] at key
          exact key.mono fun e w' ⟨he, f3, h1, h2, h3⟩ => ⟨he, f3, ⟨h1.p.trans hlk.p, h1.op.trans hlk.op, h1.oa.trans hlk.oa, h1.on.trans hlk.on, h1.om.trans hlk.om⟩, h2, h3.mono (fun j _ h => (hlk.foot j).1 h)⟩)
        have HSAY : Hid (s.says H K (runB H K b0 (l.take k)) = St.says H K (runB H K b0 (l.take k)) s) := Lib.hid (rfl)
        have HTY : Hid (runY H K b0 (l.take (k + 1)) = runY H K b0 (l.take k) ++ [St.says H K (runB H K b0 (l.take k)) s]) := Lib.hid (by rw [HTK.out, runY_snoc, HSAY.out])
        have HTB : Hid (runB H K b0 (l.take (k + 1)) = s.bits H K (runB H K b0 (l.take k))) := Lib.hid (by rw [HTK.out, runB_snoc])
        rw [hop] at c0
        generalize s.bits H K (runB H K b0 (l.take k)) = b' at *
        generalize St.says H K (runB H K b0 (l.take k)) s = t at *
        go_wp2_with fail
        refine (HCALL.out _ ((Only.refl _ wr).alloc _)).mono ?_
        rintro e w3 ⟨rfl, hdid⟩
        have HDID := Lib.hid hdid
        have HO3 : Hid (Only f.o.foot wr w3) := Lib.hid (by
          obtain ⟨f3, h1, h2, h3⟩ := hdid
          exact Only.trans ((Only.refl f.o.foot wr).alloc _) h3 (fun _ _ h => h))
        have HOWN3 := Lib.hid (HOWN.out.keep HO3.out (fun j hj h => (HAT.out j hj).2 (.inr h)))
        have HSZ3 := Lib.hid HO3.out.size
        clear hdid
        go_wp2_with (at_builtin; refine wpList_append (k + 1) (B (runY H K b0 (l.take k)) ++ [.bool t]) rfl _ _ _ _ rfl slBool rfl (HOWN3.out.keep (S := fun _ => False) (by repeat (first | exact Only.refl _ _ | apply Only.alloc | apply Only.drewN)) (fun _ _ => id)) rfl (Src.row (cs := #[.bool t]) (t := 4) (fr := (0, 0)) Try.underlying30 (heap_alloc_new' _ _ _ (by simp)) 1 1 rfl (by simp [Value.oneCell'])) rfl rfl (by unfold maxLen; omega) (by omega) ?_)
        intro a' cap' w4 hG
        have HG4 := Lib.hid hG
        have hO4 : Only (At oa) w3 w4 := Only.trans ((Only.refl (At oa) w3).alloc _) hG.only (fun _ _ h => h)
        have HE4 : Hid (Same w w4 ∧ (∃ f3 : F, Like f f3 ∧ FB f3 w4 K b') ∧ (∀ j, At a' j → w.heap.size < j ∧ ¬ f.foot j) ∧ w4.heap[w.heap.size]? = some (.cells #[.int .u64 0, .int .u64 0, .slice none 0 0] 26 (0, 0))) := Lib.hid (by
          obtain ⟨f3, h1, h2, h3⟩ := HDID.out
          have hsz := HSZ3.out
          have hzr := lt_of_heap HRES.out
          have hflt : ∀ j, f.foot j → j < w3.heap.size := fun j hj => h2.lt j ((h1.feet j).2 hj)
          refine ⟨Only.trans (Only.trans HO.out HO3.out (fun j hj h => by have := HFR.out j (.inr h); omega)) hO4 (fun j hj h => by have := (HAT.out j h).1; omega), ⟨f3, h1, ?_⟩, fun j hj => ?_, ?_⟩
          · refine ⟨h2.ok.keep hO4 (fun j hj h => (HAT.out j h).2 ((h1.feet j).1 hj)), h2.M, h2.K, h2.le, h2.room, h2.pos, h2.small, h2.bits⟩
          · rcases hG.fresh j hj with h | h
            · exact HAT.out j h
            · simp at h
              exact ⟨by omega, fun hf => by have := hflt j hf; omega⟩
          · have hne : ¬ f.o.foot w.heap.size := fun h => by have := HFR.out _ (.inr h); omega
            exact hO4.obj (HO3.out.obj HRES.out hne) (fun h => by have := (HAT.out _ h).1; omega))
        clear hG hO4
        go_wp2_with fail
        go_roundw
        case rel =>
          obtain ⟨q1, ⟨f3, q2, q3⟩, q4, q5⟩ := HE4.out
          exact ⟨k + 1, f3, a', cap', by omega, by go_num, rfl, by rw [HTY.out, ← B_app]; exact HG4.out.own, q2, by rw [HTB.out]; exact q3, q4, q5, q1⟩
        case measure => simp [intOf]; omega
      · have HCALL : Hid (∀ wx, Same wr wx → Calls Try.prog 44 #[.pointer (some ⟨f.p, 0, none⟩), .slice s.a s.n s.cap] wx fun e w' => e = .returned (.bool (St.says H K (runB H K b0 (l.take k)) s)) ∧ Did f K (s.bits H K (runB H K b0 (l.take k))) wx w') := Lib.hid (fun wx hx => by
          have hf2 := HFB.out.keep hx
          have hry := G6.out wx (Same.trans H0.out (Same.trans HO.out hx))
          have hlk := HLK.out
          generalize f' = f2 at hf2 hlk
          have key := did_4 H HH.out f2 K (runB H K b0 (l.take k)) s wx hf2 hry g3 hK hop
          unfold F.ptr at key
          rw [hlk.p] at key
          exact key.mono fun e w' ⟨he, f3, h1, h2, h3⟩ => ⟨he, f3, ⟨h1.p.trans hlk.p, h1.op.trans hlk.op, h1.oa.trans hlk.oa, h1.on.trans hlk.on, h1.om.trans hlk.om⟩, h2, h3.mono (fun j _ h => (hlk.foot j).1 h)⟩)
        have HSAY : Hid (s.says H K (runB H K b0 (l.take k)) = St.says H K (runB H K b0 (l.take k)) s) := Lib.hid (rfl)
        have HTY : Hid (runY H K b0 (l.take (k + 1)) = runY H K b0 (l.take k) ++ [St.says H K (runB H K b0 (l.take k)) s]) := Lib.hid (by rw [HTK.out, runY_snoc, HSAY.out])
        have HTB : Hid (runB H K b0 (l.take (k + 1)) = s.bits H K (runB H K b0 (l.take k))) := Lib.hid (by rw [HTK.out, runB_snoc])
        rw [hop] at c0
        generalize s.bits H K (runB H K b0 (l.take k)) = b' at *
        generalize St.says H K (runB H K b0 (l.take k)) s = t at *
        go_wp2_with fail
        refine (HCALL.out _ ((Only.refl _ wr).alloc _)).mono ?_
        rintro e w3 ⟨rfl, hdid⟩
        have HDID := Lib.hid hdid
        have HO3 : Hid (Only f.o.foot wr w3) := Lib.hid (by
          obtain ⟨f3, h1, h2, h3⟩ := hdid
          exact Only.trans ((Only.refl f.o.foot wr).alloc _) h3 (fun _ _ h => h))
        have HOWN3 := Lib.hid (HOWN.out.keep HO3.out (fun j hj h => (HAT.out j hj).2 (.inr h)))
        have HSZ3 := Lib.hid HO3.out.size
        clear hdid
        go_wp2_with (at_builtin; refine wpList_append (k + 1) (B (runY H K b0 (l.take k)) ++ [.bool t]) rfl _ _ _ _ rfl slBool rfl (HOWN3.out.keep (S := fun _ => False) (by repeat (first | exact Only.refl _ _ | apply Only.alloc | apply Only.drewN)) (fun _ _ => id)) rfl (Src.row (cs := #[.bool t]) (t := 4) (fr := (0, 0)) Try.underlying30 (heap_alloc_new' _ _ _ (by simp)) 1 1 rfl (by simp [Value.oneCell'])) rfl rfl (by unfold maxLen; omega) (by omega) ?_)
        intro a' cap' w4 hG
        have HG4 := Lib.hid hG
        have hO4 : Only (At oa) w3 w4 := Only.trans ((Only.refl (At oa) w3).alloc _) hG.only (fun _ _ h => h)
        have HE4 : Hid (Same w w4 ∧ (∃ f3 : F, Like f f3 ∧ FB f3 w4 K b') ∧ (∀ j, At a' j → w.heap.size < j ∧ ¬ f.foot j) ∧ w4.heap[w.heap.size]? = some (.cells #[.int .u64 0, .int .u64 0, .slice none 0 0] 26 (0, 0))) := Lib.hid (by
          obtain ⟨f3, h1, h2, h3⟩ := HDID.out
          have hsz := HSZ3.out
          have hzr := lt_of_heap HRES.out
          have hflt : ∀ j, f.foot j → j < w3.heap.size := fun j hj => h2.lt j ((h1.feet j).2 hj)
          refine ⟨Only.trans (Only.trans HO.out HO3.out (fun j hj h => by have := HFR.out j (.inr h); omega)) hO4 (fun j hj h => by have := (HAT.out j h).1; omega), ⟨f3, h1, ?_⟩, fun j hj => ?_, ?_⟩
          · refine ⟨h2.ok.keep hO4 (fun j hj h => (HAT.out j h).2 ((h1.feet j).1 hj)), h2.M, h2.K, h2.le, h2.room, h2.pos, h2.small, h2.bits⟩
          · rcases hG.fresh j hj with h | h
            · exact HAT.out j h
            · simp at h
              exact ⟨by omega, fun hf => by have := hflt j hf; omega⟩
          · have hne : ¬ f.o.foot w.heap.size := fun h => by have := HFR.out _ (.inr h); omega
            exact hO4.obj (HO3.out.obj HRES.out hne) (fun h => by have := (HAT.out _ h).1; omega))
        clear hG hO4
        go_wp2_with fail
        go_roundw
        case rel =>
          obtain ⟨q1, ⟨f3, q2, q3⟩, q4, q5⟩ := HE4.out
          exact ⟨k + 1, f3, a', cap', by omega, by go_num, rfl, by rw [HTY.out, ← B_app]; exact HG4.out.own, q2, by rw [HTB.out]; exact q3, q4, q5, q1⟩
        case measure => simp [intOf]; omega
      · have HCALL : Hid (∀ wx, Same wr wx → Calls Try.prog 45 #[.pointer (some ⟨f.p, 0, none⟩)] wx fun e w' => e = .returned (.pointer (some ⟨f.p, 0, none⟩)) ∧ Did f K (s.bits H K (runB H K b0 (l.take k))) wx w') := Lib.hid (fun wx hx => by
          have hf2 := HFB.out.keep hx
          have hry := G6.out wx (Same.trans H0.out (Same.trans HO.out hx))
          have hlk := HLK.out
          generalize f' = f2 at hf2 hlk
          have key := did_5 H HH.out f2 K (runB H K b0 (l.take k)) s wx hf2 hry g3 hK hop
          unfold F.ptr at key
          rw [hlk.p] at key
          exact key.mono fun e w' ⟨he, f3, h1, h2, h3⟩ => ⟨he, f3, ⟨h1.p.trans hlk.p, h1.op.trans hlk.op, h1.oa.trans hlk.oa, h1.on.trans hlk.on, h1.om.trans hlk.om⟩, h2, h3.mono (fun j _ h => (hlk.foot j).1 h)⟩)
        have HSAY : Hid (s.says H K (runB H K b0 (l.take k)) = false) := Lib.hid (by unfold St.says; rw [if_pos (by omega)])
        have HTY : Hid (runY H K b0 (l.take (k + 1)) = runY H K b0 (l.take k) ++ [false]) := Lib.hid (by rw [HTK.out, runY_snoc, HSAY.out])
        have HTB : Hid (runB H K b0 (l.take (k + 1)) = s.bits H K (runB H K b0 (l.take k))) := Lib.hid (by rw [HTK.out, runB_snoc])
        rw [hop] at c0
        generalize s.bits H K (runB H K b0 (l.take k)) = b' at *
        clear HSAY
        go_wp2_with fail
        refine (HCALL.out _ ((Only.refl _ wr).alloc _)).mono ?_
        rintro e w3 ⟨rfl, hdid⟩
        have HDID := Lib.hid hdid
        have HO3 : Hid (Only f.o.foot wr w3) := Lib.hid (by
          obtain ⟨f3, h1, h2, h3⟩ := hdid
          exact Only.trans ((Only.refl f.o.foot wr).alloc _) h3 (fun _ _ h => h))
        have HOWN3 := Lib.hid (HOWN.out.keep HO3.out (fun j hj h => (HAT.out j hj).2 (.inr h)))
        have HSZ3 := Lib.hid HO3.out.size
        clear hdid
        go_wp2_with (at_builtin; refine wpList_append (k + 1) (B (runY H K b0 (l.take k)) ++ [.bool (false)]) rfl _ _ _ _ rfl slBool rfl (HOWN3.out.keep (S := fun _ => False) (by repeat (first | exact Only.refl _ _ | apply Only.alloc | apply Only.drewN)) (fun _ _ => id)) rfl (Src.row (cs := #[.bool (false)]) (t := 4) (fr := (0, 0)) Try.underlying30 (heap_alloc_new' _ _ _ (by simp)) 1 1 rfl (by simp [Value.oneCell'])) rfl rfl (by unfold maxLen; omega) (by omega) ?_)
        intro a' cap' w4 hG
        have HG4 := Lib.hid hG
        have hO4 : Only (At oa) w3 w4 := Only.trans ((Only.refl (At oa) w3).alloc _) hG.only (fun _ _ h => h)
        have HE4 : Hid (Same w w4 ∧ (∃ f3 : F, Like f f3 ∧ FB f3 w4 K b') ∧ (∀ j, At a' j → w.heap.size < j ∧ ¬ f.foot j) ∧ w4.heap[w.heap.size]? = some (.cells #[.int .u64 0, .int .u64 0, .slice none 0 0] 26 (0, 0))) := Lib.hid (by
          obtain ⟨f3, h1, h2, h3⟩ := HDID.out
          have hsz := HSZ3.out
          have hzr := lt_of_heap HRES.out
          have hflt : ∀ j, f.foot j → j < w3.heap.size := fun j hj => h2.lt j ((h1.feet j).2 hj)
          refine ⟨Only.trans (Only.trans HO.out HO3.out (fun j hj h => by have := HFR.out j (.inr h); omega)) hO4 (fun j hj h => by have := (HAT.out j h).1; omega), ⟨f3, h1, ?_⟩, fun j hj => ?_, ?_⟩
          · refine ⟨h2.ok.keep hO4 (fun j hj h => (HAT.out j h).2 ((h1.feet j).1 hj)), h2.M, h2.K, h2.le, h2.room, h2.pos, h2.small, h2.bits⟩
          · rcases hG.fresh j hj with h | h
            · exact HAT.out j h
            · simp at h
              exact ⟨by omega, fun hf => by have := hflt j hf; omega⟩
          · have hne : ¬ f.o.foot w.heap.size := fun h => by have := HFR.out _ (.inr h); omega
            exact hO4.obj (HO3.out.obj HRES.out hne) (fun h => by have := (HAT.out _ h).1; omega))
        clear hG hO4
        go_wp2_with fail
        go_roundw
        case rel =>
          obtain ⟨q1, ⟨f3, q2, q3⟩, q4, q5⟩ := HE4.out
          exact ⟨k + 1, f3, a', cap', by omega, by go_num, rfl, by rw [HTY.out, ← B_app]; exact HG4.out.own, q2, by rw [HTB.out]; exact q3, q4, q5, q1⟩
        case measure => simp [intOf]; omega
    · obtain rfl : k = n := by omega
      have HE : Hid (l.take k = l) := Lib.hid (List.take_of_length_le (by rw [HL.out]; exact Nat.le_refl _))
      have HT := HFB.out.told
      rw [HLK.out.om, HM.out] at HT
      unfold F.ptr at HT
      rw [HLK.out.p, HE.out] at HT
      have HT := Lib.hid HT
      have HY : Hid (Own 4 1 wr oa k oc (B (runY H K b0 l))) := Lib.hid (by have := HOWN.out; rwa [HE.out] at this)
      have HBL : Hid ((runB H K b0 l).length = M) := Lib.hid (by rw [runB_len, HB0.out])
      clear hbo
      go_wp2_with fail
      refine HT.out.mono ?_
      rintro e w3 ⟨a3, cap3, l3, rfl, hu3, hok3, hb3, hbn3, hO3, hf3⟩
      obtain ⟨r0, r1, r2, s0, s1, s2⟩ := filt_cells (still hO3 HRES.out)
      have HP := Lib.hid (filtb_put (K := K) (w := w) (lt_of_heap (still hO3 HRES.out)) (Nat.le_refl _) hu3 hok3 hb3 hbn3 (fun j hj => by have := hf3 j hj; have := lt_of_heap HRES.out; omega) (Same.trans HO.out hO3))
      have HY3 : Hid (RB (((w3.setCell ⟨w.heap.size, 0, none⟩ (.int .u64 ((runB H K b0 l).length : Int))).setCell ⟨w.heap.size, 1, none⟩ (.int .u64 (K : Int))).setCell ⟨w.heap.size, 2, none⟩ (.slice a3 ((M + 63) / 64) cap3)) oa k oc (runY H K b0 l)) := Lib.hid (by
        refine ⟨((HY.out.keep hO3 (fun _ _ => id)).keep (S := fun j => j = w.heap.size) ((((Only.refl (fun j => j = w.heap.size) _).setCell _ _ (fun _ => rfl)).setCell _ _ (fun _ => rfl)).setCell _ _ (fun _ => rfl)) (fun j hj e => by have := (HAT.out j hj).1; omega)).rd, by rw [runY_len, HL.out]⟩)
      rw [HBL.out] at HP HY3 ⊢
      clear hu3 hok3 hb3 hbn3 hO3 hf3 HT
      generalize runB H K b0 l = bf at *
      go_wp2_with fail
      refine bodyPost_ret (v := .tuple #[.slice oa k oc, .agg #[.int .u64 (M : Int), .int .u64 (K : Int), .slice a3 ((M + 63) / 64) cap3]]) ?_ rfl (run_end HP.out HY3.out HBL.out)
      simp [results, Try.results27, go_sem, r0, r1, r2]
end Go.Proofs.Ytpiajkabikbdnaa.bs
