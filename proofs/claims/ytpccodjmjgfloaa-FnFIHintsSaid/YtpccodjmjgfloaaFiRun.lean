/-
  FIRun: the walk.
-/
import Derived.Test.YtpccodjmjgfloaaFiSpec
import Derived.Deep.CutRange
import Derived.Deep.DeepCutAuto
import Derived.Deep.CutBlock
import Derived.Deep.RegionHeld3
import Derived.Deep.RegionLaw
namespace Go.Proofs.Ytpccodjmjgfloaa.fi
open Go.RowKit Go.Proofs.Ytpccodjmjgfloaa.base Go.Proofs.Ytpccodjmjgfloaa.heap Go.Proofs.Ytpccodjmjgfloaa.rows
set_option linter.unusedVariables false

theorem slAn : SliceOf Try.prog 39 45 2 16 := SliceOf.mk (z := .agg #[.int .u64 0, .bool false]) Try.underlying39 (by kernel_rfl) rfl

/-- the loop of FIRun -/
structure Inv (H : Nat → Nat) (w wr : World) (ob : Nat) (l : List Stp) (k : Nat) (oa : Option Addr) (oc : Nat) (R : List An) (tb L E : Nat) (T : Tb) : Prop where
  fi : Fi H wr ob tb L E (mAt l k).2 T
  lk : Lk T (mAt l k).1
  out : Own 45 2 wr oa k oc (R.flatMap anc)
  len : R.length = k
  said : ∀ i a t, R[i]? = some a → l[i]? = some t → Ans (mAt l i) t a
  old : ∀ j, Fi.foot ob tb T j ∨ At oa j → w.heap.size ≤ j
  apart : ∀ j, At oa j → ¬ Fi.foot ob tb T j
  same : Same w wr

/-- behind the switch of a round -/
def Mid (H : Nat → Nat) (ob tb0 : Nat) (T0 : Tb) (g : Nat) (W1 : World) (l : List Stp) (k : Nat) (t : Stp) (wx : World) : Prop :=
  ∃ tb L E T a, Fi H wx ob tb L E (mAt l (k + 1)).2 T ∧ Lk T (mAt l (k + 1)).1 ∧ wx.heap[g]? = some (.cells #[.int .u64 (a.n : Int), .bool a.yes] 45 (0, 0)) ∧ Ans (mAt l k) t a ∧ Only (fun j => Fi.foot ob tb0 T0 j ∨ j = g) W1 wx ∧ (∀ j, Fi.foot ob tb T j → Fi.foot ob tb0 T0 j ∨ W1.heap.size ≤ j)

theorem set2 {w w3 : World} {g : Nat} (h : Same w w3) (u v : Value) : Only (fun j => j = g) w ((w3.setCell ⟨g, 0, none⟩ u).setCell ⟨g, 1, none⟩ v) := by
  have h1 : Only (fun j => j = g) w (w3.setCell ⟨g, 0, none⟩ u) := (h.mono (fun _ _ h => h.elim)).setCell _ _ (fun _ => rfl)
  exact h1.setCell _ _ (fun _ => rfl)
theorem Mid.read {H : Nat → Nat} {ob tb L E g : Nat} {T : Tb} {W1 wx : World} {l : List Stp} {k : Nat} {t : Stp} {a : An} (hfi : Fi H W1 ob tb L E (mAt l k).2 T) (hlk : Lk T (mAt l k).1) (hk1 : mAt l (k + 1) = stp (mAt l k) t) (h1 : t.op ≠ 1) (h4 : t.op ≠ 4) (hg : ¬ Fi.foot ob tb T g)
    (hO : Only (fun j => j = g) W1 wx) (hb : wx.heap[g]? = some (.cells #[.int .u64 (a.n : Int), .bool a.yes] 45 (0, 0))) (ha : Ans (mAt l k) t a) : Mid H ob tb T g W1 l k t wx := by
  have e : mAt l (k + 1) = mAt l k := by
    rw [hk1]
    unfold stp stepM stepC
    rw [if_neg h1, if_neg h1, if_neg h4, if_neg h4]
  exact ⟨tb, L, E, T, a, by rw [e]; exact hfi.keep hO (fun j hj e => hg (by rw [← e]; exact hj)), by rw [e]; exact hlk, hb, ha, hO.mono (fun _ _ h => .inr h), fun j hj => .inl hj⟩
theorem Mid.upd {H : Nat → Nat} {ob tb tb' L' E' g : Nat} {T T' : Tb} {W1 wx : World} {l : List Stp} {k : Nat} {t : Stp} (hfi : Fi H wx ob tb' L' E' (mAt l (k + 1)).2 T') (hlk : Lk T' (mAt l (k + 1)).1) (hg : ¬ Fi.foot ob tb T g)
    (hO : Only (Fi.foot ob tb T) W1 wx) (hf : ∀ j, Fi.foot ob tb' T' j → Fi.foot ob tb T j ∨ W1.heap.size ≤ j) (hb : W1.heap[g]? = some (.cells #[.int .u64 0, .bool false] 45 (0, 0))) (ha : Ans (mAt l k) t ⟨0, false⟩) : Mid H ob tb T g W1 l k t wx :=
  ⟨tb', L', E', T', ⟨0, false⟩, hfi, hlk, hO.obj hb hg, ha, hO.mono (fun _ _ h => .inl h), hf⟩

def FRun (l : List Stp) (n : Nat) (w : World) (e : Ending) (w' : World) : Prop :=
  ∃ (oa : Option Addr) (oc : Nat) (R : List An), e = .returned (.slice oa n oc) ∧ RN w' oa n oc R ∧ (∀ i a t, R[i]? = some a → l[i]? = some t → Ans (mAt l i) t a) ∧ Same w w'

set_option maxRecDepth 100000 in
set_option maxHeartbeats 6400000 in
theorem fiRun (h : Nat) (hh : h < 601) (a : Option Addr) (n cap : Nat) (l : List Stp) (w : World) (hl : RP w a n cap l) (hn : n ≤ 200) (hs : ∀ s ∈ l, 1 ≤ s.op ∧ s.op ≤ 6 ∧ s.k < B64 ∧ s.v < B64) :
    Calls Try.prog 12 #[.int .u64 (h : Int), .slice a n cap] w (FRun l n w) := by
  obtain ⟨H, hH1, hH2⟩ := hashes
  have HH : Hid (Hsh H) := Lib.hid ⟨hH1, hH2⟩
  have hbd := hl.1.bound
  have HR : Hid (∀ wx, Same w wx → RP wx a n cap l) := Lib.hid (fun wx hx => hl.keep hx (fun _ _ => id))
  have HL := Lib.hid hl.2
  have HS := Lib.hid hs
  have HC : Hid (∀ k, k ≤ n → (mAt l k).2 ≤ k) := Lib.hid (fun k hk => mAt_le l k (by rw [hl.2]; exact hk))
  have HN := Lib.hid (newM H h hh w)
  clear hl hs hH1 hH2
  go_enter Try.func12, Try.ntmps12
  go_wp2_with fail
  refine HN.out.mono ?_
  rintro e w2 ⟨ob, tb, L, E, rfl, hfi, hob, htb, hO⟩
  have HI0 : Hid (Inv H w w2 ob l 0 none 0 [] tb L E (empty L)) := Lib.hid ⟨hfi, lk_empty L, Own.nil _ _ _, rfl, fun i a t h => by simp at h, fun j hj => by
    rcases hj with (hj | hj | ⟨i, p, hp, _⟩) | hj
    · omega
    · omega
    · rw [slot_empty] at hp; cases hp
    · exact hj.elim, fun j hj => hj.elim, hO⟩
  clear hfi hob htb hO HN
  go_wp2_with fail
  go_loopw [6, 14] (fun out i wr => ∃ (k : Nat) (oa : Option Addr) (oc : Nat) (R : List An) (tb L E : Nat) (T : Tb), k ≤ n ∧ i = .int .i64 (k : Int) ∧ out = .slice oa k oc ∧ Inv H w wr ob l k oa oc R tb L E T) (fun _ i _ => n - (intOf i).toNat)
  case atStart => exact ⟨0, none, 0, [], tb, L, E, empty L, Nat.zero_le _, rfl, rfl, HI0.out⟩
  case round =>
    clear HI0
    clear tb L E
    obtain ⟨k, oa, oc, R, tb, L, E, T, hk, rfl, rfl, hI⟩ := hrel
    have HI := Lib.hid hI
    have hbo : k ≤ oc ∧ oc ≤ 9223372036854775807 := ⟨hI.out.le, by have := hI.out.max; unfold maxLen at this; omega⟩
    clear hI
    by_cases hlt : k < n
    · have hlt' : (k : Int) < (n : Int) := by omega
      obtain ⟨b, off, rfl, hb, hc⟩ := (HR.out wr HI.out.same).at (by omega)
      obtain ⟨s, hsk⟩ : ∃ s, l[k]? = some s := ⟨l[k]'(by rw [HL.out]; omega), List.getElem?_eq_getElem _⟩
      obtain ⟨c0, c1, c2⟩ := hc k s hsk
      obtain ⟨g1, g2, g3, g4⟩ := HS.out s (List.mem_of_getElem? hsk)
      have HSK := Lib.hid hsk
      have HK1 : Hid (mAt l (k + 1) = stp (mAt l k) s) := Lib.hid (mAt_succ l k s hsk)
      clear hc hsk
      obtain ⟨W1, hW1⟩ : ∃ W1, W1 = (wr.alloc (.cells #[.int .i64 s.op, .int .u64 (s.k : Int), .int .u64 (s.v : Int)] 43)).alloc (.cells #[.int .u64 0, .bool false] 45) := ⟨_, rfl⟩
      obtain ⟨sb, hsb⟩ : ∃ sb, sb = wr.heap.size := ⟨_, rfl⟩
      obtain ⟨g, hg⟩ : ∃ g, g = sb + 1 := ⟨_, rfl⟩
      have HS1 : Hid (Same wr W1) := Lib.hid (by rw [hW1]; exact ((Only.refl _ _).alloc _).alloc _)
      have HSB1 : Hid (W1.heap[sb]? = some (.cells #[.int .i64 s.op, .int .u64 (s.k : Int), .int .u64 (s.v : Int)] 43 (0, 0))) := Lib.hid (by
        rw [hW1, hsb]
        exact ((Only.refl (fun _ => False) _).alloc _).obj (heap_alloc_new wr _) id)
      have HG1 : Hid (W1.heap[g]? = some (.cells #[.int .u64 0, .bool false] 45 (0, 0))) := Lib.hid (by
        rw [hW1, hg, hsb]
        exact heap_alloc_new' _ _ _ (by show wr.heap.size + 1 = (wr.heap.push _).size; rw [Array.size_push]))
      have HSZ : Hid (sb = wr.heap.size ∧ g = wr.heap.size + 1) := Lib.hid ⟨hsb, by omega⟩
      have HFI : Hid (Fi H W1 ob tb L E (mAt l k).2 T) := Lib.hid (HI.out.fi.keep HS1.out (fun _ _ => id))
      have HGF : Hid (¬ Fi.foot ob tb T g) := Lib.hid (fun h => by have := HI.out.fi.lt g h; omega)
      have hck := HC.out k hk
      go_upto_block 2 with fail
      rw [← hW1, ← hsb, ← hg]
      clear hW1 hsb hg
      go_cut [19] (fun _ wx => Mid H ob tb T g W1 l k s wx)
      case first =>
        have d0 : W1.cell? ⟨sb, 0, none⟩ = some (.int .i64 s.op) := block_cell HSB1.out rfl
        have d1 : W1.cell? ⟨sb, 1, none⟩ = some (.int .u64 (s.k : Int)) := block_cell HSB1.out rfl
        have d2 : W1.cell? ⟨sb, 2, none⟩ = some (.int .u64 (s.v : Int)) := block_cell HSB1.out rfl
        have hop : s.op = 1 ∨ s.op = 2 ∨ s.op = 3 ∨ s.op = 4 ∨ s.op = 5 ∨ s.op = 6 := by omega
        rcases hop with hop | hop | hop | hop | hop | hop
        · have HCC : Hid (Calls Try.prog 28 #[.pointer (some ⟨ob, 0, none⟩), .int .u64 (s.k : Int), .int .u64 (s.v : Int)] W1 fun e w' => e = .returned (.tuple #[]) ∧ Mid H ob tb T g W1 l k s w') := Lib.hid (by
            refine (setM HH.out HFI.out s.k s.v g3 g4 (by omega)).mono ?_
            rintro e w' ⟨tb', L', E', T', rfl, x1, x2, x3, x4⟩
            refine ⟨rfl, Mid.upd (tb' := tb') (L' := L') (E' := E') (T' := T') ?_ ?_ HGF.out x3 x4 HG1.out ?_⟩
            · rw [HK1.out]; unfold stp stepC; rw [if_pos hop]; exact x1
            · rw [HK1.out]; unfold stp stepM; rw [if_pos hop]; exact lk_set HI.out.lk x2
            · intro _; unfold ansOf; rw [if_neg (by omega), if_neg (by omega), if_neg (by omega)])
          rw [hop] at d0 ⊢
          go_wp2_with fail
          refine HCC.out.mono ?_
          rintro e w3 ⟨rfl, hmid⟩
          go_wp2_with fail
          go_meet
          exact hmid
        · have HCC : Hid (Calls Try.prog 29 #[.pointer (some ⟨ob, 0, none⟩), .int .u64 (s.k : Int)] W1 fun e w' => e = .returned (.tuple #[.int .u64 ((((mAt l k).1 s.k).getD 0 : Nat) : Int), .bool ((mAt l k).1 s.k).isSome]) ∧ Same W1 w') := Lib.hid (by
            refine (getM HH.out HFI.out s.k g3).mono ?_
            rintro e w' ⟨i, hf, rfl, x⟩
            rw [lk_found HFI.out.ok hf HI.out.lk, lk_found' HFI.out.ok hf HI.out.lk]
            exact ⟨rfl, x⟩)
          generalize hM : (mAt l k).1 s.k = mk at *
          have HM := Lib.hid hM
          clear hM
          rw [hop] at d0 ⊢
          go_wp2_with fail
          refine HCC.out.mono ?_
          rintro e w3 ⟨rfl, hS3⟩
          have hb3 : w3.heap[g]? = some (.cells #[.int .u64 0, .bool false] 45 (0, 0)) := hS3.obj HG1.out id
          have HB3 := Lib.hid hb3
          have HS3 := Lib.hid hS3
          have y0 : w3.cell? ⟨g, 0, none⟩ = some (.int .u64 0) := block_cell hb3 rfl
          have y1 : w3.cell? ⟨g, 1, none⟩ = some (.bool false) := block_cell hb3 rfl
          have z0 : w3.frozen? ⟨g, 0, none⟩ = false := block_free hb3
          have z1 : w3.frozen? ⟨g, 1, none⟩ = false := block_free hb3
          clear hb3 hS3 HCC
          go_wp2_with fail
          go_meet
          exact Mid.read (a := ⟨mk.getD 0, mk.isSome⟩) HFI.out HI.out.lk HK1.out (by omega) (by omega) HGF.out (set2 HS3.out _ _) ((setCell_heap (setCell_heap HB3.out 0 _) 1 _)) (by intro _; unfold ansOf; rw [if_pos hop, HM.out])
        · have HCC : Hid (Calls Try.prog 30 #[.pointer (some ⟨ob, 0, none⟩), .int .u64 (s.k : Int)] W1 fun e w' => e = .returned (.bool ((mAt l k).1 s.k).isSome) ∧ Same W1 w') := Lib.hid (by
            refine (existsM HH.out HFI.out s.k g3).mono ?_
            rintro e w' ⟨i, hf, rfl, x⟩
            rw [lk_found' HFI.out.ok hf HI.out.lk]
            exact ⟨rfl, x⟩)
          rw [hop] at d0 ⊢
          go_wp2_with fail
          refine HCC.out.mono ?_
          rintro e w3 ⟨rfl, hS3⟩
          have hb3 : w3.heap[g]? = some (.cells #[.int .u64 0, .bool false] 45 (0, 0)) := hS3.obj HG1.out id
          have HB3 := Lib.hid hb3
          have HS3 := Lib.hid hS3
          have y0 : w3.cell? ⟨g, 0, none⟩ = some (.int .u64 0) := block_cell hb3 rfl
          have y1 : w3.cell? ⟨g, 1, none⟩ = some (.bool false) := block_cell hb3 rfl
          have z0 : w3.frozen? ⟨g, 0, none⟩ = false := block_free hb3
          have z1 : w3.frozen? ⟨g, 1, none⟩ = false := block_free hb3
          clear hb3 hS3 HCC
          go_wp2_with fail
          go_meet
          exact Mid.read (a := ⟨0, ((mAt l k).1 s.k).isSome⟩) HFI.out HI.out.lk HK1.out (by omega) (by omega) HGF.out ((Only.setCell (HS3.out.mono (fun _ _ h => h.elim)) _ _ (fun _ => rfl))) ((setCell_heap HB3.out 1 _)) (by intro _; unfold ansOf; rw [if_neg (by omega), if_pos hop])
        · have HCC : Hid (Calls Try.prog 31 #[.pointer (some ⟨ob, 0, none⟩), .int .u64 (s.k : Int)] W1 fun e w' => e = .returned (.tuple #[]) ∧ Mid H ob tb T g W1 l k s w') := Lib.hid (by
            refine (delM HH.out HFI.out s.k g3 (by omega)).mono ?_
            rintro e w' ⟨c', T', rfl, x1, x2, x3, x4, x5⟩
            have e4 : ¬ s.op = 1 := by omega
            refine ⟨rfl, Mid.upd (tb' := tb) (L' := L) (E' := E) (T' := T') ?_ ?_ HGF.out x4 (fun j hj => .inl (x5 j hj)) HG1.out ?_⟩
            · rw [HK1.out]; unfold stp stepC; rw [if_neg e4, if_pos hop]
              rcases x2 with ⟨y1, y2⟩ | ⟨y1, y2⟩
              · rw [lk_some HI.out.lk] at y2
                rw [if_neg y2, ← y1]; exact x1
              · rw [lk_some HI.out.lk] at y2
                rw [if_pos y2, show (mAt l k).2 - 1 = c' by omega]; exact x1
            · rw [HK1.out]; unfold stp stepM; rw [if_neg e4, if_pos hop]; exact lk_del HI.out.lk x3
            · intro _; unfold ansOf; rw [if_neg (by omega), if_neg (by omega), if_neg (by omega)])
          rw [hop] at d0 ⊢
          go_wp2_with fail
          refine HCC.out.mono ?_
          rintro e w3 ⟨rfl, hmid⟩
          go_wp2_with fail
          go_meet
          exact hmid
        · have HCC := Lib.hid (lenM HFI.out)
          rw [hop] at d0 ⊢
          go_wp2_with fail
          refine HCC.out.mono ?_
          rintro e w3 ⟨rfl, rfl⟩
          obtain ⟨w3, rfl⟩ : ∃ w3, w3 = W1 := ⟨_, rfl⟩
          have hS3 : Same w3 w3 := Only.refl _ _
          have hb3 : w3.heap[g]? = some (.cells #[.int .u64 0, .bool false] 45 (0, 0)) := hS3.obj HG1.out id
          have HB3 := Lib.hid hb3
          have HS3 := Lib.hid hS3
          have y0 : w3.cell? ⟨g, 0, none⟩ = some (.int .u64 0) := block_cell hb3 rfl
          have y1 : w3.cell? ⟨g, 1, none⟩ = some (.bool false) := block_cell hb3 rfl
          have z0 : w3.frozen? ⟨g, 0, none⟩ = false := block_free hb3
          have z1 : w3.frozen? ⟨g, 1, none⟩ = false := block_free hb3
          clear hb3 hS3 HCC
          go_wp2_with fail
          go_meet
          exact Mid.read (a := ⟨(mAt l k).2, false⟩) HFI.out HI.out.lk HK1.out (by omega) (by omega) HGF.out ((Only.setCell (HS3.out.mono (fun _ _ h => h.elim)) _ _ (fun _ => rfl))) ((setCell_heap HB3.out 0 _)) (by intro _; unfold ansOf; rw [if_neg (by omega), if_neg (by omega), if_pos hop])
        · have HCC := Lib.hid (capM HFI.out)
          rw [hop] at d0 ⊢
          go_wp2_with fail
          refine HCC.out.mono ?_
          rintro e w3 ⟨rfl, rfl⟩
          obtain ⟨w3, rfl⟩ : ∃ w3, w3 = W1 := ⟨_, rfl⟩
          have hS3 : Same w3 w3 := Only.refl _ _
          have hb3 : w3.heap[g]? = some (.cells #[.int .u64 0, .bool false] 45 (0, 0)) := hS3.obj HG1.out id
          have HB3 := Lib.hid hb3
          have HS3 := Lib.hid hS3
          have y0 : w3.cell? ⟨g, 0, none⟩ = some (.int .u64 0) := block_cell hb3 rfl
          have y1 : w3.cell? ⟨g, 1, none⟩ = some (.bool false) := block_cell hb3 rfl
          have z0 : w3.frozen? ⟨g, 0, none⟩ = false := block_free hb3
          have z1 : w3.frozen? ⟨g, 1, none⟩ = false := block_free hb3
          clear hb3 hS3 HCC
          go_wp2_with fail
          go_meet
          exact Mid.read (a := ⟨L, false⟩) HFI.out HI.out.lk HK1.out (by omega) (by omega) HGF.out ((Only.setCell (HS3.out.mono (fun _ _ h => h.elim)) _ _ (fun _ => rfl))) ((setCell_heap HB3.out 0 _)) (by intro h6; exact absurd hop h6)
      case rest =>
        obtain ⟨tb2, L2, E2, T2, an, hfi, hlk, hbg, hans, hO, hft⟩ := hcut
        obtain ⟨w3, rfl⟩ : ∃ w3, w3 = wc := ⟨_, rfl⟩
        have HF2 := Lib.hid hfi
        have HX2 : Hid (Lk T2 (mAt l (k + 1)).1 ∧ Ans (mAt l k) s an) := Lib.hid ⟨hlk, hans⟩
        have HBG := Lib.hid hbg
        have HO2 := Lib.hid hO
        have HFT := Lib.hid hft
        have y0 : w3.cell? ⟨g, 0, none⟩ = some (.int .u64 (an.n : Int)) := block_cell hbg rfl
        have y1 : w3.cell? ⟨g, 1, none⟩ = some (.bool an.yes) := block_cell hbg rfl
        have HOW : Hid (Own 45 2 w3 oa k oc (R.flatMap anc)) := Lib.hid ((HI.out.out.keep HS1.out (fun _ _ => id)).keep hO (fun j hj h => by
          rcases h with h | h
          · exact HI.out.apart j hj h
          · have := HI.out.out.lt j hj; have := HSZ.out; omega))
        clear hfi hlk hbg hans hO hft c0 c1 c2
        go_wp2_with (at_builtin; refine wpList_append (k + 1) (R.flatMap anc ++ anc an) rfl _ _ _ _ rfl slAn rfl (HOW.out.keep (S := fun _ => False) (by repeat (first | exact Only.refl _ _ | apply Only.alloc)) (fun _ _ => id)) rfl (Src.row (size := 2) (cs := #[.int .u64 (an.n : Int), .bool an.yes]) (t := 45) (fr := (0, 0)) Try.underlying39 (heap_alloc_new' _ _ _ (by simp)) 1 1 rfl (by simp [Value.oneCell'])) rfl rfl (by unfold maxLen; omega) (by omega) ?_)
        intro oa2 oc2 w20 hG
        have hO20 : Only (At oa) w3 w20 := Only.trans (S := At oa) ((Only.refl (At oa) w3).alloc _) hG.only (fun _ _ h => h)
        have HINV : Hid (Inv H w w20 ob l (k + 1) oa2 oc2 (R ++ [an]) tb2 L2 E2 T2) := Lib.hid (by
          have hz := HSZ.out
          have hs1 := HS1.out.size
          have hs2 := HO2.out.size
          have hs0 := HI.out.same.size
          have hno : ∀ j, At oa j → ¬ Fi.foot ob tb2 T2 j := fun j hj hf => by
            rcases HFT.out j hf with h | h
            · exact HI.out.apart j hj h
            · have := HI.out.out.lt j hj; omega
          refine ⟨HF2.out.keep hO20 (fun j hj h => hno j h hj), HX2.out.1, by rw [List.flatMap_append]; simpa using hG.own, by rw [List.length_append, HI.out.len]; rfl, fun i a t ha ht => ?_, fun j hj => ?_, fun j hj hf => ?_, ?_⟩
          · by_cases hi : i < k
            · rw [List.getElem?_append_left (by rw [HI.out.len]; exact hi)] at ha
              exact HI.out.said i a t ha ht
            · have hik : i = k := by
                have := (List.getElem?_eq_some_iff.1 ha).1
                rw [List.length_append, HI.out.len] at this
                simp at this; omega
              subst hik
              rw [List.getElem?_append_right (by rw [HI.out.len]; exact Nat.le_refl _), HI.out.len, Nat.sub_self] at ha
              simp at ha
              subst ha
              rw [HSK.out] at ht
              cases ht
              exact HX2.out.2
          · rcases hj with hj | hj
            · rcases HFT.out j hj with h | h
              · exact HI.out.old j (.inl h)
              · omega
            · rcases hG.fresh j hj with h | h
              · exact HI.out.old j (.inr h)
              · have h1 : w3.heap.size + 1 ≤ j := by simpa using h
                omega
          · rcases hG.fresh j hj with h | h
            · exact hno j h hf
            · have h1 : w3.heap.size + 1 ≤ j := by simpa using h
              have := HF2.out.lt j hf
              omega
          · have h1 : Only (fun j => w.heap.size ≤ j) wr w3 := Only.trans (HS1.out.mono (fun _ _ h => h.elim)) HO2.out (fun j _ h => by
              rcases h with h | h
              · exact HI.out.old j (.inl h)
              · omega)
            have h2 : Only (fun j => w.heap.size ≤ j) wr w20 := Only.trans h1 hO20 (fun j _ h => HI.out.old j (.inr h))
            exact Only.trans HI.out.same h2 (fun j hj h => by omega))
        clear hG hO20 y0 y1
        go_wp2_with fail
        go_roundw
        case rel => exact ⟨k + 1, oa2, oc2, _, tb2, L2, E2, T2, by omega, by go_num, rfl, HINV.out⟩
        case measure => simp [intOf]; omega
    · obtain rfl : k = n := by omega
      go_wp2_with fail
      go_ret
      exact ⟨oa, oc, R, rfl, ⟨HI.out.out.rd, HI.out.len⟩, HI.out.said, HI.out.same⟩
end Go.Proofs.Ytpccodjmjgfloaa.fi
