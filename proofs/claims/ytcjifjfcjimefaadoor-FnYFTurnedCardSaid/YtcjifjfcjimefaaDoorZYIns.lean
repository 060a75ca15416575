/-
  Insert of a y-fast trie; a new one.
-/
import Derived.Test.YtcjifjfcjimefaaDoorZYPut
namespace Go.Proofs.YtcjifjfcjimefaaDoor.yf
open Go.RowKit Go.Proofs.YtcjifjfcjimefaaDoor.base Go.Proofs.YtcjifjfcjimefaaDoor.heap Go.Proofs.YtcjifjfcjimefaaDoor.rows
open Go.Proofs.YtcjifjfcjimefaaDoor.xf hiding Own Tr Tr.keep Tr.still insertC getC lenC insertsC newC PutP Gone FreshP
set_option linter.unusedVariables false

theorem mkI (k : Nat) (hk : k ≤ 100000) (w : World) : (Instr.makeSlice 68 (.int .i64 0) (.int .i64 (k : Int))).run Tryd.prog w = .ok (.slice (some ⟨w.heap.size, 0, none⟩) 0 k) (w.alloc (.cells (madeCells (Value.nilIface).cells (k * 1)) 73)) := by
  obtain ⟨i, hi, h1, h2, h3⟩ := info_parts (show (Tryd.prog.info? 73).map (fun i => (i.zero, i.size, i.bytes)) = some (some .nilIface, 1, 16) by kernel_rfl)
  have h := run_make (P := Tryd.prog) w 68 73 i .nilIface Tryd.underlying68 hi h1 .i64 .i64 0 (k : Int) (by omega) (by omega) (by rw [h3]; omega) (by omega)
  rw [h2, Int.toNat_natCast] at h
  exact h
theorem ansE_one (o : Option It) : (ansE o).oneCell' = true := by cases o <;> rfl
/-- in the course of the inserts -/
structure Gone (w wr : World) (yb : Nat) (O : Nat → Prop) (L : List It) (m : Nat) (a : Option Addr) (n c : Nat) (R : List (Option It)) : Prop where
  tr : ∃ O', Tr wr yb O' L m ∧ (∀ k, O' k → O k ∨ w.heap.size ≤ k) ∧ ∀ k, At a k → ¬ O' k
  only : Only O w wr
  row : OL 73 ansE wr a n c R
  new : ∀ k, At a k → w.heap.size ≤ k
theorem Gone.next {w wr w2 wk w3 : World} {yb m n c c2 x : Nat} {v : Int} {O O' : Nat → Prop} {L : List It} {a a2 : Option Addr} {R : List (Option It)} {e : Ending} (h : Gone w wr yb O L m a n c R) (h1 : Tr wr yb O' L m) (h2 : ∀ k, O' k → O k ∨ w.heap.size ≤ k) (h3 : ∀ k, At a k → ¬ O' k)
    (hP : PutP wr yb O' L m x v e w2) (hk : Same w2 wk) (hG : Grew 73 1 wk w3 a a2 1 (n + 1) c c2 (R.map ansE ++ [ansE (fnd L x)])) : Gone w w3 yb O (put L x v) m a2 (n + 1) c2 (R ++ [fnd L x]) := by
  obtain ⟨_, O2, p1, p2, p3⟩ := hP
  have z0 := h.only.size
  have z1 := p2.size
  have z2 := hk.size
  have ha : ∀ k, At a k → k < wr.heap.size := h.row.1.lt
  have hap : ∀ k, At a k → ¬ O2 k := fun k hk e => by
    rcases p3 k e with h' | h'
    · exact h3 k hk h'
    · have := ha k hk; omega
  have hO2 : ∀ k, O2 k → k < w2.heap.size := fun k hk => (p1.lt hk).2
  have hfr : ∀ k, At a2 k → At a k ∨ wk.heap.size ≤ k := hG.fresh
  refine ⟨⟨O2, (p1.still hk).keep hG.only (fun k hk e => hap k e hk), fun k hk => ?_, fun k hk e => ?_⟩, ?_, ⟨?_, by rw [List.length_append, h.row.2]; rfl⟩, fun k hk => ?_⟩
  · rcases p3 k hk with h' | h'
    · exact h2 k h'
    · exact .inr (by omega)
  · rcases hfr k hk with h' | h'
    · exact hap k h' e
    · have := hO2 k e; omega
  · refine Only.trans (S := O) h.only (Only.trans (S := fun k => O' k ∨ At a k) (p2.mono (fun _ _ h => .inl h)) (Only.trans (S := fun k => O' k ∨ At a k) (hk.mono (fun _ _ f => f.elim)) (hG.only.mono (fun _ _ h => .inr h)) (fun _ _ h => h)) (fun _ _ h => h)) (fun k hk e => ?_)
    rcases e with e | e
    · exact (h2 k e).resolve_right (by omega)
    · have := h.new k e; omega
  · rw [List.map_append]
    exact hG.own
  · rcases hfr k hk with h' | h'
    · exact h.new k h'
    · omega
set_option maxRecDepth 100000 in
set_option maxHeartbeats 1600000 in
theorem insertsC (w : World) (yb : Nat) (O : Nat → Prop) (L : List It) (m : Nat) (a : Option Addr) (n cap : Nat) (l : List It) (h : Tr w yb O L m) (hT : Tabs w) (hR : RL entv w a n cap l) (ha : ∀ k, At a k → ¬ O k) (hnum : L.length + l.length < 100000) (hx : ∀ y ∈ l, y.1 < 2 ^ m) :
    Calls Tryd.prog 23 #[op (some yb), .slice a n cap] w (fun e w' => ∃ a' c' R, e = .returned (.slice a' n c') ∧ Gone w w' yb O (puts L l) m a' n c' R) := by
  have HT := Lib.hid hT
  have HR := Lib.hid hR
  have HA := Lib.hid ha
  have HN := Lib.hid hnum
  have HX := Lib.hid hx
  have HO : Hid (∀ k, O k → 2 ≤ k ∧ k < w.heap.size) := Lib.hid (fun k hk => h.lt hk)
  have bd := hR.bound
  have hln := hR.2
  have hn5 : n ≤ 100000 := by omega
  have hmk := mkI n hn5
  obtain ⟨w1, hw1⟩ : ∃ w1, w.alloc (.cells (madeCells (Value.nilIface).cells (n * 1)) 73) = w1 := ⟨_, rfl⟩
  have hmk1 := hmk w
  rw [hw1] at hmk1
  have HG : Hid (Gone w w1 yb O (puts L (l.take 0)) m (some ⟨w.heap.size, 0, none⟩) 0 n []) := Lib.hid (by
    rw [← hw1]
    refine ⟨⟨O, h.still ((Only.refl _ _).alloc _), fun k hk => .inl hk, fun k hk e => by have e' : w.heap.size = k := hk; have := (h.lt e).2; omega⟩, (Only.refl _ _).alloc _, ⟨?_, rfl⟩, fun k hk => Nat.le_of_eq hk⟩
    have h0 := Go.Proofs.YtcjifjfcjimefaaDoor.heap.Own.made 73 1 w (madeCells (Value.nilIface).cells (n * 1)) 0 n (Nat.zero_le _) (by unfold maxLen; omega) (by simp [madeCells]) (by simp)
    simpa using h0)
  clear h hT hR ha hnum hx hmk hw1
  show Calls Tryd.prog 23 #[pb yb, .slice a n cap] w _
  go_enter Tryd.func23, Tryd.ntmps23
  go_wp2_with fail
  go_loopw [5, 13] (fun ov i wr => ∃ (j : Nat) (oa : Option Addr) (oc : Nat) (R : List (Option It)), ov = .slice oa j oc ∧ i = .int .i64 (j : Int) ∧ j ≤ n ∧ Hid (Gone w wr yb O (puts L (l.take j)) m oa j oc R)) (fun _ i _ => n - (intOf i).toNat)
  case atStart => exact ⟨0, _, n, [], rfl, rfl, Nat.zero_le _, HG⟩
  case round =>
    clear HG
    obtain ⟨j, oa, oc, R, rfl, rfl, hj, HGJ⟩ := hrel
    have hbo := HGJ.out.row.bound
    by_cases hlt : j < n
    · have hlt' : (j : Int) < (n : Int) := by omega
      obtain ⟨y, hy⟩ := HR.out.get hlt
      obtain ⟨O', g1, g2, g3⟩ := HGJ.out.tr
      have HR2 := HR.out.keep HGJ.out.only HA.out
      obtain ⟨b, off, rfl, hb, hcell⟩ := HR2.at (by omega)
      have e0 : wr.cell? ⟨b, off + j, none⟩ = some (entv y) := hcell j y hy
      have HC := Lib.hid (insertC wr yb O' (puts L (l.take j)) m y.1 y.2 g1 (HT.out.keep HGJ.out.only (fun k hk h => by have := (HO.out k h).1; omega)) (by
        have := puts_le L (l.take j)
        have h9 := HN.out
        rw [List.length_take] at this
        omega) (HX.out y (List.mem_of_getElem? hy)))
      have HGG := Lib.hid (And.intro g1 (And.intro g2 g3))
      have HY := Lib.hid hy
      clear g1 g2 g3 hcell HR2 hy
      go_wp2_with fail
      refine HC.out.mono ?_
      intro e w2 hP
      have HPP := Lib.hid hP
      obtain ⟨rfl, _⟩ := hP
      have HR2 := Lib.hid (HGJ.out.row.keep (HPP.out.2.choose_spec.2.1) (fun k hk => HGG.out.2.2 k hk))
      cases hfy : fnd (puts L (l.take j)) y.1 with
      | none =>
        have HFY := Lib.hid hfy
        rw [show ansE none = Value.nilIface from rfl]
        clear hfy HC e0
        go_wp2_with (at_builtin; refine wpList_append (j + 1) (R.map ansE ++ [Value.nilIface]) rfl _ _ _ _ rfl slEn rfl (HR2.out.1.keep (S := fun _ => False) (by repeat (first | exact Only.refl _ _ | apply Only.alloc | apply Only.drew)) (fun _ _ => id)) rfl (Src.row (size := 1) (cs := #[Value.nilIface]) (t := 73) (fr := (0, 0)) Tryd.underlying68 (by exact heap_alloc_new' _ _ _ (by simp)) 1 1 rfl (by intro u hu; simp at hu; subst hu; rfl)) rfl rfl (by unfold maxLen; omega) (by omega) ?_)
        intro oa2 oc2 w8 hG
        have HG2 : Hid (Gone w w8 yb O (puts L (l.take (j + 1))) m oa2 (j + 1) oc2 (R ++ [fnd (puts L (l.take j)) y.1])) := Lib.hid (by
          rw [take_snoc l j y HY.out, puts_snoc]
          exact HGJ.out.next HGG.out.1 HGG.out.2.1 HGG.out.2.2 HPP.out ((Only.refl _ _).alloc _) (by rw [HFY.out]; exact hG))
        clear hG HR2
        go_wp2_with fail
        go_roundw
        case rel => exact ⟨j + 1, oa2, oc2, _, rfl, by go_num, by omega, HG2⟩
        case measure => simp [intOf]; omega
      | some z =>
        have HFY := Lib.hid hfy
        rw [show ansE (some z) = Value.iface 66 (.agg #[.int .u64 (z.1 : Int), .int .i64 z.2]) from rfl]
        clear hfy HC e0
        go_wp2_with (at_builtin; refine wpList_append (j + 1) (R.map ansE ++ [Value.iface 66 (.agg #[.int .u64 (z.1 : Int), .int .i64 z.2])]) rfl _ _ _ _ rfl slEn rfl (HR2.out.1.keep (S := fun _ => False) (by repeat (first | exact Only.refl _ _ | apply Only.alloc | apply Only.drew)) (fun _ _ => id)) rfl (Src.row (size := 1) (cs := #[Value.iface 66 (.agg #[.int .u64 (z.1 : Int), .int .i64 z.2])]) (t := 73) (fr := (0, 0)) Tryd.underlying68 (by exact heap_alloc_new' _ _ _ (by simp)) 1 1 rfl (by intro u hu; simp at hu; subst hu; rfl)) rfl rfl (by unfold maxLen; omega) (by omega) ?_)
        intro oa2 oc2 w8 hG
        have HG2 : Hid (Gone w w8 yb O (puts L (l.take (j + 1))) m oa2 (j + 1) oc2 (R ++ [fnd (puts L (l.take j)) y.1])) := Lib.hid (by
          rw [take_snoc l j y HY.out, puts_snoc]
          exact HGJ.out.next HGG.out.1 HGG.out.2.1 HGG.out.2.2 HPP.out ((Only.refl _ _).alloc _) (by rw [HFY.out]; exact hG))
        clear hG HR2
        go_wp2_with fail
        go_roundw
        case rel => exact ⟨j + 1, oa2, oc2, _, rfl, by go_num, by omega, HG2⟩
        case measure => simp [intOf]; omega
    · have hlt' : ¬ (j : Int) < (n : Int) := by omega
      obtain rfl : j = n := by omega
      go_wp2_with fail
      go_ret
      refine ⟨oa, oc, rfl, R, ?_⟩
      have := HGJ.out
      rwa [List.take_of_length_le (by omega)] at this
end Go.Proofs.YtcjifjfcjimefaaDoor.yf
