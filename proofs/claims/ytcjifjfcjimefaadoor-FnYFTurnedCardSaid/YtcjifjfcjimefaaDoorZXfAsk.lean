/-
  Get, Exists, Insert of an x-fast trie.
-/
import Derived.Test.YtcjifjfcjimefaaDoorZXfSet
import Derived.Deep.LoopGhost
namespace Go.Proofs.YtcjifjfcjimefaaDoor.xf
open Go.RowKit Go.Proofs.YtcjifjfcjimefaaDoor.base Go.Proofs.YtcjifjfcjimefaaDoor.heap Go.Proofs.YtcjifjfcjimefaaDoor.rows Go.Proofs.YtcjifjfcjimefaaDoor.mapn
set_option linter.unusedVariables false
variable [Inhabited Kd]

set_option maxRecDepth 100000 in
theorem getC (w : World) (tb : Nat) (O : Nat → Prop) (L : List It) (m x : Nat) (h : Tr w tb O L m) (hx : x < 2 ^ m) : Calls Tryd.prog 34 #[op (some tb), .int .u64 (x : Int)] w (SayP (ans (fnd L x)) w) := by
  obtain ⟨S, lb, root, md, mn, mx, rfl, h2, h3, h4, h5, h6, h7⟩ := h
  have t0 : w.cell? ⟨tb, 0, none⟩ = some (.slice (some ⟨lb, 0, none⟩) S.m S.m) := block_cell h2.obj.obj rfl
  have t3 : w.cell? ⟨tb, 3, none⟩ = some (.int .u8 (S.m : Int)) := block_cell h2.obj.obj rfl
  have lt := lt_of_heap h2.obj.obj
  obtain ⟨hm2, hm64⟩ := h2.ok.m2
  obtain ⟨mi, hmi⟩ : ∃ mi, S.m - 1 = mi := ⟨_, rfl⟩
  have hmi1 : mi < S.m := by omega
  have hu : ((S.m : Int) - 1) = (mi : Int) := by omega
  have hlook : ∀ n, (Instr.lookup 109 (.map (some (md mi))) (.int .u64 (x : Int)) false).run Tryd.prog (w.drewN n) = .ok (op (S.lk S.m x)) (w.drewN n) := fun n => by
    have := (h2.lay.still ((Only.refl _ w).drewN n)).look hmi1 hx false
    rw [show mi + 1 = S.m by omega, cut_full, pre_full] at this
    exact this
  have c0 := h2.lay.row mi hmi1
  have hlb := h2.lay.lb
  have hmm : (mi : Int) < (S.m : Int) := by omega
  by_cases hK : S.K x
  · obtain ⟨b, hb⟩ := hK.get
    have n0 := (h2.mem.leaf hb).e
    have nl := (h2.mem.leaf hb).lt
    rw [fnd_some h3 hK]
    rw [hb] at hlook
    have hlook' : ∀ n, (Instr.lookup 109 (.map (some (md mi))) (.int .u64 (x : Int)) false).run Tryd.prog (w.drewN n) = .ok (.pointer (some ⟨b, 0, none⟩)) (w.drewN n) := hlook
    clear h2 h3 h4 h5 h6 h7 hK hb hlook hmi
    show Calls Tryd.prog 34 #[pb tb, .int .u64 (x : Int)] w _
    go_enter Tryd.func34, Tryd.ntmps34
    go_upto_region 1 with fail
    go_quiet (fail)
    go_wp2_with fail
    go_ret
    exact ⟨rfl, (Only.refl _ w).drewN _⟩
  · have hb : S.lk S.m x = none := Classical.byContradiction hK
    rw [fnd_none h3 hK]
    rw [hb] at hlook
    have hlook' : ∀ n, (Instr.lookup 109 (.map (some (md mi))) (.int .u64 (x : Int)) false).run Tryd.prog (w.drewN n) = .ok (.pointer none) (w.drewN n) := hlook
    clear h2 h3 h4 h5 h6 h7 hK hb hlook hmi
    show Calls Tryd.prog 34 #[pb tb, .int .u64 (x : Int)] w _
    go_enter Tryd.func34, Tryd.ntmps34
    go_upto_region 1 with fail
    go_quiet (fail)
    go_wp2_with fail
    go_ret
    exact ⟨rfl, (Only.refl _ w).drewN _⟩
set_option maxRecDepth 100000 in
theorem existsC (w : World) (tb : Nat) (O : Nat → Prop) (L : List It) (m x : Nat) (h : Tr w tb O L m) (hx : x < 2 ^ m) : Calls Tryd.prog 35 #[op (some tb), .int .u64 (x : Int)] w (SayP (.bool (fnd L x).isSome) w) := by
  obtain ⟨S, lb, root, md, mn, mx, rfl, h2, h3, h4, h5, h6, h7⟩ := h
  have t0 : w.cell? ⟨tb, 0, none⟩ = some (.slice (some ⟨lb, 0, none⟩) S.m S.m) := block_cell h2.obj.obj rfl
  have t3 : w.cell? ⟨tb, 3, none⟩ = some (.int .u8 (S.m : Int)) := block_cell h2.obj.obj rfl
  have lt := lt_of_heap h2.obj.obj
  obtain ⟨hm2, hm64⟩ := h2.ok.m2
  obtain ⟨mi, hmi⟩ : ∃ mi, S.m - 1 = mi := ⟨_, rfl⟩
  have hmi1 : mi < S.m := by omega
  have hu : ((S.m : Int) - 1) = (mi : Int) := by omega
  have hlook : ∀ n, (Instr.lookup 109 (.map (some (md mi))) (.int .u64 (x : Int)) true).run Tryd.prog (w.drewN n) = .ok (.tuple #[op (S.lk S.m x), .bool (S.lk S.m x).isSome]) (w.drewN n) := fun n => by
    have := (h2.lay.still ((Only.refl _ w).drewN n)).look hmi1 hx true
    rw [show mi + 1 = S.m by omega, cut_full, pre_full] at this
    exact this
  have c0 := h2.lay.row mi hmi1
  have hlb := h2.lay.lb
  have hmm : (mi : Int) < (S.m : Int) := by omega
  have he : (fnd L x).isSome = (S.lk S.m x).isSome := by
    by_cases hK : S.K x
    · obtain ⟨b, hb⟩ := hK.get
      rw [fnd_some h3 hK, hb]; rfl
    · have hb : S.lk S.m x = none := Classical.byContradiction hK
      rw [fnd_none h3 hK, hb]; rfl
  rw [he]
  obtain ⟨o, ho⟩ : ∃ o, op (S.lk S.m x) = o := ⟨_, rfl⟩
  obtain ⟨yes, hyes⟩ : ∃ o, (S.lk S.m x).isSome = o := ⟨_, rfl⟩
  rw [ho, hyes] at hlook
  rw [hyes]
  clear h2 h3 h4 h5 h6 h7 hmi ho hyes he
  show Calls Tryd.prog 35 #[pb tb, .int .u64 (x : Int)] w _
  go_enter Tryd.func35, Tryd.ntmps35
  go_upto_region 1 with fail
  go_quiet (fail)
  go_wp2_with fail
  go_ret
  exact ⟨rfl, (Only.refl _ w).drewN _⟩
/-- the list with entries -/
def puts (L : List It) (l : List It) : List It := l.foldl (fun L y => put L y.1 y.2) L
omit [Inhabited Kd] in
theorem puts_snoc (L l : List It) (y : It) : puts L (l ++ [y]) = put (puts L l) y.1 y.2 := by simp [puts]
omit [Inhabited Kd] in
theorem put_le (L : List It) (k : Nat) (v : Int) : (put L k v).length ≤ L.length + 1 := by
  induction L with
  | nil => simp [put]
  | cons y r ih =>
    unfold put
    split
    · simp
    · split
      · simp
      · simp; omega
omit [Inhabited Kd] in
theorem puts_le (L l : List It) : (puts L l).length ≤ L.length + l.length := by
  induction l generalizing L with
  | nil => simp [puts]
  | cons y r ih =>
    have h1 := ih (put L y.1 y.2)
    have h2 := put_le L y.1 y.2
    show (puts (put L y.1 y.2) r).length ≤ _
    rw [List.length_cons]; omega
/-- an entry as a value -/
def itv (y : It) : Value := item y.1 y.2
/-- in the course of the inserts -/
def Gone (w wr : World) (tb : Nat) (O : Nat → Prop) (L : List It) (m : Nat) : Prop := ∃ O', Tr wr tb O' L m ∧ Only O w wr ∧ ∀ k, O' k → O k ∨ w.heap.size ≤ k
theorem Gone.next {w wr w' : World} {tb m : Nat} {O O' : Nat → Prop} {L' : List It} {e : Ending} (g2 : Only O w wr) (g3 : ∀ k, O' k → O k ∨ w.heap.size ≤ k) (h : PutP wr tb O' L' m e w') : Gone w w' tb O L' m := by
  obtain ⟨_, O2, h1, h2, h3⟩ := h
  refine ⟨O2, h1, Only.trans (S := O) g2 h2 (fun k hk h => (g3 k h).resolve_right (by omega)), fun k hk => ?_⟩
  rcases h3 k hk with h | h
  · exact g3 k h
  · have := g2.size; exact .inr (by omega)
set_option maxRecDepth 100000 in
theorem insertsC (w : World) (tb : Nat) (O : Nat → Prop) (L : List It) (m : Nat) (a : Option Addr) (n cap : Nat) (l : List It) (h : Tr w tb O L m) (hT : Tabs w) (hR : RL itv w a n cap l) (ha : ∀ k, At a k → ¬ O k) (hnum : L.length + l.length < 1000000) (hx : ∀ y ∈ l, y.1 < 2 ^ m) (hKO : ∀ y ∈ l, okK w y.1 y.2 ∧ ∀ b, blkK y.2 b → ¬ O b) :
    Calls Tryd.prog 32 #[op (some tb), .slice a n cap] w (fun e w' => e = .returned (.tuple #[]) ∧ Gone w w' tb O (puts L l) m) := by
  have HT := Lib.hid hT
  have HR := Lib.hid hR
  have HA := Lib.hid ha
  have HN := Lib.hid hnum
  have HX := Lib.hid hx
  have HKO := Lib.hid hKO
  have HO : Hid (∀ k, O k → 2 ≤ k) := Lib.hid (by
    obtain ⟨S, lb, root, md, mn, mx, rfl, h2, h3, h4, h5, h6, h7⟩ := h
    exact fun k hk => (h6 k hk).1)
  have HG : Hid (Gone w w tb O (puts L (l.take 0)) m) := Lib.hid ⟨O, h, Only.refl _ _, fun k hk => .inl hk⟩
  have bd := hR.bound
  have hln := hR.2
  clear h hT hR ha hnum hx hKO
  show Calls Tryd.prog 32 #[pb tb, .slice a n cap] w _
  go_enter Tryd.func32, Tryd.ntmps32
  go_wp2_with fail
  go_loopw [8] (fun i wr => ∃ j : Nat, i = .int .i64 (j : Int) ∧ j ≤ n ∧ Hid (Gone w wr tb O (puts L (l.take j)) m)) (fun i _ => n - (intOf i).toNat)
  case atStart => exact ⟨0, rfl, Nat.zero_le _, HG⟩
  case round =>
    clear HG
    obtain ⟨j, rfl, hj, HGJ⟩ := hrel
    by_cases hlt : j < n
    · have hlt' : (j : Int) < (n : Int) := by omega
      obtain ⟨y, hy⟩ := HR.out.get hlt
      obtain ⟨O', g1, g2, g3⟩ := HGJ.out
      have HR2 := HR.out.keep g2 HA.out
      obtain ⟨b, off, rfl, hb, hcell⟩ := HR2.at (by omega)
      have e0 : wr.cell? ⟨b, off + j, none⟩ = some (item y.1 y.2) := hcell j y hy
      have HC := Lib.hid (insertC wr tb O' (puts L (l.take j)) m y.1 y.2 g1 (HT.out.keep g2 (fun k hk h => by have := HO.out k h; omega)) (by
        have := puts_le L (l.take j)
        have h9 := HN.out
        rw [List.length_take] at this
        omega) (HX.out y (List.mem_of_getElem? hy)) (by
        have h8 := HKO.out y (List.mem_of_getElem? hy)
        exact ⟨h8.1.keep g2 h8.2, fun b hb ho => by
          rcases g3 b ho with h | h
          · exact h8.2 b hb h
          · have := h8.1.lt hb; omega⟩))
      have HNX : Hid (∀ e w', PutP wr tb O' (put (puts L (l.take j)) y.1 y.2) m e w' → e = .returned (.tuple #[]) ∧ Gone w w' tb O (puts L (l.take (j + 1))) m) := Lib.hid (fun e w' h => ⟨h.1, by
        rw [take_snoc l j y hy, puts_snoc]
        exact Gone.next g2 g3 h⟩)
      clear g1 g2 g3 hcell HR2 hy HGJ
      go_wp2_with fail
      refine HC.out.mono ?_
      intro e w1 h1
      obtain ⟨rfl, HG1⟩ := HNX.out _ _ h1
      have HG2 := Lib.hid HG1
      clear HG1 h1
      go_wp2_with fail
      go_roundw
      case rel => exact ⟨j + 1, by go_num, by omega, HG2⟩
      case measure => simp [intOf]; omega
    · have hlt' : ¬ (j : Int) < (n : Int) := by omega
      obtain rfl : j = n := by omega
      go_wp2_with fail
      go_end0
      refine ⟨rfl, ?_⟩
      have := HGJ.out
      rwa [List.take_of_length_le (by omega)] at this
end Go.Proofs.YtcjifjfcjimefaaDoor.xf
