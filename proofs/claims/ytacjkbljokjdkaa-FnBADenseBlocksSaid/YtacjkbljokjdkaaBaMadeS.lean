/-
  laws.baMade: a sparse array.
-/
import Derived.Test.YtacjkbljokjdkaaBaMade
import Derived.Test.YtacjkbljokjdkaaBaSpAsk
namespace Go.Proofs.Ytacjkbljokjdkaa.ba
open Go.RowKit Go.Proofs.Ytacjkbljokjdkaa.base Go.Proofs.Ytacjkbljokjdkaa.heap Go.Proofs.Ytacjkbljokjdkaa.rows Go.Proofs.Ytacjkbljokjdkaa.bit Go.Proofs.Ytacjkbljokjdkaa.bs
set_option linter.unusedVariables false
set_option maxRecDepth 100000 in
set_option maxHeartbeats 3200000 in
theorem baMadeS (size on : Nat) (a : Option Addr) (n cap : Nat) (l : List Nat) (w : World) (hl : RL uv w a n cap l) (hon : on < 1000) :
    Calls Try.prog 19 #[.bool false, .int .u16 (size : Int), .slice a n cap, .int .i64 (on : Int)] w (MadeQ false 0 0 on (l.take 40) w) := by
  have hbd := hl.bound
  have HR := Lib.hid hl
  obtain ⟨s, hs⟩ : ∃ s, w.heap.size = s := ⟨_, rfl⟩
  obtain ⟨p, hp⟩ : ∃ p, s + 1 = p := ⟨_, rfl⟩
  obtain ⟨r, hr⟩ : ∃ r, p + 1 = r := ⟨_, rfl⟩
  have HSP : Hid (w.heap.size ≤ s ∧ w.heap.size ≤ p ∧ s ≠ p ∧ w.heap.size ≤ r ∧ r ≠ s ∧ r ≠ p) := Lib.hid (by omega)
  obtain ⟨w1, hw1⟩ : ∃ w1, w1 = (((w.alloc (.cells #[.bool false, .int .u64 0, .slice none 0 0] 29)).alloc (.cells #[.bool false, .int .u64 0, .slice none 0 0] 29)).alloc (.cells #[.int .i64 2, .int .i64 0, .int .i64 0, .int .u64 0, .int .i64 0, .bool false] 27)) := ⟨_, rfl⟩
  have hA : Same w w1 := by rw [hw1]; exact (((Only.refl _ _).alloc _).alloc _).alloc _
  have h1 : w1.heap[s]? = some (.cells #[.bool false, .int .u64 0, .slice none 0 0] 29 (0, 0)) := by rw [hw1]; exact ((Only.refl (fun _ => False) _).alloc _).obj (by rw [← hs]; exact new_old' w _ _) id
  have h2 : w1.heap[p]? = some (.cells #[.bool false, .int .u64 0, .slice none 0 0] 29 (0, 0)) := by rw [hw1]; exact ((Only.refl (fun _ => False) _).alloc _).obj (heap_alloc_new' _ _ _ (by rw [World.size_alloc, ← hp, ← hs])) id
  have h3 : w1.heap[r]? = some (.cells #[.int .i64 2, .int .i64 0, .int .i64 0, .int .u64 0, .int .i64 0, .bool false] 27 (0, 0)) := by rw [hw1]; exact heap_alloc_new' _ _ _ (by rw [World.size_alloc, World.size_alloc, ← hr, ← hp, ← hs])
  have HW1 : Hid (Same w w1 ∧ w1.heap[s]? = _ ∧ w1.heap[p]? = _ ∧ w1.heap[r]? = _) := Lib.hid ⟨hA, h1, h2, h3⟩
  obtain ⟨q, hq⟩ : ∃ q, q = 0 := ⟨_, rfl⟩
  obtain ⟨m, hm⟩ : ∃ m, m = 0 := ⟨_, rfl⟩
  have HQ0 : Hid (q = 0 ∧ m = 0) := Lib.hid ⟨hq, hm⟩
  have HE := Lib.hid (And.intro hs (And.intro hp (And.intro hr hw1)))
  clear hl hA h1 h2 h3 hq hm hs hp hr hw1
  go_enter Try.func19, Try.ntmps19
  go_upto_region 2 with fail
  rw [← HE.out.2.2.2, HE.out.1, HE.out.2.1, HE.out.2.2.1]
  have c0 : w1.cell? ⟨r, 0, none⟩ = some (.int .i64 2) := block_cell HW1.out.2.2.2 rfl
  have c1 : w1.cell? ⟨r, 1, none⟩ = some (.int .i64 0) := block_cell HW1.out.2.2.2 rfl
  have c2 : w1.cell? ⟨r, 2, none⟩ = some (.int .i64 0) := block_cell HW1.out.2.2.2 rfl
  have c3 : w1.cell? ⟨r, 3, none⟩ = some (.int .u64 0) := block_cell HW1.out.2.2.2 rfl
  have c4 : w1.cell? ⟨r, 4, none⟩ = some (.int .i64 0) := block_cell HW1.out.2.2.2 rfl
  have c5 : w1.cell? ⟨r, 5, none⟩ = some (.bool false) := block_cell HW1.out.2.2.2 rfl
  clear HE
  go_wp2_with fail
  clear c0 c1 c2 c3 c4 c5
  go_loopw [13, 14] (fun o i wr => ∃ (k j : Nat) (ta sa : Option Addr) (tc sc : Nat), o = .slice ta (k + 1) tc ∧ i = .int .i64 (k : Int) ∧ k ≤ n ∧ k ≤ 40 ∧ Hid (Mk w wr s p false 0 0 on l k ta tc sa j sc)) (fun _ i _ => n - (intOf i).toNat)
  case atStart =>
    have hM := Mk.start (W5 := w1) (m := 0) (q := 0) (dense := false) (on := on) (l := l) HW1.out.1 HW1.out.2.1 (Only.refl _ _) HW1.out.2.2.1 HSP.out rfl
    exact ⟨0, 0, some ⟨w1.heap.size, 0, none⟩, none, 1, 0, rfl, rfl, Nat.zero_le _, by omega, Lib.hid hM⟩
  case round =>
    obtain ⟨k, j, ta, sa, tc, sc, rfl, rfl, hk, hk40, HM⟩ := hrel
    clear HW1
    have hbo := HM.out.st.bound
    have hbs := HM.out.set.bound
    by_cases hlt : k < n ∧ k < 40
    · have hlt' : (k : Int) < (n : Int) := by omega
      have hlt40 : (k : Int) < 40 := by omega
      have hk0 : (0 : Int) ≤ (k : Int) := by omega
      obtain ⟨b1, o1, ha1, hb1, hc1⟩ := (HR.out.still HM.out.same).at (by omega)
      obtain ⟨x, hx⟩ := HR.out.get hlt.1
      have g1 := hc1 k x hx
      have HX := Lib.hid hx
      subst ha1
      clear hc1 hx
      obtain ⟨y, hy⟩ : ∃ y : Nat, x % 1152921504606846976 = y := ⟨_, rfl⟩
      have hy60 : y < 1152921504606846976 := by omega
      have e4 : (x : Int) % 1152921504606846976 = (y : Int) := by omega
      have e4w : IntKind.u64.wrap (y : Int) = (y : Int) := by rw [IntKind.wrap_u64]; omega
      have HZ : Hid (cutB false 0 x = y) := Lib.hid (by unfold cutB; rw [if_neg (by simp), hy])
      clear hy
      go_wp2_with (at_builtin; refine wpList_append (k + 1 + 1) ((madeT false 0 0 on (l.take k)).flatMap stc ++ stc { op := 3, on := on, k := y }) rfl _ _ _ _ rfl slStp rfl (HM.out.st.1.keep (S := fun _ => False) (by repeat (first | exact Only.refl _ _ | apply Only.alloc | apply Only.drew)) (fun _ _ => id)) rfl (Src.row (size := 6) (cs := #[.int .i64 3, .int .i64 (on : Int), .int .i64 0, .int .u64 (y : Int), .int .i64 0, .bool false]) (t := 27) (fr := (0, 0)) Try.underlying41 (by exact heap_alloc_new _ _) 1 1 rfl (by simp [Value.oneCell'])) rfl rfl (by unfold maxLen; omega) (by omega) ?_)
      intro ta2 tc2 w2 hG
      have hO2 : Only (At ta) wr w2 := Only.trans (S := At ta) ((Only.refl (At ta) wr).alloc _) hG.only (fun _ _ h => h)
      have hap : ¬ At ta p := fun h => (HM.out.nt p h).2.1 rfl
      have hb2 := hO2.obj HM.out.arr hap
      have g2 : w2.cell? ⟨p, 2, none⟩ = some (.slice sa j sc) := block_cell hb2 rfl
      have hou : OU w2 sa j sc (madeS false 0 (l.take k)) := ⟨HM.out.set.1.keep hO2 (fun i hi h => (HM.out.nt i h).2.2 hi), HM.out.set.2⟩
      have hjl : j ≤ 1000000 := by
        have h1 := madeS_len false 0 (l.take k)
        have h2 := HM.out.set.2
        have h3 : (l.take k).length ≤ k := by rw [List.length_take]; omega
        omega
      have HPUT : Hid (Calls Try.prog 15 #[.slice sa j sc, .int .u64 (y : Int)] w2 (PutP (put (madeS false 0 (l.take k)) y) sa w2)) := Lib.hid (baPut hou (madeS_asc _ _ _) y hjl)
      have HGG := Lib.hid hG
      have HB2 := Lib.hid hb2
      clear hG hO2 hap hb2 hou g1
      go_wp2_with (go_at_call 15; refine HPUT.out.mono ?_)
      rintro e w3 ⟨sa2, sc2, rfl, hP, hS3, hF3⟩
      have HP3 := Lib.hid (And.intro hP (And.intro hS3 hF3))
      have hb3 := hS3.obj HB2.out id
      have f3 : ∀ i, w3.frozen? ⟨p, i, none⟩ = false := fun i => block_free hb3
      have g3 : w3.cell? ⟨p, 2, none⟩ = some (.slice sa j sc) := block_cell hb3 rfl
      obtain ⟨j2, hj2⟩ : ∃ j2, (put (madeS false 0 (l.take k)) y).length = j2 := ⟨_, rfl⟩
      rw [hj2] at HP3
      rw [hj2]
      have HFIN : Hid (∀ w4, w4 = w3.setCell ⟨p, 2, none⟩ (.slice sa2 j2 sc2) → Mk w w4 s p false 0 0 on l (k + 1) ta2 tc2 sa2 j2 sc2) := Lib.hid (fun w4 h4 => HM.out.step HX.out (by rw [HZ.out]; exact HGG.out) (by rw [HZ.out]; exact HP3.out.1) HP3.out.2.1 HP3.out.2.2 h4)
      clear hP hS3 hF3 hb3 HPUT g2 hj2
      go_wp2_with fail
      go_roundw
      case rel => exact ⟨k + 1, j2, ta2, sa2, tc2, sc2, rfl, by go_num, by omega, by omega, Lib.hid (HFIN.out _ rfl)⟩
      case measure => simp [intOf]; omega
    · have HT : Hid ((l.take 40).length = k ∧ l.take k = l.take 40) := Lib.hid (by
        have h1 := HR.out.2
        rw [List.length_take]
        refine ⟨by omega, ?_⟩
        by_cases e : k = 40
        · rw [e]
        · have : k = n := by omega
          rw [List.take_of_length_le (by omega), List.take_of_length_le (by omega)])
      have c0 : wr.cell? ⟨p, 0, none⟩ = some (.bool false) := block_cell HM.out.arr rfl
      have c1 : wr.cell? ⟨p, 1, none⟩ = some (.int .u64 0) := block_cell HM.out.arr rfl
      have c2 : wr.cell? ⟨p, 2, none⟩ = some (.slice sa j sc) := block_cell HM.out.arr rfl
      have d0 : wr.cell? ⟨s, 0, none⟩ = some (.bool false) := block_cell HM.out.res rfl
      have d1 : wr.cell? ⟨s, 1, none⟩ = some (.int .u64 0) := block_cell HM.out.res rfl
      have d2 : wr.cell? ⟨s, 2, none⟩ = some (.slice none 0 0) := block_cell HM.out.res rfl
      have f2 : ∀ i, wr.frozen? ⟨s, i, none⟩ = false := fun i => block_free HM.out.res
      have HQ : Hid (∀ w', Only (fun i => i = s) wr w' → MadeQ false 0 0 on (l.take 40) w (.returned (.tuple #[.slice ta (k + 1) tc, .agg #[.bool false, .int .u64 0, .slice sa j sc]])) w') := Lib.hid (fun w' hw => by
        have h1 := HM.out.st.keep hw (fun i hi e => (HM.out.nt i hi).1 e)
        have h2 : OU w' sa j sc (madeS false 0 (l.take k)) := ⟨HM.out.set.1.keep hw (fun i hi e => (HM.out.ns i hi).1 e), HM.out.set.2⟩
        rw [HT.out.2] at h1 h2
        have hj := h2.2
        have hk' := HT.out.1
        refine ⟨ta, tc, sa, sc, by rw [hj, hk']; rfl, by rw [hk']; exact h1, by rw [hj]; exact h2, new_only HM.out.same hw (fun i hi => by rw [hi]; exact HM.out.sz.1), fun i => ⟨fun hi => ⟨HM.out.new i (.inl hi), (HM.out.nt i hi).2.2⟩, fun hi => HM.out.new i (.inr hi)⟩⟩)
      have hO : ∀ v1 v2 v3 : Value, Only (fun i => i = s) wr (((wr.setCell ⟨s, 0, none⟩ v1).setCell ⟨s, 1, none⟩ v2).setCell ⟨s, 2, none⟩ v3) := fun v1 v2 v3 => (((Only.refl (fun i => i = s) wr).setCell ⟨s, 0, none⟩ v1 (fun _ => rfl)).setCell ⟨s, 1, none⟩ v2 (fun _ => rfl)).setCell ⟨s, 2, none⟩ v3 (fun _ => rfl)
      have HO := Lib.hid hO
      clear hO
      by_cases hkn : k < n
      · have hlt' : (k : Int) < (n : Int) := by omega
        have hlt40 : ¬ (k : Int) < 40 := by omega
        go_wp2_with fail
        go_region
        all_goals
          go_wp2_with fail
          exact ret_made rfl rfl (setCell_heap (setCell_heap (setCell_heap HM.out.res 0 _) 1 _) 2 _) (HQ.out _ (HO.out _ _ _).drew)
      · have hlt' : ¬ (k : Int) < (n : Int) := by omega
        go_wp2_with fail
        go_region
        all_goals
          go_wp2_with fail
          exact ret_made rfl rfl (setCell_heap (setCell_heap (setCell_heap HM.out.res 0 _) 1 _) 2 _) (HQ.out _ (HO.out _ _ _).drew)
end Go.Proofs.Ytacjkbljokjdkaa.ba
