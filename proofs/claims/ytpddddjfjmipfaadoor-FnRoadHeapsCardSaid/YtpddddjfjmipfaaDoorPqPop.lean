/-
  pop: the least element is taken out, the last one is put in its place and goes down.
-/
import Derived.Test.YtpddddjfjmipfaaDoorPqPush
import Derived.Deep.CutBlock
namespace Go.Proofs.YtpddddjfjmipfaaDoor.pq
open Go.RowKit Go.Proofs.YtpddddjfjmipfaaDoor.base Go.Proofs.YtpddddjfjmipfaaDoor.heap Go.Proofs.YtpddddjfjmipfaaDoor.rows
set_option linter.unusedVariables false

theorem Own.less {e size : Nat} {w : World} {a : Option Addr} {n cap : Nat} {xs : List Value} (h : Own e size w a n cap xs) {k : Nat} (hk : k ≤ n) : Own e size w a k cap (xs.take (k * size)) :=
  ⟨by rw [List.length_take, h.len]; exact Nat.min_eq_left (Nat.mul_le_mul_right _ hk), Nat.le_trans hk h.le, h.max, fun u hu => h.one u (List.mem_of_mem_take hu), by
    rcases h.alt with hh | ⟨b, cur, ha, hb, hs, ht⟩
    · exact .inl hh
    · refine .inr ⟨b, cur, ha, hb, hs, ?_⟩
      rw [← ht, List.take_take, Nat.min_eq_left (Nat.mul_le_mul_right _ hk)]⟩

/-- the queue behind the cut -/
theorem Q.cut {w w' : World} {ob mb g : Nat} {cap : Nat} {M : List It} (h : Q w ob mb (some ⟨g, 0, none⟩) cap M) (h0 : 0 < M.length) (hw : w'.heap = ((w.setCell ⟨g, M.length - 1, none⟩ .nilIface).setCell ⟨ob, 0, none⟩ (.slice (some ⟨g, 0, none⟩) (M.length - 1) cap)).heap) (ho : w'.os = w.os) (ht : w'.tape = w.tape) (hu : w'.output = w.output) :
    Q w' ob mb (some ⟨g, 0, none⟩) cap (M.take (M.length - 1)) ∧ Only (Fp ob mb (some ⟨g, 0, none⟩)) w w' := by
  have hO1 : Only (Fp ob mb (some ⟨g, 0, none⟩)) w ((w.setCell ⟨g, M.length - 1, none⟩ .nilIface).setCell ⟨ob, 0, none⟩ (.slice (some ⟨g, 0, none⟩) (M.length - 1) cap)) :=
    ((Only.refl _ w).setCell _ _ (fun _ => .inr (.inr rfl))).setCell _ _ (fun _ => .inl rfl)
  have hO : Only (Fp ob mb (some ⟨g, 0, none⟩)) w w' := ⟨ho, ht, hu, by rw [hw]; exact hO1.size, fun k hk hn => by rw [hw]; exact hO1.block k hk hn⟩
  have hgo : g ≠ ob := fun e => h.nob e
  have hgm : g ≠ mb := fun e => h.nmb e
  have hlen : (M.take (M.length - 1)).length = M.length - 1 := by rw [List.length_take]; omega
  refine ⟨⟨?_, ⟨?_, rfl⟩, ?_, h.ne, h.nob, h.nmb⟩, hO⟩
  · rw [hw, hlen]
    have e1 : (w.setCell ⟨g, M.length - 1, none⟩ .nilIface).heap[ob]? = some (.cells #[.slice (some ⟨g, 0, none⟩) M.length cap, .map (some mb), .bool false, .bool true] 67 (0, 0)) := by
      have : Only (fun k => k = g) w (w.setCell ⟨g, M.length - 1, none⟩ .nilIface) := (Only.refl _ _).setCell _ _ (fun _ => rfl)
      exact this.obj h.obj (fun e => hgo e.symm)
    have := setCell_heap e1 0 (.slice (some ⟨g, 0, none⟩) (M.length - 1) cap)
    simpa using this
  · rw [hlen]
    have h1 := h.own.1.set rfl (M.length - 1) .nilIface rfl (by omega)
    have h2 : Own 77 1 w' (some ⟨g, 0, none⟩) M.length cap ((M.map itv).set (M.length - 1) .nilIface) := by
      have hh : Own 77 1 ((w.setCell ⟨g, M.length - 1, none⟩ .nilIface).setCell ⟨ob, 0, none⟩ (.slice (some ⟨g, 0, none⟩) (M.length - 1) cap)) (some ⟨g, 0, none⟩) M.length cap ((M.map itv).set (M.length - 1) .nilIface) :=
        h1.keep (S := fun k => k = ob) ((Only.refl _ _).setCell _ _ (fun _ => rfl)) (fun k hk e => hgo (by rw [← e]; exact hk))
      exact ⟨hh.len, hh.le, hh.max, hh.one, by rw [hw]; exact hh.alt⟩
    have h3 := Own.less h2 (k := M.length - 1) (by omega)
    have e : ((M.map itv).set (M.length - 1) .nilIface).take ((M.length - 1) * 1) = (M.take (M.length - 1)).map itv := by
      rw [Nat.mul_one, List.take_set_of_le (Nat.le_refl _), List.map_take]
    rw [e] at h3
    exact h3
  · obtain ⟨c, hc⟩ := h.map
    refine ⟨c, ?_⟩
    have := hO1
    rw [hw]
    have e1 : Only (fun k => k = g) w (w.setCell ⟨g, M.length - 1, none⟩ .nilIface) := (Only.refl _ _).setCell _ _ (fun _ => rfl)
    have e2 : Only (fun k => k = ob) (w.setCell ⟨g, M.length - 1, none⟩ .nilIface) ((w.setCell ⟨g, M.length - 1, none⟩ .nilIface).setCell ⟨ob, 0, none⟩ (.slice (some ⟨g, 0, none⟩) (M.length - 1) cap)) := (Only.refl _ _).setCell _ _ (fun _ => rfl)
    exact e2.obj (e1.obj hc (fun e => hgm e.symm)) (fun e => h.ne e.symm)

/-- the lesser child of i -/
structure Chd (L : List It) (i c : Nat) : Prop where
  lt : c < L.length
  par : (c - 1) / 2 = i
  pos : 0 < c
  min : ∀ j, 0 < j → j < L.length → (j - 1) / 2 = i → kAt L c ≤ kAt L j
structure Dn (w wr : World) (ob mb g cap : Nat) (L : List It) (x : It) (i : Nat) (L' : List It) : Prop where
  q : Q wr ob mb (some ⟨g, 0, none⟩) cap L'
  down : DownH L' i
  perm : (L' ++ [x]).Perm L
  only : Only (Fp ob mb (some ⟨g, 0, none⟩)) w wr
theorem Dn.still {w wr w' : World} {ob mb g cap : Nat} {L : List It} {x : It} {i : Nat} {L' : List It} (h : Dn w wr ob mb g cap L x i L') (hs : Same wr w') : Dn w w' ob mb g cap L x i L' :=
  ⟨h.q.still hs, h.down, h.perm, h.only.trans hs (fun _ _ h => h.elim)⟩

/-- the two elements that are compared, and where the list begins -/
def S3 (ob g n cap i j : Nat) (x y : It) (w : World) : Prop := w.cell? ⟨ob, 0, none⟩ = some (.slice (some ⟨g, 0, none⟩) n cap) ∧ w.cell? ⟨g, i, none⟩ = some (iw x.key x.tag) ∧ w.cell? ⟨g, j, none⟩ = some (iw y.key y.tag)
theorem Dn.s3 {w wr wx : World} {ob mb g cap : Nat} {L : List It} {x : It} {i : Nat} {L' : List It} (h : Dn w wr ob mb g cap L x i L') (hs : Same wr wx) {p q : Nat} {a b : It} (hp : L'[p]? = some a) (hq : L'[q]? = some b) : S3 ob g L'.length cap p q a b wx := by
  have hQ := h.q.still hs
  have h0 : 0 < L'.length := by have := (List.getElem?_eq_some_iff.1 hp).1; omega
  obtain ⟨g', e, _, _, hc, _⟩ := hQ.at h0
  cases e
  exact ⟨block_cell hQ.obj rfl, hc p a hp, hc q b hq⟩
theorem S3.same {ob g n cap i j : Nat} {x y : It} {w w' : World} (h : S3 ob g n cap i j x y w) (hs : Same w w') : S3 ob g n cap i j x y w' := by
  obtain ⟨h1, h2, h3⟩ := h
  exact ⟨(hs.cell (p := ⟨ob, 0, none⟩) (World.block_lt_of_cell? w _ h1) id).trans h1, (hs.cell (p := ⟨g, i, none⟩) (World.block_lt_of_cell? w _ h2) id).trans h2, (hs.cell (p := ⟨g, j, none⟩) (World.block_lt_of_cell? w _ h3) id).trans h3⟩
theorem cmpS (ob g n cap i j : Nat) (x y : It) (w : World) (h : S3 ob g n cap i j x y w) : Calls Tryd.prog 79 #[itb x.key x.tag, iw y.key y.tag] w fun e w' => e = .returned (.int .i64 (ordZ x.key y.key)) ∧ S3 ob g n cap i j x y w' ∧ Same w w' :=
  (compare_any x.key x.tag y.key y.tag w).mono fun e w' ⟨he, hs⟩ => ⟨he, h.same hs, hs⟩
theorem ord_lss {a b : Int} : (ordZ a b < 0) = (a < b) := by
  unfold ordZ
  split
  · simp [*]
  · split <;> simp [*]

set_option maxRecDepth 100000 in
set_option maxHeartbeats 3200000 in
theorem popQ {w : World} {ob mb : Nat} {a : Option Addr} {cap : Nat} {L : List It} (h : Q w ob mb a cap L) (hh : Heap L) (hl : L.length < 100000) {x : It} (hx : L[0]? = some x) :
    Calls Tryd.prog 42 #[.pointer (some ⟨ob, 0, none⟩)] w fun e w' => e = .returned (itv x) ∧ ∃ L', Q w' ob mb a cap L' ∧ Heap L' ∧ (L' ++ [x]).Perm L ∧ Only (Fp ob mb a) w w' := by
  have h0 : 0 < L.length := (List.getElem?_eq_some_iff.1 hx).1
  obtain ⟨n1, hn⟩ : ∃ n1, L.length = n1 + 1 := ⟨L.length - 1, by omega⟩
  have HN := Lib.hid hn
  have hbd := h.own.bound
  obtain ⟨g, rfl, hb, hg, hc, hf⟩ := h.at h0
  have hgo : ob ≠ g := fun e => hg e.symm
  have q0 : w.cell? ⟨ob, 0, none⟩ = some (.slice (some ⟨g, 0, none⟩) (n1 + 1) cap) := by rw [← hn]; exact block_cell h.obj rfl
  have hsw := swapQ h n1 0 (by omega) h0
  have HSW : Hid (Calls Tryd.prog 41 #[.pointer (some ⟨ob, 0, none⟩), .int .i64 (n1 : Int), .int .i64 0] w fun e w' => e = .returned (.tuple #[]) ∧ Q w' ob mb (some ⟨g, 0, none⟩) cap (swapL L n1 0) ∧ Only (At (some ⟨g, 0, none⟩)) w w') := Lib.hid hsw
  have HQ := Lib.hid h
  have HH := Lib.hid hh
  have HX := Lib.hid hx
  rw [hn] at hbd hl h0
  clear h hh hx hc hf hn hsw
  go_enter Tryd.func42, Tryd.ntmps42
  go_wp2_with fail
  refine HSW.out.mono ?_
  rintro e w1 ⟨rfl, hq1, ho1⟩
  have HQ1 := Lib.hid hq1
  have HO1 := Lib.hid ho1
  have hml : (swapL L n1 0).length = n1 + 1 := (swapL_len _ _ _).trans HN.out
  obtain ⟨g', e1, _, _, hc1, hf1⟩ := hq1.at (by omega)
  cases e1
  have q1 : w1.cell? ⟨ob, 0, none⟩ = some (.slice (some ⟨g, 0, none⟩) (n1 + 1) cap) := by have := block_cell hq1.obj rfl (j := 0); rw [hml] at this; exact this
  have f1 : w1.frozen? ⟨ob, 0, none⟩ = false := block_free hq1.obj
  have hlast : (swapL L n1 0)[n1]? = some x := by
    have hn := HN.out
    rw [swapL_get (by omega) (by omega)]
    by_cases e : n1 = 0
    · rw [if_pos e, e, HX.out]
    · rw [if_neg e, if_pos rfl, HX.out]
  have c1 := hc1 _ _ hlast
  have g1 := hf1 n1
  have hni : (n1 : Int) < (n1 : Int) + 1 := by omega
  have hnp : (0 : Int) ≤ (n1 : Int) := by omega
  have hnc : (n1 : Int) ≤ (cap : Int) := by omega
  have HML := Lib.hid hml
  clear hq1 ho1 hc1 hf1 hlast hml q0 HSW
  obtain ⟨kx, tx⟩ := x
  replace c1 : w1.cell? ⟨g, n1, none⟩ = some (iw kx tx) := c1
  go_wp2_with fail
  go_region
  go_wp2_with fail
  obtain ⟨w2, HW2⟩ : ∃ w2, Hid (((w1.setCell ⟨g, n1, none⟩ .nilIface).setCell ⟨ob, 0, none⟩ (.slice (some ⟨g, 0, none⟩) n1 cap)).drew = w2) := ⟨_, Lib.hid rfl⟩
  rw [HW2.out]
  have HI0 : Hid (Dn w w2 ob mb g cap L ⟨kx, tx⟩ 0 (cutL L)) := Lib.hid (by
    have hml := HML.out
    have hL := HN.out
    obtain ⟨h1, h2⟩ := HQ1.out.cut (w' := w2) (by omega) (by rw [← HW2.out, hml]; rfl) (by rw [← HW2.out]; rfl) (by rw [← HW2.out]; rfl) (by rw [← HW2.out]; rfl)
    have e : (swapL L n1 0).take ((swapL L n1 0).length - 1) = cutL L := by
      unfold cutL
      rw [hml, hL]; rfl
    rw [e] at h1
    exact ⟨h1, down_start HH.out (by omega), cutL_perm HX.out, (HO1.out.mono (fun _ _ h => .inr (.inr h))).trans h2 (fun _ _ h => h)⟩)
  clear HQ HQ1 HO1 HML HW2 c1 f1 g1 q1
  go_loopw [5, 6, 7] (fun i l r wr => ∃ (j p q : Nat) (L' : List It), i = .int .i64 (j : Int) ∧ l = .int .i64 (p : Int) ∧ r = .int .i64 (q : Int) ∧ j ≤ n1 ∧ Hid (p = 2 * j + 1 ∧ q = 2 * j + 2) ∧ Hid (Dn w wr ob mb g cap L ⟨kx, tx⟩ j L')) (fun i _ _ _ => n1 + 1 - (intOf i).toNat)
  case atStart => exact ⟨0, 1, 2, _, rfl, rfl, rfl, Nat.zero_le _, Lib.hid ⟨rfl, rfl⟩, HI0⟩
  case round =>
    clear HI0
    obtain ⟨j, p, q, L', rfl, rfl, rfl, hj, HP, HI⟩ := hrel
    have hlen : L'.length = n1 := by
      have := HI.out.perm.length_eq
      rw [List.length_append, HN.out] at this
      simp at this; omega
    have q0 : wr.cell? ⟨ob, 0, none⟩ = some (.slice (some ⟨g, 0, none⟩) n1 cap) := by have := block_cell HI.out.q.obj rfl (j := 0); rw [hlen] at this; exact this
    have HL := Lib.hid hlen
    by_cases hpn : p < n1
    · have hpn' : (p : Int) < (n1 : Int) := by omega
      have hp0 : (0 : Int) ≤ (p : Int) := by omega
      have hq0 : (0 : Int) ≤ (q : Int) := by omega
      have hjp : j < p := by have := HP.out; omega
      have hjn : (j : Int) < (n1 : Int) := by omega
      have hj0 : (0 : Int) ≤ (j : Int) := by omega
      clear hlen
      go_upto_region 9 with fail
      go_cut [74] (fun t wx => ∃ b : Bool, t = .bool b ∧ Hid ((b = true → q < n1 ∧ kAt L' q < kAt L' p) ∧ (b = false → q < n1 → kAt L' p ≤ kAt L' q) ∧ Same wr wx))
      case first =>
        by_cases hqn : q < n1
        · have hqn' : (q : Int) < (n1 : Int) := by omega
          obtain ⟨X, hqx⟩ : ∃ X, L'[q]? = some X := ⟨_, List.getElem?_eq_getElem (by rw [HL.out]; exact hqn)⟩
          obtain ⟨Y, hpx⟩ : ∃ Y, L'[p]? = some Y := ⟨_, List.getElem?_eq_getElem (by rw [HL.out]; exact hpn)⟩
          have hS : S3 ob g n1 cap q p X Y wr := by have := HI.out.s3 (Only.refl _ _) hqx hpx; rwa [HL.out] at this
          have HKQ := Lib.hid (kAt_eq hqx)
          have HKP := Lib.hid (kAt_eq hpx)
          clear hqx hpx q0
          obtain ⟨k1, t1⟩ := X
          obtain ⟨k2, t2⟩ := Y
          have HC : Hid (∀ wx, S3 ob g n1 cap q p ⟨k1, t1⟩ ⟨k2, t2⟩ wx → Calls Tryd.prog 79 #[itb k1 t1, iw k2 t2] wx fun e w' => e = .returned (.int .i64 (ordZ k1 k2)) ∧ S3 ob g n1 cap q p ⟨k1, t1⟩ ⟨k2, t2⟩ w' ∧ Same wx w') := Lib.hid (fun wx h => cmpS ob g n1 cap q p ⟨k1, t1⟩ ⟨k2, t2⟩ wx h)
          obtain ⟨s1, s2, s3⟩ := hS
          have hm := methodC k1 t1
          have hni := nilC k1 t1
          go_region_held3 (fun w' => w'.cell? ⟨ob, 0, none⟩ = some (.slice (some ⟨g, 0, none⟩) n1 cap) ∧ w'.cell? ⟨g, q, none⟩ = some (iw k1 t1) ∧ w'.cell? ⟨g, p, none⟩ = some (iw k2 t2)) (go_keep)
            (first | (go_at_call 79; refine (HC.out _ ⟨?_, ?_, ?_⟩).mono ?_; (simp [*]); (simp [*]); (simp [*]); rintro e w4 ⟨rfl, ⟨r1, r2, r3⟩, hs4⟩))
          all_goals
            have HS4 := Lib.hid hs4
            clear hs4 r1 r2 r3 s1 s2 s3 HC
            go_wp2_with fail
            go_meet
            refine ⟨_, rfl, Lib.hid ⟨fun hb => ⟨hqn, ?_⟩, fun hb _ => ?_, Only.undrew HS4.out⟩⟩
            · have := (decide_eq_true_iff.1 hb)
              rw [ord_lss] at this
              rw [HKQ.out, HKP.out]; exact this
            · have := of_decide_eq_false hb
              rw [ord_lss] at this
              rw [HKQ.out, HKP.out]; show k2 ≤ k1; omega
        · have hqn' : decide ((q : Int) < (n1 : Int)) = false := by simp; omega
          go_quiet (fail)
          go_wp2_with fail
          go_meet
          exact ⟨false, rfl, Lib.hid ⟨fun h => (nomatch h), fun _ h => absurd h hqn, (Only.refl _ _).drewN _⟩⟩
      case rest =>
        obtain ⟨b, rfl, HB⟩ := hcut
        have HI1 := Lib.hid (HI.out.still HB.out.2.2)
        go_upto_if 74 with fail
        go_cut [8] (fun c wx => ∃ d : Nat, c = .int .i64 (d : Int) ∧ wx = wc ∧ Hid (Chd L' j d))
        case first =>
          cases b with
          | true =>
            go_wp2_with fail
            go_meet
            have hP := HP.out
            have hB := HB.out.1 (by simp)
            refine ⟨q, rfl, rfl, Lib.hid ⟨by rw [HL.out]; exact hB.1, by omega, by omega, fun i h1 h2 h3 => ?_⟩⟩
            have hi : i = p ∨ i = q := by omega
            rcases hi with rfl | rfl
            · omega
            · exact Int.le_refl _
          | false =>
            go_wp2_with fail
            go_meet
            have hP := HP.out
            refine ⟨p, rfl, rfl, Lib.hid ⟨by rw [HL.out]; exact hpn, by omega, by omega, fun i h1 h2 h3 => ?_⟩⟩
            have hi : i = p ∨ i = q := by omega
            rcases hi with rfl | rfl
            · exact Int.le_refl _
            · exact HB.out.2.1 (by simp) (by rw [← HL.out]; exact h2)
        case rest =>
          obtain ⟨d, rfl, hw, HD⟩ := hcut
          subst hw
          obtain ⟨w5, hw5⟩ : ∃ w5, w5 = wc := ⟨_, rfl⟩
          rw [← hw5] at HI1 ⊢
          clear hw5 HB q0
          have hdn : (d : Int) < (n1 : Int) := by have := HD.out.lt; rw [HL.out] at this; omega
          have hd0 : (0 : Int) ≤ (d : Int) := by omega
          obtain ⟨X, hqx⟩ : ∃ X, L'[d]? = some X := ⟨_, List.getElem?_eq_getElem HD.out.lt⟩
          obtain ⟨Y, hpx⟩ : ∃ Y, L'[j]? = some Y := ⟨_, List.getElem?_eq_getElem (by rw [HL.out]; omega)⟩
          have hS : S3 ob g n1 cap d j X Y w5 := by have := HI1.out.s3 (Only.refl _ _) hqx hpx; rwa [HL.out] at this
          have HKQ := Lib.hid (kAt_eq hqx)
          have HKP := Lib.hid (kAt_eq hpx)
          clear hqx hpx
          obtain ⟨k1, t1⟩ := X
          obtain ⟨k2, t2⟩ := Y
          have HC : Hid (∀ wx, S3 ob g n1 cap d j ⟨k1, t1⟩ ⟨k2, t2⟩ wx → Calls Tryd.prog 79 #[itb k1 t1, iw k2 t2] wx fun e w' => e = .returned (.int .i64 (ordZ k1 k2)) ∧ S3 ob g n1 cap d j ⟨k1, t1⟩ ⟨k2, t2⟩ w' ∧ Same wx w') := Lib.hid (fun wx h => cmpS ob g n1 cap d j ⟨k1, t1⟩ ⟨k2, t2⟩ wx h)
          obtain ⟨s1, s2, s3⟩ := hS
          have hm := methodC k1 t1
          have hni := nilC k1 t1
          go_wp2_with fail
          go_region_held3 (fun w' => w'.cell? ⟨ob, 0, none⟩ = some (.slice (some ⟨g, 0, none⟩) n1 cap) ∧ w'.cell? ⟨g, d, none⟩ = some (iw k1 t1) ∧ w'.cell? ⟨g, j, none⟩ = some (iw k2 t2)) (go_keep)
            (first | (go_at_call 79; refine (HC.out _ ⟨?_, ?_, ?_⟩).mono ?_; (simp [*]); (simp [*]); (simp [*]); rintro e w4 ⟨rfl, ⟨r1, r2, r3⟩, hs4⟩))
          have HS4 := Lib.hid hs4
          have HI2 := Lib.hid (HI1.out.still (Only.undrew HS4.out))
          clear hs4 HS4 r1 r2 r3 s1 s2 s3 HC hm hni
          by_cases hcmp : k1 < k2
          · have HCMP := Lib.hid hcmp
            rw [ord_neg hcmp]
            have HSW := Lib.hid (swapQ HI2.out.q j d (by rw [HL.out]; omega) HD.out.lt)
            clear hcmp
            go_wp2_with fail
            refine HSW.out.mono ?_
            rintro e w6 ⟨rfl, hq6, ho6⟩
            have HI6 : Hid (Dn w w6 ob mb g cap L ⟨kx, tx⟩ d (swapL L' j d)) := Lib.hid (by
              have hjl : j < L'.length := by rw [HL.out]; omega
              have hD := HD.out
              exact ⟨hq6, down_step HI2.out.down hjl hD.lt hD.par hD.pos hD.min (by rw [HKQ.out, HKP.out]; exact HCMP.out), ((swapL_perm hjl hD.lt).append_right _).trans HI2.out.perm, HI2.out.only.trans ho6 (fun k _ h => .inr (.inr h))⟩)
            have hjd : j < d := by have := HD.out.par; have := HD.out.pos; omega
            obtain ⟨p', hp'⟩ : ∃ p', p' = 2 * d + 1 := ⟨_, rfl⟩
            have e1 : 2 * (d : Int) + 1 = (p' : Int) := by omega
            have e2 : 2 * (d : Int) + 2 = ((p' + 1 : Nat) : Int) := by omega
            obtain ⟨q', hq'⟩ : ∃ q', q' = p' + 1 := ⟨_, rfl⟩
            rw [← hq'] at e2
            have HPQ : Hid (p' = 2 * d + 1 ∧ q' = 2 * d + 2) := Lib.hid ⟨hp', by omega⟩
            have E1 := Lib.hid e1
            have E2 := Lib.hid e2
            clear hq6 ho6 HSW e1 e2 hp' hq'
            go_wp2_with fail
            rw [E1.out, E2.out]
            go_roundw
            case rel => exact ⟨d, p', q', _, rfl, rfl, rfl, by omega, HPQ, HI6⟩
            case measure => simp [intOf]; omega
          · have hcmp' : k2 ≤ k1 := by omega
            have ho := ord_ge hcmp'
            have HCMP := Lib.hid hcmp'
            have hge : ¬ ordZ k1 k2 < 0 := by omega
            clear hcmp hcmp' ho
            generalize ordZ k1 k2 = oz at *
            go_wp2_with fail
            go_ret
            refine ⟨rfl, L', HI2.out.q, down_done HI2.out.down (fun i h1 h2 h3 => ?_), HI2.out.perm, HI2.out.only⟩
            have := HD.out.min i h1 h2 h3
            rw [HKQ.out] at this
            rw [HKP.out]
            have := HCMP.out
            omega
    · have hpn' : ¬ (p : Int) < (n1 : Int) := by omega
      clear hlen
      go_wp2_with fail
      go_ret
      refine ⟨rfl, L', HI.out.q, down_done HI.out.down (fun i h1 h2 h3 => ?_), HI.out.perm, HI.out.only⟩
      rw [HL.out] at h2
      have := HP.out
      omega
end Go.Proofs.YtpddddjfjmipfaaDoor.pq
