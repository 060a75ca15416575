/-
  Delete, Merge.
-/
import Derived.Test.YtpddddjfjmipfaaFhDq
import Derived.Test.YtpddddjfjmipfaaFhJoin
namespace Go.Proofs.Ytpddddjfjmipfaa.fh
open Go.RowKit Go.Proofs.Ytpddddjfjmipfaa.base Go.Proofs.Ytpddddjfjmipfaa.heap Go.Proofs.Ytpddddjfjmipfaa.rows Go.Proofs.Ytpddddjfjmipfaa.flt
set_option linter.unusedVariables false

theorem HpX.congr {w : World} {hb : Nat} {A : List Nat} {pr pr' : Nat → Nat} (h : HpX w hb A pr) (he : ∀ u ∈ A, pr u = pr' u) : HpX w hb A pr' := by
  obtain ⟨F, G, mn, h1, h2⟩ := h
  exact ⟨F, G, mn, h1, fun u hu => (h2 u hu).trans (he u hu)⟩
theorem HpX.nodup {w : World} {hb : Nat} {A : List Nat} {pr : Nat → Nat} (h : HpX w hb A pr) : A.Nodup := by
  obtain ⟨F, G, mn, h1, h2⟩ := h
  exact h1.fo.nodup
/-- what Delete hands back -/
def DlP (hb x : Nat) (A : List Nat) (pr : Nat → Nat) (w : World) (e : Ending) (w' : World) : Prop :=
  e = .returned .nilIface ∧ HpX w' hb (A.erase x) pr ∧ Only (Fp hb A) w w'
set_option maxRecDepth 100000 in
set_option maxHeartbeats 1600000 in
theorem delete (hb x : Nat) (A : List Nat) (pr : Nat → Nat) (w : World) (h : HpX w hb A pr) (hx : x ∈ A) (hlow : ∀ u ∈ A, fval low64 < fval (pr u)) (hsz : A.length < 1000000) :
    Calls Try.prog 30 #[pp hb, pp x] w (DlP hb x A pr w) := by
  obtain ⟨F, G, mn, hp, hpr⟩ := id h
  have hn : (A.length == 0) = false := by
    cases A with
    | nil => cases hx
    | cons a l => rfl
  have HE := Lib.hid (isEmpty w hb A.length mn hp.obj)
  rw [hn] at HE
  have HD : Hid (Calls Try.prog 42 #[pp hb, pp x, .float .f64 18442240474082181119] w fun e w' => e = .returned (.tuple #[]) ∧ HpX w' hb A (put pr x low64) ∧ Only (Fp hb A) w w') := Lib.hid (dku hb x low64 A pr w h hx fin_low (by have := hlow x hx; omega) hsz)
  have HQ : Hid (∀ w1, HpX w1 hb A (put pr x low64) → Only (Fp hb A) w w1 → Calls Try.prog 27 #[pp hb] w1 fun e w2 => (∃ v, e = .returned v) ∧ HpX w2 hb (A.erase x) pr ∧ Only (Fp hb A) w w2) := Lib.hid (fun w1 h1 ho => by
    refine (dequeue hb A (put pr x low64) w1 h1 hsz).mono ?_
    rintro e w2 (⟨rfl, _⟩ | ⟨m, hm, hle, he, h2, h3, _⟩)
    · cases hx
    · have hmx : m = x := by
        by_cases e : m = x
        · exact e
        · have h4 := hle x hx
          rw [put_same, put_other e] at h4
          have := hlow m hm
          omega
      subst hmx
      have hnd := h1.nodup
      exact ⟨⟨_, he⟩, h2.congr (fun u hu => put_other (fun (e : u = m) => (hnd.mem_erase_iff.1 hu).1 e)), ho.trans h3 (fun k _ hk => hk)⟩)
  clear hp hpr hn h hx hlow
  go_enter Try.func30, Try.ntmps30
  go_wp2_with (first | (go_at_call 18; (with_reducible refine HE.out.mono ?_); rintro e w1 ⟨rfl, rfl⟩) | (go_at_call 42; with_reducible refine HD.out.mono ?_))
  rintro e w1 ⟨rfl, h1, h2⟩
  have HQ2 := Lib.hid (HQ.out w1 h1 h2)
  clear h1 h2
  go_wp2_with (go_at_call 27; with_reducible refine HQ2.out.mono ?_)
  rintro e w2 ⟨⟨v, rfl⟩, h3, h4⟩
  have HF := Lib.hid (And.intro h3 h4)
  clear h3 h4
  go_wp2_with fail
  go_ret
  exact ⟨rfl, HF.out⟩

/-- the blocks of two heaps -/
def Fp2 (ha hb : Nat) (A B : List Nat) (k : Nat) : Prop := Fp ha A k ∨ Fp hb B k
/-- what Merge hands back -/
def MrP (ha hb : Nat) (A B : List Nat) (pr : Nat → Nat) (w : World) (e : Ending) (w' : World) : Prop :=
  ∃ mn, e = .returned (.tuple #[.agg #[po mn, .int .u64 ((A.length + B.length : Nat) : Int)], .nilIface]) ∧ HObj w' ha none 0 ∧ HObj w' hb none 0 ∧ HpM w' (A ++ B) pr mn (A.length + B.length) ∧ Only (Fp2 ha hb A B) w w'
theorem mr_lists {ha hb : Nat} {A B : List Nat} {pr : Nat → Nat} {w : World} {F H : Fs} {G K : Gs} {ma mb : Option Nat} (hp : Hp w ha F G A ma) (hq : Hp w hb H K B mb) (hpr : ∀ u ∈ A, F.pr u = pr u) (hqr : ∀ u ∈ B, H.pr u = pr u) (hd : ∀ u ∈ A, u ∉ B) (hab : ha ∉ B) (hba : hb ∉ A) :
    Calls Try.prog 40 #[po ma, po mb] w fun e w3 => ∃ z : Option Nat, e = .returned (po z) ∧ HObj w3 ha ma A.length ∧ HObj w3 hb mb B.length ∧ HpM w3 (A ++ B) pr z (A.length + B.length) ∧ Only (Fp2 ha hb A B) w w3 := by
  rcases hp.min with ⟨rfl, hA⟩ | ⟨m, rfl, hl⟩
  · subst hA
    refine (merge_nil1 mb w).mono ?_
    rintro e w3 ⟨he, rfl⟩
    exact ⟨mb, he, hp.obj, hq.obj, ⟨H, K, hq.mem, hq.fo, hq.ord, hq.min, hqr, by simp⟩, Only.refl _ _⟩
  · rcases hq.min with ⟨rfl, hB⟩ | ⟨m', rfl, hl'⟩
    · subst hB
      refine (merge_nil2 m w).mono ?_
      rintro e w3 ⟨he, rfl⟩
      refine ⟨some m, he, hp.obj, hq.obj, ?_, Only.refl _ _⟩
      rw [List.append_nil]
      exact ⟨F, G, hp.mem, hp.fo, hp.ord, hp.min, hpr, by simp⟩
    · have hmA := hp.fo.mem hl.1
      have hmB := hq.fo.mem hl'.1
      have hmm : m' ∉ A := fun e => hd m' e hmB
      obtain ⟨G', fo, hroot, hkid⟩ := Fo.join hp.fo hq.fo hd hl.1 hl'.1
      have hne : m ≠ m' := fun e => hmm (e ▸ hmA)
      have n1 := hp.fo.mem (ring_nx_mem (hp.fo.rings.ring .root) m hl.1)
      have n2 := hq.fo.mem (ring_nx_mem (hq.fo.rings.ring .root) m' hl'.1)
      have e1 : (Jn F H A).nx m = F.nx m := jn_in hmA
      have e2 : (Jn F H A).nx m' = H.nx m' := jn_out hmm
      have e3 : (Jn F H A).pr m = F.pr m := jn_in hmA
      have e4 : (Jn F H A).pr m' = H.pr m' := jn_out hmm
      have hm2 := merge2 m m' (Jn F H A) (· ∈ A ++ B) w (jn_mem hp.mem hq.mem) (List.mem_append_left _ hmA) (List.mem_append_right _ hmB) (by rw [e1]; exact List.mem_append_left _ n1) (by rw [e2]; exact List.mem_append_right _ n2) hne
        (by rw [e1, e2]; exact fun e => hd _ n1 (e ▸ n2)) (by rw [e3]; exact hp.fo.fin m hmA) (by rw [e4]; exact hq.fo.fin m' hmB)
      refine hm2.mono ?_
      rintro e w3 ⟨he, hM, hO⟩
      rw [e3, e4] at he
      have hOf : Only (Fp2 ha hb A B) w w3 := hO.mono (fun k _ hk => (List.mem_append.1 hk).imp .inr .inr)
      have hpA : ∀ u ∈ A, (Jn F H A).pr u = F.pr u := fun u hu => jn_in hu
      have hpB : ∀ u ∈ B, (Jn F H A).pr u = H.pr u := fun u hu => jn_out (fun e => hd u e hu)
      refine ⟨some (if fval (F.pr m) < fval (H.pr m') then m else m'), he, hp.obj.keep hO (by simp [hp.nin, hab]), hq.obj.keep hO (by simp [hq.nin, hba]), ⟨_, G', hM, fo, fun p b hb _ => ?_, .inr ⟨_, rfl, ?_, fun r hr => ?_⟩, fun u hu => ?_, by simp⟩, hOf⟩
      · show fval ((Jn F H A).pr p) ≤ fval ((Jn F H A).pr b)
        rcases hkid p b hb with ⟨h1, h2⟩ | ⟨h1, h2⟩
        · rw [hpA p h2, hpA b (hp.fo.mem h1)]; exact hp.ord p b h1 (fun f => f)
        · rw [hpB p h2, hpB b (hq.fo.mem h1)]; exact hq.ord p b h1 (fun f => f)
      · rw [hroot]
        split
        · exact .inl hl.1
        · exact .inr hl'.1
      · show fval ((Jn F H A).pr _) ≤ fval ((Jn F H A).pr r)
        rcases (hroot r).1 hr with h1 | h1
        · rw [hpA r (hp.fo.mem h1)]
          have := hl.2 r h1
          split
          · rw [hpA m hmA]; exact this
          · rw [hpB m' hmB]; omega
        · rw [hpB r (hq.fo.mem h1)]
          have := hl'.2 r h1
          split
          · rw [hpA m hmA]; omega
          · rw [hpB m' hmB]; exact this
      · show (Jn F H A).pr u = pr u
        rcases List.mem_append.1 hu with h1 | h1
        · rw [hpA u h1]; exact hpr u h1
        · rw [hpB u h1]; exact hqr u h1
set_option maxRecDepth 100000 in
set_option maxHeartbeats 1600000 in
theorem merge (ha hb : Nat) (A B : List Nat) (pr : Nat → Nat) (w : World) (h : HpX w ha A pr) (k : HpX w hb B pr) (hd : ∀ u ∈ A, u ∉ B) (hab : ha ∉ B) (hba : hb ∉ A) (hne : ha ≠ hb) (hsz : A.length + B.length < 1000000) :
    Calls Try.prog 31 #[pp ha, pp hb] w (MrP ha hb A B pr w) := by
  obtain ⟨F, G, ma, hp, hpr⟩ := h
  obtain ⟨H, K, mb, hq, hqr⟩ := k
  have hne' : hb ≠ ha := fun e => hne e.symm
  have c0 := hp.obj.c0
  have c1 := hp.obj.c1
  have c2 := hq.obj.c0
  have c3 := hq.obj.c1
  have s1 : IntKind.u64.wrap ((A.length : Int) + (B.length : Int)) = (A.length : Int) + (B.length : Int) := IntWalk.u64_in _ (by omega)
  have lh := hp.obj.lt
  have lk := hq.obj.lt
  have HMC : Hid (∀ wx, Same w wx → Calls Try.prog 40 #[po ma, po mb] wx fun e w3 => ∃ z : Option Nat, e = .returned (po z) ∧ HObj w3 ha ma A.length ∧ HObj w3 hb mb B.length ∧
      (∀ w4, w4 = (((w3.setCell ⟨ha, 0, none⟩ (.pointer none)).setCell ⟨hb, 0, none⟩ (.pointer none)).setCell ⟨ha, 1, none⟩ (.int .u64 0)).setCell ⟨hb, 1, none⟩ (.int .u64 0) → HObj w4 ha none 0 ∧ HObj w4 hb none 0 ∧ HpM w4 (A ++ B) pr z (A.length + B.length) ∧ Only (Fp2 ha hb A B) wx w4) ∧ Only (Fp2 ha hb A B) wx w3) := Lib.hid (fun wx hs => by
    refine (mr_lists (hp.keep hs (fun _ _ f => f)) (hq.keep hs (fun _ _ f => f)) hpr hqr hd hab hba).mono ?_
    rintro e w3 ⟨z, he, h1, h2, h3, h4⟩
    refine ⟨z, he, h1, h2, ?_, h4⟩
    rintro w4 rfl
    have k1 := (h1.set0 none).keep (S := fun k => k = hb) ((Only.refl _ _).setCell ⟨hb, 0, none⟩ (.pointer none) (fun _ => rfl)) hne
    have k2 := (k1.set1 0).keep (S := fun k => k = hb) ((Only.refl _ _).setCell ⟨hb, 1, none⟩ (.int .u64 0) (fun _ => rfl)) hne
    have l1 := (h2.keep (S := fun k => k = ha) ((Only.refl _ _).setCell ⟨ha, 0, none⟩ (.pointer none) (fun _ => rfl)) hne').set0 none
    have l2 := (l1.keep (S := fun k => k = ha) ((Only.refl _ _).setCell ⟨ha, 1, none⟩ (.int .u64 0) (fun _ => rfl)) hne').set1 0
    have hO : Only (fun k => k = ha ∨ k = hb) w3 ((((w3.setCell ⟨ha, 0, none⟩ (.pointer none)).setCell ⟨hb, 0, none⟩ (.pointer none)).setCell ⟨ha, 1, none⟩ (.int .u64 0)).setCell ⟨hb, 1, none⟩ (.int .u64 0)) :=
      ((((Only.refl (fun k => k = ha ∨ k = hb) w3).setCell ⟨ha, 0, none⟩ _ (fun _ => .inl rfl)).setCell ⟨hb, 0, none⟩ _ (fun _ => .inr rfl)).setCell ⟨ha, 1, none⟩ _ (fun _ => .inl rfl)).setCell ⟨hb, 1, none⟩ _ (fun _ => .inr rfl)
    refine ⟨k2, l2, h3.keep hO (fun k hk e => ?_), h4.trans hO (fun k _ e => e.imp .inl .inl)⟩
    rcases e with rfl | rfl
    · rcases List.mem_append.1 hk with h | h
      · exact hp.nin h
      · exact hab h
    · rcases List.mem_append.1 hk with h | h
      · exact hba h
      · exact hq.nin h)
  have hob : Hid (HObj w ha ma A.length ∧ HObj w hb mb B.length) := Lib.hid ⟨hp.obj, hq.obj⟩
  obtain ⟨va, hva⟩ : ∃ va, po ma = va := ⟨_, rfl⟩
  obtain ⟨vb, hvb⟩ : ∃ vb, po mb = vb := ⟨_, rfl⟩
  rw [hva] at c0 HMC
  rw [hvb] at c2 HMC
  have HNK : Hid (¬ Fp2 ha hb A B w.heap.size) := Lib.hid (fun h => by
    rcases h with h | h
    · have := hp.lt _ h; omega
    · have := hq.lt _ h; omega)
  clear hp hq hpr hqr hd hab hba hva hvb
  go_enter Try.func31, Try.ntmps31
  go_wp2_with fail
  go_region
  go_wp2_with fail
  go_region_law (first | (go_simp; go_at_call 40; refine (HMC.out _ (by repeat (first | exact Only.refl _ _ | apply Only.alloc | apply Only.drew | apply Only.drewN))).mono ?_; rintro e w3 ⟨z, rfl, h1, h2, h3, h4⟩; have H3 := Lib.hid h3; have H12 := Lib.hid (And.intro h1 (And.intro h2 h4)); clear h1 h2 h3 h4))
  all_goals
    have d0 := H12.out.1.c0
    have d1 := H12.out.1.c1
    have d2 := H12.out.1.fr
    have d3 := H12.out.2.1.c0
    have d4 := H12.out.2.1.c1
    have d5 := H12.out.2.1.fr
    have hb3 : w3.heap[w.heap.size]? = some (.cells #[.pointer none, .int .u64 0] 48 (0, 0)) := H12.out.2.2.obj (b := w.heap.size) (heap_alloc_new _ _) HNK.out
    have HB3 := Lib.hid hb3
    have d6 : w3.cell? ⟨w.heap.size, 0, none⟩ = some (.pointer none) := block_cell hb3 rfl
    have d7 : w3.cell? ⟨w.heap.size, 1, none⟩ = some (.int .u64 0) := block_cell hb3 rfl
    have d8 : ∀ i, w3.frozen? ⟨w.heap.size, i, none⟩ = false := fun i => block_free hb3
    obtain ⟨vx, hvx⟩ : ∃ vx, po ma = vx := ⟨_, rfl⟩
    obtain ⟨vy, hvy⟩ : ∃ vy, po mb = vy := ⟨_, rfl⟩
    obtain ⟨vz, hvz⟩ : ∃ vz, po z = .pointer vz := ⟨_, rfl⟩
    have HVZ := Lib.hid hvz
    rw [hvx] at d0
    rw [hvy] at d3
    rw [hvz]
    clear hvx hvy hvz hb3 c0 c1 c2 c3
    go_wp2_with fail
    obtain ⟨w4, hw4⟩ : ∃ w4, (((w3.setCell ⟨ha, 0, none⟩ (.pointer none)).setCell ⟨hb, 0, none⟩ (.pointer none)).setCell ⟨ha, 1, none⟩ (.int .u64 0)).setCell ⟨hb, 1, none⟩ (.int .u64 0) = w4 := ⟨_, rfl⟩
    have H4 := H3.out w4 hw4.symm
    have hb4 : w4.heap[w.heap.size]? = some (.cells #[.pointer none, .int .u64 0] 48 (0, 0)) := H4.2.2.2.obj (b := w.heap.size) (heap_alloc_new _ _) HNK.out
    rw [hw4]
    clear hw4 d0 d1 d2 d3 d4 d5 d6 d7 d8 HB3 H12 H3 HMC
    have t1 := setCell_heap (setCell_heap hb4 0 (.pointer vz)) 1 (.int .u64 ((A.length : Int) + (B.length : Int)))
    have t2 : (w4.setCell ⟨w.heap.size, 0, none⟩ (.pointer vz)).cell? ⟨w.heap.size, 0, none⟩ = some (.pointer vz) := block_cell (setCell_heap hb4 0 (.pointer vz)) rfl
    have t3 : ((w4.setCell ⟨w.heap.size, 0, none⟩ (.pointer vz)).setCell ⟨w.heap.size, 1, none⟩ (.int .u64 ((A.length : Int) + (B.length : Int)))).cell? ⟨w.heap.size, 1, none⟩ = some (.int .u64 ((A.length : Int) + (B.length : Int))) := block_cell t1 rfl
    refine bodyPost_ret (v := .tuple #[.agg #[.pointer vz, .int .u64 ((A.length : Int) + (B.length : Int))], .nilIface]) ?_ rfl ?_
    · simp [results, Try.results31, go_sem, t2, t3]
    have hO5 : Only (fun k => k = w.heap.size) w4 ((w4.setCell ⟨w.heap.size, 0, none⟩ (.pointer vz)).setCell ⟨w.heap.size, 1, none⟩ (.int .u64 ((A.length : Int) + (B.length : Int)))) := ((Only.refl (fun k => k = w.heap.size) _).setCell ⟨w.heap.size, 0, none⟩ _ (fun _ => rfl)).setCell ⟨w.heap.size, 1, none⟩ _ (fun _ => rfl)
    refine ⟨z, by rw [HVZ.out, show ((A.length + B.length : Nat) : Int) = (A.length : Int) + (B.length : Int) by omega], H4.1.keep hO5 (by omega), H4.2.1.keep hO5 (by omega), H4.2.2.1.keep hO5 (fun k hk e => HNK.out ?_), ?_⟩
    · rw [← (show k = w.heap.size from e)]
      exact (List.mem_append.1 hk).imp .inr .inr
    · refine Only.trans (S := Fp2 ha hb A B) ?_ hO5 (fun k hk e => by omega)
      refine Only.trans (T := Fp2 ha hb A B) ?_ H4.2.2.2 (fun k _ h => h)
      repeat (first | exact Only.refl _ _ | apply Only.alloc | apply Only.drew | apply Only.drewN)
end Go.Proofs.Ytpddddjfjmipfaa.fh
