/-
  FnFHGone: the walk.
-/
import Derived.Test.YtpddddjfjmipfaaFhPastW
namespace Go.Proofs.Ytpddddjfjmipfaa.walkFnFHGone
open Go.ChangeShapes Go.WideShapes Go.ChangeAt Go.RowKit Go.Proofs.Ytpddddjfjmipfaa.base Go.Proofs.Ytpddddjfjmipfaa.heap Go.Proofs.Ytpddddjfjmipfaa.rows Go.Proofs.Ytpddddjfjmipfaa.flt Go.Proofs.Ytpddddjfjmipfaa.fh
set_option linter.unusedVariables false

theorem read_bools {W : World} {v : Value} (h : Reads Try.prog W 36 v) : ∃ (a : Option Addr) (n cap : Nat) (l : List Bool), v = .slice a n cap ∧ RL bv W a n cap l := by
  obtain ⟨a, n, cap, l, rfl, h, _⟩ := T.slice (c := fun x => [bv x]) (K := 1) (fun _ : Bool => True) (fun _ => rfl) (fun x u hu => by simp at hu; subst hu; rfl) (by omega) Try.underlying36 (by kernel_rfl) (fun cs hl ht => by
    match cs, hl with
    | [v], _ =>
      obtain ⟨k, rfl⟩ := ht.bool Try.underlying4
      exact ⟨k, rfl, trivial⟩) (reads_t h Try.underlying36)
  exact ⟨a, n, cap, l, rfl, h.rl⟩
theorem want_len (l : List Int) (o : List Bool) (j : Nat) : (want l o j).length ≤ j := by
  induction j with
  | zero => exact Nat.le_refl _
  | succ j ih =>
    show (want l o j ++ want1 o j _).length ≤ _
    unfold want1
    rw [List.length_append]
    split <;> simp <;> omega
theorem dels_len (g : Nat) (o : List Bool) (j : Nat) : (dels g o j).length ≤ j := by
  induction j with
  | zero => exact Nat.le_refl _
  | succ j ih =>
    show (dels g o j ++ del1 g o j).length ≤ _
    unfold del1
    rw [List.length_append]
    split <;> simp <;> omega
/-- in the course of the loop -/
structure Col (w wr : World) (g : Nat) (l : List Int) (o : List Bool) (j : Nat) (sa : Option Addr) (k sc : Nat) (wa : Option Addr) (q wc : Nat) : Prop where
  st : Nws w wr sa k sc (past g l ++ dels g o j)
  wt : OL 3 iv wr wa q wc (want l o j)
  new : ∀ i, At wa i → w.heap.size ≤ i
  dis : ∀ i, At wa i → ¬ At sa i
theorem dels_all {g : Nat} {o : List Bool} : ∀ (j : Nat) (s : Stp), s ∈ dels g o j → ∃ i, i < j ∧ s = s5 (g + i)
  | 0, s, h => absurd h List.not_mem_nil
  | j + 1, s, h => by
    rcases List.mem_append.1 (show s ∈ dels g o j ++ del1 g o j from h) with h | h
    · obtain ⟨i, h1, h2⟩ := dels_all j s h
      exact ⟨i, by omega, h2⟩
    · unfold del1 at h
      split at h
      · simp at h; exact ⟨j, by omega, h⟩
      · simp at h
set_option maxRecDepth 100000 in
set_option maxHeartbeats 3200000 in
theorem main (a b : Option Addr) (n cap m oc f : Nat) (l : List Int) (o : List Bool) (w : World) (h : RL iv w a n cap l) (ho : RL bv w b m oc o) (hf : f < 256) (hn : n ≤ 30) (hm : n ≤ m) (hm2 : m ≤ 2147483647) (hp : prioOk l (-1099511627775) = true) :
    Calls Try.prog 4 #[.slice a n cap, .slice b m oc, .int .u8 (f : Int)] w fun e w' => e = .returned (.bool true) ∧ Below w.heap.size w w' := by
  have HR := Lib.hid h
  have HO := Lib.hid ho
  have hbd := h.bound
  have hbo := ho.bound
  have HPR : Hid (Calls Try.prog 10 #[.slice a n cap, .int .i64 (-1099511627775)] w fun e w' => e = .returned (.bool true) ∧ w = w') := Lib.hid (by
    have := prio a n cap l (-1099511627775) w h
    rwa [hp] at this)
  have HPA := Lib.hid (fhPast a n cap f l w h (by omega) hf)
  have HPM := Lib.hid (prio_mem hp)
  have q1 : ¬ (2147483647 : Int) < (n : Int) := by omega
  have q2 : ¬ (2147483647 : Int) < (m : Int) := by omega
  have q3 : ¬ (30 : Int) < (n : Int) := by omega
  have q4 : ¬ (m : Int) < (n : Int) := by omega
  have hg : low f ≤ 5 := by unfold low; omega
  clear h ho hp
  go_enter Try.func4, Try.ntmps4
  go_wp2_with fail
  refine HPR.out.mono ?_
  rintro e w1 ⟨rfl, rfl⟩
  go_wp2_with fail
  refine HPA.out.mono ?_
  rintro e w2 ⟨sa0, sc0, rfl, hN⟩
  obtain ⟨g, hgg⟩ : ∃ g, low f = g := ⟨_, rfl⟩
  rw [hgg] at hN hg ⊢
  obtain ⟨k0, hk0⟩ : ∃ k0, g + n + g = k0 := ⟨_, rfl⟩
  have HK0 := Lib.hid hk0
  rw [hk0] at hN ⊢
  have hk0b : k0 ≤ 40 := by omega
  have HC0 : Hid (Col w w2 g l o 0 sa0 k0 sc0 none 0 0) := Lib.hid ⟨by simpa [dels] using hN, OL.nil _ _ _, fun i hi => hi.elim, fun i hi => hi.elim⟩
  clear hN HPR HPA q1 q2 q3 hk0 hgg
  go_wp2_with fail
  go_loopw [7, 9, 43] (fun s t i wr => ∃ (j k : Nat) (sa : Option Addr) (sc : Nat) (wa : Option Addr) (q wc : Nat), s = .slice sa k sc ∧ t = .slice wa q wc ∧ i = .int .i64 (j : Int) ∧ j ≤ n ∧ Hid (Col w wr g l o j sa k sc wa q wc)) (fun _ _ i _ => n - (intOf i).toNat)
  case atStart => exact ⟨0, k0, sa0, sc0, none, 0, 0, rfl, rfl, rfl, Nat.zero_le _, HC0⟩
  case round =>
    clear HC0
    obtain ⟨j, k, sa, sc, wa, q, wc, rfl, rfl, rfl, hj, HC⟩ := hrel
    have hbs := HC.out.st.row.bound
    have hbw := HC.out.wt.bound
    have hkb : k ≤ 100 := by
      have h1 := HC.out.st.row.2
      have h2 := dels_len g o j
      unfold past past1 at h1
      simp only [List.length_append, List.length_replicate, List.length_map, HR.out.2] at h1
      omega
    have hqb : q ≤ 100 := by
      have h1 := HC.out.wt.2
      have h2 := want_len l o j
      omega
    by_cases hlt : j < n
    · have hlt' : (j : Int) < (n : Int) := by omega
      have hjm : (j : Int) < (m : Int) := by omega
      obtain ⟨p, hp⟩ := HR.out.get hlt
      obtain ⟨t, ht⟩ := HO.out.get (k := j) (by omega)
      obtain ⟨b1, off1, ha1, hb1, hc1⟩ := (HR.out.still HC.out.st.same).at (by omega)
      obtain ⟨b2, off2, ha2, hb2, hc2⟩ := (HO.out.still HC.out.st.same).at (by omega)
      have c1 : wr.cell? ⟨b1, off1 + j, none⟩ = some (.int .i64 p) := hc1 j p hp
      have c2 : wr.cell? ⟨b2, off2 + j, none⟩ = some (.bool t) := hc2 j t ht
      have HP := Lib.hid hp
      have HT := Lib.hid ht
      have HGD : Hid (l.getD j 0 = p) := Lib.hid (by rw [List.getD_eq_getElem?_getD, hp]; rfl)
      subst ha1
      subst ha2
      clear hc1 hc2 hp ht
      cases t with
      | true =>
        have HD1 : Hid (dels g o (j + 1) = dels g o j ++ [s5 (g + j)] ∧ want l o (j + 1) = want l o j) := Lib.hid (by
          constructor
          · show dels g o j ++ del1 g o j = _
            unfold del1
            rw [if_pos HT.out]
          · show want l o j ++ want1 o j _ = _
            unfold want1
            rw [if_pos HT.out, List.append_nil])
        obtain ⟨XS, HXS⟩ : ∃ XS, Hid ((past g l ++ dels g o j).flatMap stc ++ [s5 (g + j)].flatMap stc = XS) := ⟨_, Lib.hid rfl⟩
        obtain ⟨gj, hgj⟩ : ∃ gj : Nat, g + j = gj := ⟨_, rfl⟩
        have e1 : (g : Int) + (j : Int) = (gj : Int) := by omega
        have hgjb : gj ≤ 50 := by omega
        rw [hgj] at HD1 HXS
        clear hgj
        go_wp2_with (at_builtin; refine wpList_append (k + 1) XS rfl _ _ _ _ rfl slSt rfl (HC.out.st.row.1.keep (S := fun _ => False) (by repeat (first | exact Only.refl _ _ | apply Only.alloc | apply Only.drew)) (fun _ _ => id)) rfl (Src.row (size := 4) (cs := #[.int .i64 5, .int .i64 (gj : Int), .int .i64 0, .slice none 0 0]) (t := 31) (fr := (0, 0)) Try.underlying22 (by exact heap_alloc_new _ _) 1 1 rfl (by simp [Value.oneCell'])) rfl HXS.out (by unfold maxLen; omega) (by omega) ?_)
        intro sa2 sc2 w4 hG
        have HC2 : Hid (Col w w4 g l o (j + 1) sa2 (k + 1) sc2 wa q wc) := Lib.hid (by
          have h1 := HC.out.st.grew (N := [s5 gj]) ((Only.refl _ _).alloc _) rfl (by rw [HXS.out]; exact hG)
          have hO : Only (At sa) wr w4 := Only.trans (S := At sa) ((Only.refl (At sa) wr).alloc _) hG.only (fun _ _ h => h)
          refine ⟨by rw [HD1.out.1, ← List.append_assoc]; exact h1, by rw [HD1.out.2]; exact HC.out.wt.keep hO HC.out.dis, HC.out.new, fun i hi hi2 => ?_⟩
          rcases hG.fresh i hi2 with h' | h'
          · exact HC.out.dis i hi h'
          · have := HC.out.wt.1.lt i hi
            have h3 : wr.heap.size + 1 ≤ i := by simpa using h'
            omega)
        clear hG HC
        go_wp2_with fail
        go_roundw
        case rel => exact ⟨j + 1, k + 1, sa2, sc2, wa, q, wc, rfl, rfl, by go_num, by omega, HC2⟩
        case measure => simp [intOf]; omega
      | false =>
        have hno : ¬ o[j]? = some true := by rw [HT.out]; simp
        have HD1 : Hid (dels g o (j + 1) = dels g o j ∧ want l o (j + 1) = want l o j ++ [p]) := Lib.hid (by
          constructor
          · show dels g o j ++ del1 g o j = _
            unfold del1
            rw [if_neg hno, List.append_nil]
          · show want l o j ++ want1 o j _ = _
            unfold want1
            rw [if_neg hno, HGD.out])
        obtain ⟨XS, HXS⟩ : ∃ XS, Hid ((want l o j).map iv ++ [iv p] = XS) := ⟨_, Lib.hid rfl⟩
        clear hno
        go_wp2_with (at_builtin; refine wpList_append (q + 1) XS rfl _ _ _ _ rfl slI rfl (HC.out.wt.1.keep (S := fun _ => False) (by repeat (first | exact Only.refl _ _ | apply Only.alloc | apply Only.drew)) (fun _ _ => id)) rfl (Src.row (size := 1) (cs := #[.int .i64 p]) (t := 3) (fr := (0, 0)) Try.underlying29 (by exact heap_alloc_new _ _) 1 1 rfl (by simp [Value.oneCell'])) rfl HXS.out (by unfold maxLen; omega) (by omega) ?_)
        intro wa2 wc2 w4 hG
        have HC2 : Hid (Col w w4 g l o (j + 1) sa k sc wa2 (q + 1) wc2) := Lib.hid (by
          have hO : Only (At wa) wr w4 := Only.trans (S := At wa) ((Only.refl (At wa) wr).alloc _) hG.only (fun _ _ h => h)
          have z := HC.out.st.same.size
          have hdis : ∀ i, At sa i → ¬ At wa i := fun i h1 h2 => HC.out.dis i h2 h1
          refine ⟨by rw [HD1.out.1]; exact ⟨HC.out.st.row.keep hO hdis, new_only HC.out.st.same hO HC.out.new, HC.out.st.new⟩, by rw [HD1.out.2]; exact ⟨by rw [List.map_append, List.map_singleton, HXS.out]; exact hG.own, by rw [List.length_append, HC.out.wt.2]; rfl⟩, fun i hi => ?_, fun i hi hi2 => ?_⟩
          · rcases hG.fresh i hi with h' | h'
            · exact HC.out.new i h'
            · have h3 : wr.heap.size + 1 ≤ i := by simpa using h'
              omega
          · rcases hG.fresh i hi with h' | h'
            · exact HC.out.dis i h' hi2
            · have := HC.out.st.row.1.lt i hi2
              have h3 : wr.heap.size + 1 ≤ i := by simpa using h'
              omega)
        clear hG HC
        go_wp2_with fail
        go_roundw
        case rel => exact ⟨j + 1, k, sa, sc, wa2, q + 1, wc2, rfl, rfl, by go_num, by omega, HC2⟩
        case measure => simp [intOf]; omega
    · have hlt' : ¬ (j : Int) < (n : Int) := by omega
      obtain rfl : j = n := by omega
      have HSO : Hid (Calls Try.prog 12 #[.slice sa k sc, .slice wa q wc] wr fun e w' => e = .returned (.bool true) ∧ Only (At sa) wr w') := Lib.hid (by
        have hlv : fh.Leaves (past g l ++ dels g o j) (want l o j) := by
          have := leaves5 (g := g) (l := l) (o := o) (fun p hp => by have := HPM.out p hp; unfold lowP; omega)
          rwa [HR.out.2] at this
        refine fhSorted sa k sc _ wa q wc (want l o j) wr HC.out.st.row HC.out.wt.rl (by omega) (by omega) (fun s hs => ?_) (fun _ i hi => HC.out.dis i hi) hlv
        have hz : ∀ s : Stp, s.m = 0 → s.a = none → s.cap = 0 → s.L = [] → RL iv wr s.a s.m s.cap s.L ∧ (0 < s.m → ∀ k, At s.a k → ¬ At sa k) := fun s h1 h2 h3 h4 => by
          rw [h1, h2, h3, h4]
          exact ⟨RL.nil _ _, fun h => absurd h (by omega)⟩
        rcases List.mem_append.1 hs with hs | hs
        · rcases List.mem_append.1 (show s ∈ past1 g l ++ List.replicate g sDeq from hs) with hs | hs
          · have hput : ∀ p : Int, p.natAbs ≤ Big → Okay (sPut p) := fun p hp => ⟨by show (1 : Int) ≤ 1 ∧ (1 : Int) ≤ 6; omega, hp, by show 0 ≤ 40; omega, rfl, fun p hp => absurd hp List.not_mem_nil⟩
            rcases List.mem_append.1 (show s ∈ List.replicate g (sPut lowP) ++ l.map sPut from hs) with hs | hs
            · obtain rfl := (List.mem_replicate.1 hs).2
              exact ⟨hput _ (by unfold lowP Big; omega), hz _ rfl rfl rfl rfl⟩
            · obtain ⟨p, hp, rfl⟩ := List.mem_map.1 hs
              exact ⟨hput _ (by have := HPM.out p hp; unfold Big; omega), hz _ rfl rfl rfl rfl⟩
          · obtain rfl := (List.mem_replicate.1 hs).2
            exact ⟨sDeq_ok, hz _ rfl rfl rfl rfl⟩
        · obtain ⟨i, _, rfl⟩ := dels_all j s hs
          exact ⟨⟨by show (1 : Int) ≤ 5 ∧ (5 : Int) ≤ 6; omega, by show Int.natAbs 0 ≤ _; simp [Big], by show 0 ≤ 40; omega, rfl, fun p hp => absurd hp List.not_mem_nil⟩, hz _ rfl rfl rfl rfl⟩)
      have HNW : Hid (∀ i, At sa i → w.heap.size ≤ i) := Lib.hid HC.out.st.new
      have HSM : Hid (Same w wr) := Lib.hid HC.out.st.same
      clear HC
      go_wp2_with fail
      refine HSO.out.mono ?_
      rintro e w6 ⟨rfl, ho⟩
      have HF : Hid (Below w.heap.size w w6) := Lib.hid (Only.below (new_only HSM.out ho HNW.out) (Nat.le_refl _) (fun _ _ => id))
      clear ho
      go_wp2_with fail
      go_ret
      exact ⟨rfl, HF.out⟩
set_option maxRecDepth 100000 in
set_option maxHeartbeats 3200000 in
theorem early (a b : Option Addr) (n cap m oc f : Nat) (l : List Int) (w : World) (h : RL iv w a n cap l) (hb : m ≤ 9223372036854775807) (hc : ¬ (n ≤ 30 ∧ n ≤ m ∧ m ≤ 2147483647 ∧ prioOk l (-1099511627775) = true)) :
    Calls Try.prog 4 #[.slice a n cap, .slice b m oc, .int .u8 (f : Int)] w fun e w' => e = .returned (.bool true) ∧ Below w.heap.size w w' := by
  have HF : Hid (Below w.heap.size w w) := Lib.hid (Only.below (Only.refl (fun _ => False) _) (Nat.le_refl _) (fun _ _ => id))
  have hbd := h.bound
  have HP := Lib.hid (prio a n cap l (-1099511627775) w h)
  have HC := Lib.hid hc
  clear hc h
  by_cases q1 : (2147483647 : Int) < (n : Int)
  · go_enter Try.func4, Try.ntmps4
    go_wp2_with fail
    go_ret
    exact ⟨rfl, HF.out⟩
  by_cases q2 : (2147483647 : Int) < (m : Int)
  · go_enter Try.func4, Try.ntmps4
    go_wp2_with fail
    go_ret
    exact ⟨rfl, HF.out⟩
  by_cases q3 : (30 : Int) < (n : Int)
  · go_enter Try.func4, Try.ntmps4
    go_wp2_with fail
    go_ret
    exact ⟨rfl, HF.out⟩
  by_cases q4 : (m : Int) < (n : Int)
  · go_enter Try.func4, Try.ntmps4
    go_wp2_with fail
    go_ret
    exact ⟨rfl, HF.out⟩
  cases hp : prioOk l (-1099511627775) with
  | true => exact absurd ⟨by omega, by omega, by omega, hp⟩ HC.out
  | false =>
    rw [hp] at HP
    clear hp HC
    go_enter Try.func4, Try.ntmps4
    go_wp2_with fail
    refine HP.out.mono ?_
    rintro e w1 ⟨rfl, rfl⟩
    go_wp2_with fail
    go_ret
    exact ⟨rfl, HF.out⟩
theorem walk (W : World) (v0 v1 v2 : Value) (r0 : Reads Try.prog W 29 v0) (r1 : Reads Try.prog W 36 v1) (r2 : Reads Try.prog W 5 v2) :
    Calls Try.prog 4 #[v0, v1, v2] W fun e w' => e = .returned (.bool true) ∧ Below W.heap.size W w' := by
  obtain ⟨a, n, cap, l, rfl, h⟩ := read_ints r0
  obtain ⟨b, m, oc, o, rfl, ho⟩ := read_bools r1
  obtain ⟨f, rfl, hf⟩ : ∃ f : Nat, v2 = .int .u8 (f : Int) ∧ f < 256 := by
    obtain ⟨q, rfl, hq⟩ := r2.int Try.underlying5
    have hq' := wf_u8 hq
    obtain ⟨Q, rfl⟩ := Int.eq_ofNat_of_zero_le hq'.1
    exact ⟨Q, rfl, by omega⟩
  by_cases hc : n ≤ 30 ∧ n ≤ m ∧ m ≤ 2147483647 ∧ prioOk l (-1099511627775) = true
  · exact main a b n cap m oc f l o W h ho hf hc.1 hc.2.1 hc.2.2.1 hc.2.2.2
  · exact early a b n cap m oc f l W h (by have := ho.bound; omega) hc
end Go.Proofs.Ytpddddjfjmipfaa.walkFnFHGone
