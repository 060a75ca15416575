/-
  FnRoadHeaps: the walk.
-/
import Derived.Test.YtpddddjfjmipfaaDoorFhLaw
import Derived.Test.YtpddddjfjmipfaaDoorRead
import Derived.Test.YtpddddjfjmipfaaDoorPqRun
import Derived.Test.YtpddddjfjmipfaaDoorIsSort
import Derived.BigQuiet
namespace Go.Proofs.YtpddddjfjmipfaaDoor.walkFnRoadHeaps
open Go.ChangeShapes Go.WideShapes Go.ChangeAt Go.RowKit Go.Proofs.YtpddddjfjmipfaaDoor.base Go.Proofs.YtpddddjfjmipfaaDoor.heap Go.Proofs.YtpddddjfjmipfaaDoor.rows Go.Proofs.YtpddddjfjmipfaaDoor.flt Go.Proofs.YtpddddjfjmipfaaDoor.fh
set_option linter.unusedVariables false

abbrev i8v (n : Int) : Value := .int .i8 n
theorem read_i8 {W : World} {v : Value} (h : Reads Tryd.prog W 22 v) : ∃ (a : Option Addr) (n cap : Nat) (l : List Int), v = .slice a n cap ∧ RL i8v W a n cap l ∧ ∀ x ∈ l, -128 ≤ x ∧ x ≤ 127 := by
  obtain ⟨a, n, cap, l, rfl, h, hp⟩ := T.slice (c := fun x => [i8v x]) (K := 1) (fun x : Int => -128 ≤ x ∧ x ≤ 127) (fun _ => rfl) (fun x u hu => by simp at hu; subst hu; rfl) (by omega) Tryd.underlying22 (by kernel_rfl) (fun cs hl ht => by
    match cs, hl with
    | [v], _ =>
      obtain ⟨k, rfl, hk⟩ := ht.int Tryd.underlying26
      exact ⟨k, rfl, by simpa [Lit.wf, IntKind.min, IntKind.max, IntKind.signed, IntKind.bits] using hk⟩) (reads_t h Tryd.underlying22)
  exact ⟨a, n, cap, l, rfl, h.rl, hp⟩
/-- three places that are apart -/
structure Tr (w wr : World) (A B C : Nat → Prop) : Prop where
  new : ∀ j, A j ∨ B j ∨ C j → w.heap.size ≤ j ∧ j < wr.heap.size
  ab : ∀ j, A j → ¬ B j
  ac : ∀ j, A j → ¬ C j
  bc : ∀ j, B j → ¬ C j
theorem Tr.rot {w wr : World} {A B C : Nat → Prop} (h : Tr w wr A B C) : Tr w wr B C A :=
  ⟨fun j hj => h.new j (by rcases hj with h | h | h <;> simp [h]), h.bc, fun j h1 h2 => h.ab j h2 h1, fun j h1 h2 => h.ac j h2 h1⟩
theorem Tr.grow {w wr w2 : World} {A B C A' : Nat → Prop} (h : Tr w wr A B C) (hz : w.heap.size ≤ wr.heap.size) (h2 : wr.heap.size ≤ w2.heap.size) (hf : ∀ j, A' j → A j ∨ wr.heap.size ≤ j) (hl : ∀ j, A' j → j < w2.heap.size) : Tr w w2 A' B C := by
  refine ⟨fun j hj => ?_, fun j hj hb => ?_, fun j hj hc => ?_, h.bc⟩
  · rcases hj with hj | hj | hj
    · have := hl j hj
      rcases hf j hj with h' | h'
      · have := h.new j (.inl h'); omega
      · omega
    · have := h.new j (.inr (.inl hj)); omega
    · have := h.new j (.inr (.inr hj)); omega
  · rcases hf j hj with h' | h'
    · exact h.ab j h' hb
    · have := h.new j (.inr (.inl hb)); omega
  · rcases hf j hj with h' | h'
    · exact h.ac j h' hc
    · have := h.new j (.inr (.inr hc)); omega
/-- the elements of the queue -/
def itm (V : List Int) : Nat → List pq.It
  | 0 => []
  | k + 1 => itm V k ++ [⟨V.getD k 0, (k : Int)⟩]
theorem itm_len (V : List Int) (k : Nat) : (itm V k).length = k := by
  induction k with
  | zero => rfl
  | succ k ih => show (itm V k ++ [_]).length = _; simp [ih]
theorem itm_key (V : List Int) (k : Nat) (hk : k ≤ V.length) : (itm V k).map (·.key) = V.take k := by
  induction k with
  | zero => rfl
  | succ k ih =>
    have hl : V[k]? = some (V.getD k 0) := by rw [List.getD_eq_getElem?_getD, List.getElem?_eq_getElem (show k < V.length by omega)]; rfl
    rw [take_snoc V k _ hl, ← ih (by omega)]
    show (itm V k ++ [_]).map _ = _
    simp
theorem slIt : SliceOf Tryd.prog 23 28 2 16 := SliceOf.mk (z := .agg #[.int .i64 0, .int .i64 0]) Tryd.underlying23 (by kernel_rfl) rfl
/-- in the course of the first loop -/
structure Col (w wr : World) (V : List Int) (k : Nat) (ia : Option Addr) (ic : Nat) (sa : Option Addr) (sc : Nat) (aa : Option Addr) (ac : Nat) : Prop where
  it : OS 28 pq.itc 2 wr ia k ic (itm V k)
  st : OS 31 stc 4 wr sa k sc ((V.take k).map sPut)
  al : OL 2 iv wr aa k ac (V.take k)
  same : Same w wr
  tr : Tr w wr (At ia) (At sa) (At aa)
/-- numbers come sorted out of the queue -/
theorem pq_out {R : List pq.It} {n : Nat} {p q : pq.Stp} {As : List pq.An} {L : List pq.It} (hp : p.op = 1) (hR : p.R = R) (hq : q.op = 2) (hn : q.n = (n : Int)) (hl : R.length = n) (h0 : 0 < n) (h : pq.Ran [p, q] As L) :
    ∃ x y, As = [x, y] ∧ y.L.length = n ∧ y.L.map (·.key) = srt (R.map (·.key)) := by
  have inv : ∀ {l : List pq.Stp} {As : List pq.An} {L' : List pq.It}, pq.Ran l As L' → (l = [] → As = [] ∧ L' = []) ∧ ∀ l0 s, l = l0 ++ [s] → ∃ As0 x L, As = As0 ++ [x] ∧ pq.Ran l0 As0 L ∧ pq.Stepped L s x L' := fun {l As L'} h => by
    cases h with
    | nil => exact ⟨fun _ => ⟨rfl, rfl⟩, fun l0 s h => by simp at h⟩
    | snoc h1 h2 =>
      refine ⟨fun h => by simp at h, fun l0 s hh => ?_⟩
      obtain ⟨rfl, h3⟩ := List.append_inj' hh rfl
      simp at h3
      subst h3
      exact ⟨_, _, _, rfl, h1, h2⟩
  obtain ⟨As1, y, L1, rfl, h1, s2⟩ := (inv h).2 [p] q rfl
  obtain ⟨As0, x, L0, rfl, h2, s1⟩ := (inv h1).2 [] p rfl
  obtain ⟨rfl, rfl⟩ := (inv h2).1 rfl
  have hL1 : L1.Perm R := by
    rcases s1 with ⟨_, h, _⟩ | ⟨e, _⟩ | ⟨e, _⟩ | ⟨e, _⟩ | ⟨e, _⟩ | ⟨e, _⟩
    · rw [hR] at h; simpa using h
    · rw [hp] at e; exact absurd e (by decide)
    · rw [hp] at e; exact absurd e (by decide)
    · rw [hp] at e; exact absurd e (by decide)
    · rw [hp] at e; exact absurd e (by decide)
    · rw [hp] at e; exact absurd e (by decide)
  have hlen : L1.length = n := by rw [hL1.length_eq, hl]
  have hg : pq.Got L1 y.L L ∧ y.L.length = n := by
    rcases s2 with ⟨e, _⟩ | ⟨_, e, _⟩ | ⟨_, _, h3, h4, _⟩ | ⟨e, _⟩ | ⟨e, _⟩ | ⟨e, _⟩
    · rw [hq] at e; exact absurd e (by decide)
    · omega
    · refine ⟨h3, ?_⟩
      rw [h4, hn, Int.toNat_natCast, hlen, Nat.min_self]
    · rw [hq] at e; exact absurd e (by decide)
    · rw [hq] at e; exact absurd e (by decide)
    · rw [hq] at e; exact absurd e (by decide)
  refine ⟨x, y, rfl, hg.2, ?_⟩
  have hL : L = [] := by
    have := hg.1.perm.length_eq
    rw [List.length_append, hg.2, hlen] at this
    exact List.eq_nil_of_length_eq_zero (by omega)
  have hperm : y.L.Perm R := by
    have := hg.1.perm
    rw [hL, List.append_nil] at this
    exact this.trans hL1
  refine srt_unique ?_ (hperm.map _)
  unfold fh.Srt
  rw [List.pairwise_map, List.pairwise_iff_getElem]
  intro i j hi hj hij
  exact hg.1.sorted i j _ _ hij (List.getElem?_eq_getElem hi) (List.getElem?_eq_getElem hj)
/-- and out of the heap -/
theorem fh_out {V : List Int} {As : List fh.An} {S : Pris} (h : fh.Ran (V.map sPut ++ List.replicate V.length sDeq) As S) : As.length = V.length + V.length ∧ (As.drop V.length).map (·.p) = srt V := by
  obtain ⟨As0, S0, r0, hk⟩ := deqs V.length h
  obtain ⟨h1, h2⟩ := ran1 r0 (fun s hs => by obtain ⟨p, _, rfl⟩ := List.mem_map.1 hs; rfl)
  have hV : (V.map sPut).map (·.p) = V := by rw [List.map_map]; exact List.map_id V
  rw [hV] at h2
  have hlv : live S0 = V := by
    rw [h2]
    unfold live
    rw [List.filterMap_map]
    exact List.filterMap_some
  obtain ⟨Bs, rfl, b1, b2, b3, b4, b5⟩ := hk (by rw [hlv]; exact Nat.le_refl _)
  have hn := r0.len
  rw [List.length_map] at hn
  have hlS : live S = [] := by
    have := b3.length_eq
    rw [List.length_append, List.length_map, hlv] at this
    exact List.eq_nil_of_length_eq_zero (by omega)
  refine ⟨by rw [List.length_append, hn, b1], ?_⟩
  rw [← hn, List.drop_left]
  refine srt_unique b4 ?_
  rw [hlS, List.append_nil, hlv] at b3
  exact b3
/-- in the course of the second one -/
structure Col2 (w wr : World) (l V : List Int) (k : Nat) (ia : Option Addr) (ic : Nat) (sa : Option Addr) (m sc : Nat) (aa : Option Addr) (ac q : Nat) : Prop where
  it : OS 28 pq.itc 2 wr ia k ic (itm l k)
  st : OS 31 stc 4 wr sa m sc (V.map sPut ++ List.replicate q sDeq)
  al : OL 2 iv wr aa k ac V
  same : Same w wr
  tr : Tr w wr (At ia) (At sa) (At aa)
set_option maxRecDepth 100000 in
set_option maxHeartbeats 6400000 in
theorem main (a : Option Addr) (n cap : Nat) (l : List Int) (w : World) (h : RL i8v w a n cap l) (hp : ∀ x ∈ l, -128 ≤ x ∧ x ≤ 127) (hn : n ≤ 2147483647) :
    Calls Tryd.prog 3 #[.slice a n cap] w fun e w' => e = .returned (.bool true) ∧ Below w.heap.size w w' := by
  have HR := Lib.hid h
  have HP := Lib.hid hp
  have hbd := h.bound
  have q0 : ¬ (2147483647 : Int) < (n : Int) := by omega
  have HC0 : Hid (Col w w l 0 none 0 none 0 none 0) := Lib.hid ⟨OS.nil _ _ _ _, OS.nil _ _ _ _, OL.nil _ _ _, Only.refl _ _, ⟨fun j hj => by rcases hj with h | h | h <;> exact h.elim, fun j hj => hj.elim, fun j hj => hj.elim, fun j hj => hj.elim⟩⟩
  clear h hp
  go_enter Tryd.func3, Tryd.ntmps3
  go_wp2_with fail
  clear q0
  go_loopw [3, 4, 5, 6] (fun it st al i wr => ∃ (k : Nat) (ia : Option Addr) (ic : Nat) (sa : Option Addr) (sc : Nat) (aa : Option Addr) (ac : Nat), it = .slice ia k ic ∧ st = .slice sa k sc ∧ al = .slice aa k ac ∧ i = .int .i64 (k : Int) ∧ k ≤ n ∧ k ≤ 40 ∧ Hid (Col w wr l k ia ic sa sc aa ac)) (fun _ _ _ i _ => n - (intOf i).toNat)
  case atStart => exact ⟨0, none, 0, none, 0, none, 0, rfl, rfl, rfl, rfl, Nat.zero_le _, by omega, HC0⟩
  case round =>
    clear HC0
    obtain ⟨k, ia, ic, sa, sc, aa, ac, rfl, rfl, rfl, rfl, hk, hk40, HC⟩ := hrel
    have hb1 := HC.out.it.bound
    have hb2 := HC.out.st.bound
    have hb3 := HC.out.al.bound
    by_cases hlt : k < n
    · have hlt' : (k : Int) < (n : Int) := by omega
      by_cases hl40 : k < 40
      · have hl40' : (k : Int) < 40 := by omega
        obtain ⟨p, hpk⟩ := HR.out.get hlt
        obtain ⟨b, off, hab, hbl, hc⟩ := HR.out.at (by omega)
        have hpb := HP.out p (List.mem_of_getElem? hpk)
        have hgd : l.getD k 0 = p := by rw [List.getD_eq_getElem?_getD, hpk]; rfl
        have HC4 : Hid (∀ wx, Same w wx → wx.cell? ⟨b, off + k, none⟩ = some (.int .i8 p)) := Lib.hid (fun wx hx => (hx.cell (p := ⟨b, off + k, none⟩) hbl id).trans (hc k p hpk))
        have HPK := Lib.hid hpk
        have HGD := Lib.hid hgd
        have c0 := HC4.out wr HC.out.same
        subst hab
        obtain ⟨X1, HX1⟩ : ∃ XS, Hid ((itm l k).flatMap pq.itc ++ [(⟨p, (k : Int)⟩ : pq.It)].flatMap pq.itc = XS) := ⟨_, Lib.hid rfl⟩
        obtain ⟨X2, HX2⟩ : ∃ XS, Hid (((l.take k).map sPut).flatMap stc ++ [sPut p].flatMap stc = XS) := ⟨_, Lib.hid rfl⟩
        obtain ⟨X3, HX3⟩ : ∃ XS, Hid ((l.take k).map iv ++ [iv p] = XS) := ⟨_, Lib.hid rfl⟩
        have hw : IntKind.i64.wrap p = p := IntWalk.i64_in _ (by omega)
        clear hc hpk hgd
        go_wp2_with (at_builtin; refine wpList_append (k + 1) X1 rfl _ _ _ _ rfl slIt rfl (HC.out.it.1.keep (S := fun _ => False) (by repeat (first | exact Only.refl _ _ | apply Only.alloc | apply Only.drew)) (fun _ _ => id)) rfl (Src.row (size := 2) (cs := #[.int .i64 p, .int .i64 (k : Int)]) (t := 28) (fr := (0, 0)) Tryd.underlying23 (by exact heap_alloc_new _ _) 1 1 rfl (by simp [Value.oneCell'])) rfl HX1.out (by unfold maxLen; omega) (by omega) ?_)
        intro ia2 ic2 w2 hG
        have H2 : Hid (OS 28 pq.itc 2 w2 ia2 (k + 1) ic2 (itm l (k + 1)) ∧ OS 31 stc 4 w2 sa k sc ((l.take k).map sPut) ∧ OL 2 iv w2 aa k ac (l.take k) ∧ Same w w2 ∧ Tr w w2 (At ia2) (At sa) (At aa)) := Lib.hid (by
          have ht := HC.out.tr
          have hO : Only (At ia) wr w2 := Only.trans (S := At ia) ((Only.refl (At ia) wr).alloc _) hG.only (fun _ _ h => h)
          have h1 : OS 28 pq.itc 2 w2 ia2 (k + 1) ic2 (itm l (k + 1)) := ⟨by show Own _ 2 w2 ia2 (k + 1) ic2 ((itm l k ++ [(⟨l.getD k 0, (k : Int)⟩ : pq.It)]).flatMap pq.itc); rw [HGD.out, List.flatMap_append, HX1.out]; exact hG.own, itm_len l (k + 1)⟩
          exact ⟨h1, HC.out.st.keep hO (fun j hj h2 => ht.ab j h2 hj), HC.out.al.keep hO (fun j hj h2 => ht.ac j h2 hj), new_only HC.out.same hO (fun j hj => (ht.new j (.inl hj)).1), Tr.grow ht HC.out.same.size hO.size (fun j hj => (hG.fresh j hj).imp id (fun h => by have h' : wr.heap.size + 1 ≤ j := (by simpa using h); omega)) h1.1.lt⟩)
        have c2 := HC4.out w2 H2.out.2.2.2.1
        clear hG HC c0 HX1
        go_wp2_with (at_builtin; refine wpList_append (k + 1) X2 rfl _ _ _ _ rfl slSt rfl (H2.out.2.1.1.keep (S := fun _ => False) (by repeat (first | exact Only.refl _ _ | apply Only.alloc | apply Only.drew)) (fun _ _ => id)) rfl (Src.row (size := 4) (cs := #[.int .i64 1, .int .i64 0, .int .i64 p, .slice none 0 0]) (t := 31) (fr := (0, 0)) Tryd.underlying24 (by exact heap_alloc_new _ _) 1 1 rfl (by simp [Value.oneCell'])) rfl HX2.out (by unfold maxLen; omega) (by omega) ?_)
        intro sa2 sc2 w3 hG
        have H3 : Hid (OS 28 pq.itc 2 w3 ia2 (k + 1) ic2 (itm l (k + 1)) ∧ OS 31 stc 4 w3 sa2 (k + 1) sc2 ((l.take (k + 1)).map sPut) ∧ OL 2 iv w3 aa k ac (l.take k) ∧ Same w w3 ∧ Tr w w3 (At ia2) (At sa2) (At aa)) := Lib.hid (by
          have ht := H2.out.2.2.2.2
          have hO : Only (At sa) w2 w3 := Only.trans (S := At sa) ((Only.refl (At sa) w2).alloc _) hG.only (fun _ _ h => h)
          have h1 : OS 31 stc 4 w3 sa2 (k + 1) sc2 ((l.take (k + 1)).map sPut) := ⟨by rw [take_snoc l k p HPK.out, List.map_append, List.flatMap_append, List.map_singleton, HX2.out]; exact hG.own, by rw [List.length_map, List.length_take, HR.out.2]; omega⟩
          exact ⟨H2.out.1.keep hO ht.ab, h1, H2.out.2.2.1.keep hO (fun j hj h2 => ht.bc j h2 hj), new_only H2.out.2.2.2.1 hO (fun j hj => (ht.new j (.inr (.inl hj))).1), (Tr.grow ht.rot H2.out.2.2.2.1.size hO.size (fun j hj => (hG.fresh j hj).imp id (fun h => by have h' : w2.heap.size + 1 ≤ j := (by simpa using h); omega)) h1.1.lt).rot.rot⟩)
        have c3 := HC4.out w3 H3.out.2.2.2.1
        clear hG H2 c2 HX2
        go_wp2_with (at_builtin; refine wpList_append (k + 1) X3 rfl _ _ _ _ rfl isl.slInt rfl (H3.out.2.2.1.1.keep (S := fun _ => False) (by repeat (first | exact Only.refl _ _ | apply Only.alloc | apply Only.drew)) (fun _ _ => id)) rfl (Src.row (size := 1) (cs := #[.int .i64 p]) (t := 2) (fr := (0, 0)) Tryd.underlying25 (by exact heap_alloc_new _ _) 1 1 rfl (by simp [Value.oneCell'])) rfl HX3.out (by unfold maxLen; omega) (by omega) ?_)
        intro aa2 ac2 w4 hG
        have H4 : Hid (Col w w4 l (k + 1) ia2 ic2 sa2 sc2 aa2 ac2) := Lib.hid (by
          have ht := H3.out.2.2.2.2
          have hO : Only (At aa) w3 w4 := Only.trans (S := At aa) ((Only.refl (At aa) w3).alloc _) hG.only (fun _ _ h => h)
          have h1 : OL 2 iv w4 aa2 (k + 1) ac2 (l.take (k + 1)) := ⟨by rw [take_snoc l k p HPK.out, List.map_append, List.map_singleton, HX3.out]; exact hG.own, by rw [List.length_take, HR.out.2]; omega⟩
          exact ⟨H3.out.1.keep hO ht.ac, H3.out.2.1.keep hO ht.bc, h1, new_only H3.out.2.2.2.1 hO (fun j hj => (ht.new j (.inr (.inr hj))).1), (Tr.grow ht.rot.rot H3.out.2.2.2.1.size hO.size (fun j hj => (hG.fresh j hj).imp id (fun h => by have h' : w3.heap.size + 1 ≤ j := (by simpa using h); omega)) h1.1.lt).rot⟩)
        clear hG H3 c3 HX3 HC4
        go_wp2_with fail
        go_roundw
        case rel => exact ⟨k + 1, ia2, ic2, sa2, sc2, aa2, ac2, rfl, rfl, rfl, by go_num, by omega, by omega, H4⟩
        case measure => simp [intOf]; omega
      · have hl40' : ¬ (k : Int) < 40 := by omega
        have hl40d : decide ((k : Int) < 40) = false := decide_eq_false hl40'
        have HKN : Hid (k ≤ l.length) := Lib.hid (by rw [HR.out.2]; exact hk)
        have hTL : (l.take k).length = k := by rw [List.length_take, HR.out.2]; omega
        by_cases hk0 : k = 0
        · omega
        have hkp : 0 < k := by omega
        have hkp' : ¬ (k : Int) = 0 := by omega
        have hkp2 : ((k : Int) == 0) = false := by simpa using hkp'
        obtain ⟨V, hV⟩ : ∃ V, l.take k = V := ⟨_, rfl⟩
        have HTL : Hid (V.length = k) := Lib.hid (by rw [← hV]; exact hTL)
        have HKEY : Hid ((itm l k).map (·.key) = V) := Lib.hid (by rw [itm_key l k HKN.out, hV])
        have HPV : Hid (∀ p ∈ V, p.natAbs ≤ Big) := Lib.hid (fun p hp' => by
          rw [← hV] at hp'
          have := HP.out p (List.mem_of_mem_take hp')
          unfold Big; omega)
        have HC1 : Hid (Col2 w wr l V k ia ic sa k sc aa ac 0) := Lib.hid ⟨HC.out.it, by rw [← hV]; simpa using HC.out.st, by rw [← hV]; exact HC.out.al, HC.out.same, HC.out.tr⟩
        have hsb := HC.out.st.bound
        clear HC hTL hV
        go_wp2_with fail
        go_loopw [4, 8] (fun s i wr => ∃ (q m : Nat) (sa1 : Option Addr) (sc1 : Nat), s = .slice sa1 m sc1 ∧ i = .int .i64 (q : Int) ∧ q ≤ k ∧ Hid (m = k + q) ∧ Hid (Col2 w wr l V k ia ic sa1 m sc1 aa ac q)) (fun _ i _ => k - (intOf i).toNat)
        case atStart => exact ⟨0, k, sa, sc, rfl, rfl, Nat.zero_le _, Lib.hid rfl, HC1⟩
        case round =>
          clear HC1
          obtain ⟨q, m, sa1, sc1, rfl, rfl, hq, HM, HC⟩ := hrel
          have hbs := HC.out.st.bound
          have hmb : m ≤ 80 := by have := HM.out; omega
          by_cases hlq : q < k
          · have hlq' : (q : Int) < (k : Int) := by omega
            obtain ⟨XS, HXS⟩ : ∃ XS, Hid ((V.map sPut ++ List.replicate q sDeq).flatMap stc ++ [sDeq].flatMap stc = XS) := ⟨_, Lib.hid rfl⟩
            go_wp2_with (at_builtin; refine wpList_append (m + 1) XS rfl _ _ _ _ rfl slSt rfl (HC.out.st.1.keep (S := fun _ => False) (by repeat (first | exact Only.refl _ _ | apply Only.alloc | apply Only.drew)) (fun _ _ => id)) rfl (Src.row (size := 4) (cs := #[.int .i64 3, .int .i64 0, .int .i64 0, .slice none 0 0]) (t := 31) (fr := (0, 0)) Tryd.underlying24 (by exact heap_alloc_new _ _) 1 1 rfl (by simp [Value.oneCell'])) rfl HXS.out (by unfold maxLen; omega) (by omega) ?_)
            intro sa4 sc4 w6 hG
            have HC2 : Hid (Col2 w w6 l V k ia ic sa4 (m + 1) sc4 aa ac (q + 1)) := Lib.hid (by
              have hO : Only (At sa1) wr w6 := Only.trans (S := At sa1) ((Only.refl (At sa1) wr).alloc _) hG.only (fun _ _ h => h)
              have ht := HC.out.tr
              have hnw : ∀ j, At sa1 j → w.heap.size ≤ j := fun j hj => (ht.new j (.inr (.inl hj))).1
              have hs6 := new_only HC.out.same hO hnw
              have hst : OS 31 stc 4 w6 sa4 (m + 1) sc4 (V.map sPut ++ List.replicate (q + 1) sDeq) := ⟨by rw [List.replicate_succ', ← List.append_assoc, List.flatMap_append, HXS.out]; exact hG.own, by have := HC.out.st.2; simp only [List.length_append, List.length_replicate] at this ⊢; omega⟩
              exact ⟨HC.out.it.keep hO (fun j hj => ht.ab j hj), hst, HC.out.al.keep hO (fun j hj h2 => ht.bc j h2 hj), hs6, (Tr.grow ht.rot HC.out.same.size hO.size (fun j hj => (hG.fresh j hj).imp id (fun h => by have h' : wr.heap.size + 1 ≤ j := (by simpa using h); omega)) hst.1.lt).rot.rot⟩)
            have HM2 : Hid (m + 1 = k + (q + 1)) := Lib.hid (by have := HM.out; omega)
            clear hG HC HM
            go_wp2_with fail
            go_roundw
            case rel => exact ⟨q + 1, m + 1, sa4, sc4, rfl, by go_num, by omega, HM2, HC2⟩
            case measure => simp [intOf]; omega
          · have hlq' : ¬ (q : Int) < (k : Int) := by omega
            obtain rfl : q = k := by omega
            obtain ⟨p, HPP⟩ : ∃ p : pq.Stp, Hid (p = ⟨1, 0, ia, q, ic, itm l q⟩) := ⟨_, Lib.hid rfl⟩
            obtain ⟨p2, HP2⟩ : ∃ p : pq.Stp, Hid (p = ⟨2, (q : Int), none, 0, 0, []⟩) := ⟨_, Lib.hid rfl⟩
            have HPQ : Hid (Calls Tryd.prog 4 #[.int .i64 8, .bool true, .slice (some ⟨wr.heap.size, 0, none⟩) 2 2] (wr.alloc (.cells #[.int .i64 1, .int .i64 0, .slice ia q ic, .int .i64 2, .int .i64 (q : Int), .slice none 0 0] 35)) (pq.RunPost (wr.alloc (.cells #[.int .i64 1, .int .i64 0, .slice ia q ic, .int .i64 2, .int .i64 (q : Int), .slice none 0 0] 35)) [p, p2] 2)) := Lib.hid (by
              refine pq.pqRun 8 (by omega) _ 2 2 [p, p2] _ ⟨?_, rfl⟩ (by omega) (fun s hs => ?_) ?_
              · have := Own.of_block (e := 35) (size := 3) (cur := #[.int .i64 1, .int .i64 0, .slice ia q ic, .int .i64 2, .int .i64 (q : Int), .slice none 0 0]) (heap_alloc_new wr _) 2 2 (by omega) (by unfold maxLen; omega) rfl (by simp [Value.oneCell'])
                rw [HPP.out, HP2.out]
                exact this.rd
              · have hs2 : s = p ∨ s = p2 := by simpa using hs
                rcases hs2 with rfl | rfl
                · rw [HPP.out]
                  exact ⟨⟨⟨by show (1 : Int) ≤ 1; omega, by show (1 : Int) ≤ 5; omega⟩, fun _ => ⟨hkp, by show q ≤ 1000; omega⟩, fun e => absurd e (by show ¬ (1 : Int) = 2; omega), itm_len l q⟩, HC.out.it.rs.still ((Only.refl _ _).alloc _)⟩
                · rw [HP2.out]
                  exact ⟨⟨⟨by show (1 : Int) ≤ 2; omega, by show (2 : Int) ≤ 5; omega⟩, fun e => absurd e (by show ¬ (2 : Int) = 1; omega), fun _ => ⟨q, rfl, by omega, by omega⟩, rfl⟩, RS.nil _ _ _⟩
              · rw [HPP.out, HP2.out]
                show q + (0 + 0) < 100000
                omega)
            go_wp2_with fail
            refine HPQ.out.mono ?_
            rintro e w5 ⟨oa, oc, As, L, rfl, hrs, hits, hnew, hran, hs5⟩
            have hs15 : Same wr w5 := Only.trans ((Only.refl _ wr).alloc _) hs5 (fun _ _ h => h)
            obtain ⟨x0, y, rfl, hy1, hy2⟩ := pq_out (n := q) (R := itm l q) (by rw [HPP.out]) (by rw [HPP.out]) (by rw [HP2.out]) (by rw [HP2.out]) (itm_len l q) hkp hran
            rw [HKEY.out] at hy2
            have hry := (hits y (by simp)).1
            rw [hy1] at hry
            have HX : Hid (RS pq.anc 4 w5 oa 2 oc [x0, y] ∧ pq.RIt w5 y.a q y.cap y.L) := Lib.hid ⟨hrs, hry⟩
            have HFH : Hid (Calls Tryd.prog 5 #[.slice sa1 m sc1] w5 (fh.RunPost w5 (V.map sPut ++ List.replicate q sDeq) m)) := Lib.hid (by
              refine fhRun sa1 m sc1 _ w5 (HC.out.st.still hs15).rs (by omega) (fun s hs => ?_)
              rcases List.mem_append.1 hs with hs | hs
              · obtain ⟨p, hp', rfl⟩ := List.mem_map.1 hs
                exact ⟨⟨by show (1 : Int) ≤ 1 ∧ (1 : Int) ≤ 6; omega, HPV.out p hp', by show 0 ≤ 40; omega, rfl, fun p hp => absurd hp List.not_mem_nil⟩, RL.nil _ _⟩
              · obtain rfl := (List.mem_replicate.1 hs).2
                exact ⟨sDeq_ok, RL.nil _ _⟩)
            have HY := Lib.hid (And.intro hy1 hy2)
            have HS15 := Lib.hid hs15
            clear hrs hits hnew hran hs5 hry hy1 hy2 hs15 HPQ
            go_wp2_with fail
            refine HFH.out.mono ?_
            rintro e w6 ⟨ha, hc, Bs, S, rfl, hrs6, _, hran6, hs6⟩
            have hran7 : fh.Ran (V.map sPut ++ List.replicate V.length sDeq) Bs S := by rw [HTL.out]; exact hran6
            obtain ⟨hb1, hb2⟩ := fh_out hran7
            rw [HTL.out] at hb1 hb2
            have HB := Lib.hid (And.intro hrs6 (And.intro hb1 hb2))
            have HS6 := Lib.hid hs6
            have HIS : Hid (Calls Tryd.prog 6 #[.slice aa q ac] w6 (isl.SortedCopy V q w6)) := Lib.hid (isl.isSort_any aa q ac V w6 (((HC.out.al.still HS15.out).still hs6).1.rd) (by omega))
            clear hrs6 hran6 hran7 hs6 hb1 hb2 HFH
            go_wp2_with fail
            refine HIS.out.mono ?_
            rintro e w7 ⟨za, zc, rfl, hz1, hz2⟩
            have hsrt : Go.Proofs.YtpddddjfjmipfaaDoor.srt.isort V = rows.srt V := (Go.Proofs.YtpddddjfjmipfaaDoor.srt.isort_unique (srt_perm V) (srt_srt V)).symm
            rw [hsrt] at hz1
            obtain ⟨U, hU⟩ : ∃ U, rows.srt V = U := ⟨_, rfl⟩
            have HU := Lib.hid hU
            rw [hU] at hz1
            have hUl : U.length = q := by rw [← hU, (srt_perm V).length_eq, HTL.out]
            have HUL := Lib.hid hUl
            have HW7 : Hid (RS pq.anc 4 w7 oa 2 oc [x0, y] ∧ pq.RIt w7 y.a q y.cap y.L ∧ RS anc 5 w7 ha m hc Bs ∧ Same w w7) := Lib.hid ⟨(HX.out.1.still HS6.out).still hz2, (HX.out.2.still HS6.out).still hz2, HB.out.1.still hz2, (((HC.out.same.trans HS15.out).trans HS6.out).trans hz2)⟩
            have HKY : Hid (∀ i z, U[i]? = some z → (∃ t, y.L[i]? = some ⟨z, t⟩) ∧ ∃ b, Bs[q + i]? = some b ∧ b.p = z) := Lib.hid (fun i z hz => by
              have h1 := HY.out.2
              have h2 := HB.out.2.2
              rw [hU] at h1 h2
              constructor
              · rw [← h1, List.getElem?_map] at hz
                cases h9 : y.L[i]? with
                | none => rw [h9] at hz; cases hz
                | some u => rw [h9] at hz; obtain ⟨uk, ut⟩ := u; simp at hz; subst hz; exact ⟨ut, rfl⟩
              · rw [← h2, List.getElem?_map, List.getElem?_drop] at hz
                cases h9 : Bs[q + i]? with
                | none => rw [h9] at hz; cases hz
                | some u => rw [h9] at hz; simp at hz; exact ⟨u, rfl, hz⟩)
            obtain ⟨bz, offz, rfl, hbz, hcz⟩ := hz1.rd.cells hkp
            have HCZ : Hid (∀ i z, U[i]? = some z → w7.cell? ⟨bz, offz + i, none⟩ = some (.int .i64 z)) := Lib.hid (fun i z hz => hcz i _ (by unfold isl.I; rw [List.getElem?_map, hz]; rfl))
            obtain ⟨bx, offx, rfl, hbx, hcx⟩ := HW7.out.1.at pq.anc_len (by omega)
            have x1 : w7.cell? ⟨bx, offx + 4, none⟩ = some (.slice y.a q y.cap) := by rw [← HY.out.1]; exact hcx 1 y rfl 0 _ rfl
            obtain ⟨by', offy, hya, hby, hcy⟩ := HW7.out.2.1.at pq.itc_len hkp
            obtain ⟨bh, offh, rfl, hbh, hch⟩ := HW7.out.2.2.1.at anc_len (by have := HM.out; omega)
            rw [hya] at x1
            have HCY : Hid (∀ i u, y.L[i]? = some u → w7.cell? ⟨by', offy + i * 2, none⟩ = some (.int .i64 u.key)) := Lib.hid (fun i u hu => hcy i u hu 0 _ rfl)
            have HCH : Hid (∀ i u, Bs[i]? = some u → w7.cell? ⟨bh, offh + i * 5 + 2, none⟩ = some (.int .i64 u.p)) := Lib.hid (fun i u hu => hch i u hu 2 _ rfl)
            have e2 : (2 : Int) * (q : Int) = (m : Int) := by have := HM.out; omega
            have b1 := HW7.out.1.bound
            have b2 := HW7.out.2.1.bound
            have b3 := HW7.out.2.2.1.bound
            have b4 := hz1.bound
            have hqm : q ≤ m := by have := HM.out; omega
            clear hz1 hz2 hsrt hU hcz hcx hcy hch HIS HX HB hya hUl
            go_wp2_with fail
            go_loopw [12] (fun i wr => ∃ t : Nat, i = .int .i64 (t : Int) ∧ t ≤ q ∧ Hid (Same w7 wr)) (fun i _ => q - (intOf i).toNat)
            case atStart => exact ⟨0, rfl, Nat.zero_le _, Lib.hid (Only.refl _ _)⟩
            case round =>
              obtain ⟨t, rfl, ht, HI⟩ := hrel
              have x2 : wr.cell? ⟨bx, offx + 4, none⟩ = some (.slice (some ⟨by', offy, none⟩) q y.cap) := (HI.out.cell (p := ⟨bx, offx + 4, none⟩) hbx id).trans x1
              by_cases hlt3 : t < q
              · have hlt3' : (t : Int) < (q : Int) := by omega
                obtain ⟨z, hz⟩ : ∃ z, U[t]? = some z := ⟨_, List.getElem?_eq_getElem (by rw [HUL.out]; exact hlt3)⟩
                obtain ⟨⟨tg, hy5⟩, bb, hb5, hb6⟩ := HKY.out t z hz
                obtain ⟨qt, hqt⟩ : ∃ qt, q + t = qt := ⟨_, rfl⟩
                rw [hqt] at hb5
                have e3 : (q : Int) + (t : Int) = (qt : Int) := by omega
                have hqtm : (qt : Int) < (m : Int) := by have := HM.out; omega
                have hw1 : IntKind.i64.wrap (qt : Int) = (qt : Int) := IntWalk.i64_in _ (by omega)
                have f2 : wr.cell? ⟨by', offy + t * 2, none⟩ = some (.int .i64 z) := (HI.out.cell (p := ⟨by', offy + t * 2, none⟩) hby id).trans (HCY.out t _ hy5)
                have f3 : wr.cell? ⟨bz, offz + t, none⟩ = some (.int .i64 z) := (HI.out.cell (p := ⟨bz, offz + t, none⟩) hbz id).trans (HCZ.out t z hz)
                have f4 : wr.cell? ⟨bh, offh + qt * 5 + 2, none⟩ = some (.int .i64 z) := (HI.out.cell (p := ⟨bh, offh + qt * 5 + 2, none⟩) hbh id).trans (by rw [HCH.out qt bb hb5, hb6])
                clear hb5 hb6 hy5 hqt
                by_cases ht0 : t = 0
                · subst ht0
                  have q0 : decide ((0 : Int) < ((0 : Nat) : Int)) = false := by simp
                  have q0' : decide ((0 : Int) < 0) = false := by simp
                  rw [Nat.zero_mul, Nat.add_zero] at f2
                  rw [Nat.add_zero] at f3
                  have hw0 : IntKind.i64.wrap (q : Int) = (q : Int) := IntWalk.i64_in _ (by omega)
                  have hqm' : (q : Int) < (m : Int) := by have := HM.out; omega
                  obtain rfl : qt = q := by omega
                  clear hz HKY HCZ HCY HCH
                  go_wp2_with fail
                  go_quiet (fail)
                  have HI2 : Hid (Same w7 (wr.drewN nq)) := Lib.hid (HI.out.drewN nq)
                  generalize wr.drewN nq = w8 at HI2 ⊢
                  clear f2 f3 f4 HI x2 e3
                  go_wp2_with fail
                  go_roundw
                  case rel => exact ⟨0 + 1, by go_num, by omega, HI2⟩
                  case measure => simp [intOf]; omega
                · obtain ⟨t1, ht1⟩ : ∃ t1, t1 + 1 = t := ⟨t - 1, by omega⟩
                  have htq := HUL.out
                  obtain ⟨z1, hz1⟩ : ∃ z, U[t1]? = some z := ⟨_, List.getElem?_eq_getElem (by omega)⟩
                  have f5 : wr.cell? ⟨bz, offz + t1, none⟩ = some (.int .i64 z1) := (HI.out.cell (p := ⟨bz, offz + t1, none⟩) hbz id).trans (HCZ.out t1 z1 hz1)
                  have hle : z1 ≤ z := by
                    have h1 := srt_srt V
                    rw [HU.out] at h1
                    unfold fh.Srt at h1
                    rw [List.pairwise_iff_getElem] at h1
                    obtain ⟨g1, g2⟩ := List.getElem?_eq_some_iff.1 hz
                    obtain ⟨g3, g4⟩ := List.getElem?_eq_some_iff.1 hz1
                    have := h1 t1 t g3 g1 (by omega)
                    rwa [g2, g4] at this
                  have q0 : (0 : Int) < (t : Int) := by omega
                  have q0b : decide ((0 : Int) < (t : Int)) = true := decide_eq_true q0
                  have q0c : 0 < t := by omega
                  have q0d : decide (0 < t) = true := decide_eq_true q0c
                  have q1 : decide (z < z1) = false := decide_eq_false (by omega)
                  have e5 : (t : Int) - 1 = (t1 : Int) := by omega
                  have ht1q : (t1 : Int) < (q : Int) := by omega
                  have hw2 : IntKind.i64.wrap (t1 : Int) = (t1 : Int) := IntWalk.i64_in _ (by omega)
                  clear hz hz1 hle ht1 htq ht0 HKY HCZ HCY HCH
                  go_wp2_with fail
                  go_quiet (fail)
                  have HI2 : Hid (Same w7 (wr.drewN nq)) := Lib.hid (HI.out.drewN nq)
                  generalize wr.drewN nq = w8 at HI2 ⊢
                  clear f2 f3 f4 f5 HI x2 e3 e5 q1
                  go_wp2_with fail
                  go_roundw
                  case rel => exact ⟨t + 1, by go_num, by omega, HI2⟩
                  case measure => simp [intOf]; omega
              · have hlt3' : ¬ (t : Int) < (q : Int) := by omega
                have HF : Hid (Below w.heap.size w wr) := Lib.hid (Only.below (HW7.out.2.2.2.trans HI.out) (Nat.le_refl _) (fun _ _ => id))
                go_wp2_with fail
                go_ret
                exact ⟨rfl, HF.out⟩
    · have hlt' : ¬ (k : Int) < (n : Int) := by omega
      have hltd : decide ((k : Int) < (n : Int)) = false := decide_eq_false hlt'
      have HKN : Hid (k ≤ l.length) := Lib.hid (by rw [HR.out.2]; exact hk)
      have hTL : (l.take k).length = k := by rw [List.length_take, HR.out.2]; omega
      by_cases hk0 : k = 0
      · subst hk0
        have HF : Hid (Below w.heap.size w wr) := Lib.hid (Only.below HC.out.same (Nat.le_refl _) (fun _ _ => id))
        clear HC
        go_wp2_with fail
        go_ret
        exact ⟨rfl, HF.out⟩
      have hkp : 0 < k := by omega
      have hkp' : ¬ (k : Int) = 0 := by omega
      have hkp2 : ((k : Int) == 0) = false := by simpa using hkp'
      obtain ⟨V, hV⟩ : ∃ V, l.take k = V := ⟨_, rfl⟩
      have HTL : Hid (V.length = k) := Lib.hid (by rw [← hV]; exact hTL)
      have HKEY : Hid ((itm l k).map (·.key) = V) := Lib.hid (by rw [itm_key l k HKN.out, hV])
      have HPV : Hid (∀ p ∈ V, p.natAbs ≤ Big) := Lib.hid (fun p hp' => by
        rw [← hV] at hp'
        have := HP.out p (List.mem_of_mem_take hp')
        unfold Big; omega)
      have HC1 : Hid (Col2 w wr l V k ia ic sa k sc aa ac 0) := Lib.hid ⟨HC.out.it, by rw [← hV]; simpa using HC.out.st, by rw [← hV]; exact HC.out.al, HC.out.same, HC.out.tr⟩
      have hsb := HC.out.st.bound
      clear HC hTL hV
      go_wp2_with fail
      go_loopw [4, 8] (fun s i wr => ∃ (q m : Nat) (sa1 : Option Addr) (sc1 : Nat), s = .slice sa1 m sc1 ∧ i = .int .i64 (q : Int) ∧ q ≤ k ∧ Hid (m = k + q) ∧ Hid (Col2 w wr l V k ia ic sa1 m sc1 aa ac q)) (fun _ i _ => k - (intOf i).toNat)
      case atStart => exact ⟨0, k, sa, sc, rfl, rfl, Nat.zero_le _, Lib.hid rfl, HC1⟩
      case round =>
        clear HC1
        obtain ⟨q, m, sa1, sc1, rfl, rfl, hq, HM, HC⟩ := hrel
        have hbs := HC.out.st.bound
        have hmb : m ≤ 80 := by have := HM.out; omega
        by_cases hlq : q < k
        · have hlq' : (q : Int) < (k : Int) := by omega
          obtain ⟨XS, HXS⟩ : ∃ XS, Hid ((V.map sPut ++ List.replicate q sDeq).flatMap stc ++ [sDeq].flatMap stc = XS) := ⟨_, Lib.hid rfl⟩
          go_wp2_with (at_builtin; refine wpList_append (m + 1) XS rfl _ _ _ _ rfl slSt rfl (HC.out.st.1.keep (S := fun _ => False) (by repeat (first | exact Only.refl _ _ | apply Only.alloc | apply Only.drew)) (fun _ _ => id)) rfl (Src.row (size := 4) (cs := #[.int .i64 3, .int .i64 0, .int .i64 0, .slice none 0 0]) (t := 31) (fr := (0, 0)) Tryd.underlying24 (by exact heap_alloc_new _ _) 1 1 rfl (by simp [Value.oneCell'])) rfl HXS.out (by unfold maxLen; omega) (by omega) ?_)
          intro sa4 sc4 w6 hG
          have HC2 : Hid (Col2 w w6 l V k ia ic sa4 (m + 1) sc4 aa ac (q + 1)) := Lib.hid (by
            have hO : Only (At sa1) wr w6 := Only.trans (S := At sa1) ((Only.refl (At sa1) wr).alloc _) hG.only (fun _ _ h => h)
            have ht := HC.out.tr
            have hnw : ∀ j, At sa1 j → w.heap.size ≤ j := fun j hj => (ht.new j (.inr (.inl hj))).1
            have hs6 := new_only HC.out.same hO hnw
            have hst : OS 31 stc 4 w6 sa4 (m + 1) sc4 (V.map sPut ++ List.replicate (q + 1) sDeq) := ⟨by rw [List.replicate_succ', ← List.append_assoc, List.flatMap_append, HXS.out]; exact hG.own, by have := HC.out.st.2; simp only [List.length_append, List.length_replicate] at this ⊢; omega⟩
            exact ⟨HC.out.it.keep hO (fun j hj => ht.ab j hj), hst, HC.out.al.keep hO (fun j hj h2 => ht.bc j h2 hj), hs6, (Tr.grow ht.rot HC.out.same.size hO.size (fun j hj => (hG.fresh j hj).imp id (fun h => by have h' : wr.heap.size + 1 ≤ j := (by simpa using h); omega)) hst.1.lt).rot.rot⟩)
          have HM2 : Hid (m + 1 = k + (q + 1)) := Lib.hid (by have := HM.out; omega)
          clear hG HC HM
          go_wp2_with fail
          go_roundw
          case rel => exact ⟨q + 1, m + 1, sa4, sc4, rfl, by go_num, by omega, HM2, HC2⟩
          case measure => simp [intOf]; omega
        · have hlq' : ¬ (q : Int) < (k : Int) := by omega
          obtain rfl : q = k := by omega
          obtain ⟨p, HPP⟩ : ∃ p : pq.Stp, Hid (p = ⟨1, 0, ia, q, ic, itm l q⟩) := ⟨_, Lib.hid rfl⟩
          obtain ⟨p2, HP2⟩ : ∃ p : pq.Stp, Hid (p = ⟨2, (q : Int), none, 0, 0, []⟩) := ⟨_, Lib.hid rfl⟩
          have HPQ : Hid (Calls Tryd.prog 4 #[.int .i64 8, .bool true, .slice (some ⟨wr.heap.size, 0, none⟩) 2 2] (wr.alloc (.cells #[.int .i64 1, .int .i64 0, .slice ia q ic, .int .i64 2, .int .i64 (q : Int), .slice none 0 0] 35)) (pq.RunPost (wr.alloc (.cells #[.int .i64 1, .int .i64 0, .slice ia q ic, .int .i64 2, .int .i64 (q : Int), .slice none 0 0] 35)) [p, p2] 2)) := Lib.hid (by
            refine pq.pqRun 8 (by omega) _ 2 2 [p, p2] _ ⟨?_, rfl⟩ (by omega) (fun s hs => ?_) ?_
            · have := Own.of_block (e := 35) (size := 3) (cur := #[.int .i64 1, .int .i64 0, .slice ia q ic, .int .i64 2, .int .i64 (q : Int), .slice none 0 0]) (heap_alloc_new wr _) 2 2 (by omega) (by unfold maxLen; omega) rfl (by simp [Value.oneCell'])
              rw [HPP.out, HP2.out]
              exact this.rd
            · have hs2 : s = p ∨ s = p2 := by simpa using hs
              rcases hs2 with rfl | rfl
              · rw [HPP.out]
                exact ⟨⟨⟨by show (1 : Int) ≤ 1; omega, by show (1 : Int) ≤ 5; omega⟩, fun _ => ⟨hkp, by show q ≤ 1000; omega⟩, fun e => absurd e (by show ¬ (1 : Int) = 2; omega), itm_len l q⟩, HC.out.it.rs.still ((Only.refl _ _).alloc _)⟩
              · rw [HP2.out]
                exact ⟨⟨⟨by show (1 : Int) ≤ 2; omega, by show (2 : Int) ≤ 5; omega⟩, fun e => absurd e (by show ¬ (2 : Int) = 1; omega), fun _ => ⟨q, rfl, by omega, by omega⟩, rfl⟩, RS.nil _ _ _⟩
            · rw [HPP.out, HP2.out]
              show q + (0 + 0) < 100000
              omega)
          go_wp2_with fail
          refine HPQ.out.mono ?_
          rintro e w5 ⟨oa, oc, As, L, rfl, hrs, hits, hnew, hran, hs5⟩
          have hs15 : Same wr w5 := Only.trans ((Only.refl _ wr).alloc _) hs5 (fun _ _ h => h)
          obtain ⟨x0, y, rfl, hy1, hy2⟩ := pq_out (n := q) (R := itm l q) (by rw [HPP.out]) (by rw [HPP.out]) (by rw [HP2.out]) (by rw [HP2.out]) (itm_len l q) hkp hran
          rw [HKEY.out] at hy2
          have hry := (hits y (by simp)).1
          rw [hy1] at hry
          have HX : Hid (RS pq.anc 4 w5 oa 2 oc [x0, y] ∧ pq.RIt w5 y.a q y.cap y.L) := Lib.hid ⟨hrs, hry⟩
          have HFH : Hid (Calls Tryd.prog 5 #[.slice sa1 m sc1] w5 (fh.RunPost w5 (V.map sPut ++ List.replicate q sDeq) m)) := Lib.hid (by
            refine fhRun sa1 m sc1 _ w5 (HC.out.st.still hs15).rs (by omega) (fun s hs => ?_)
            rcases List.mem_append.1 hs with hs | hs
            · obtain ⟨p, hp', rfl⟩ := List.mem_map.1 hs
              exact ⟨⟨by show (1 : Int) ≤ 1 ∧ (1 : Int) ≤ 6; omega, HPV.out p hp', by show 0 ≤ 40; omega, rfl, fun p hp => absurd hp List.not_mem_nil⟩, RL.nil _ _⟩
            · obtain rfl := (List.mem_replicate.1 hs).2
              exact ⟨sDeq_ok, RL.nil _ _⟩)
          have HY := Lib.hid (And.intro hy1 hy2)
          have HS15 := Lib.hid hs15
          clear hrs hits hnew hran hs5 hry hy1 hy2 hs15 HPQ
          go_wp2_with fail
          refine HFH.out.mono ?_
          rintro e w6 ⟨ha, hc, Bs, S, rfl, hrs6, _, hran6, hs6⟩
          have hran7 : fh.Ran (V.map sPut ++ List.replicate V.length sDeq) Bs S := by rw [HTL.out]; exact hran6
          obtain ⟨hb1, hb2⟩ := fh_out hran7
          rw [HTL.out] at hb1 hb2
          have HB := Lib.hid (And.intro hrs6 (And.intro hb1 hb2))
          have HS6 := Lib.hid hs6
          have HIS : Hid (Calls Tryd.prog 6 #[.slice aa q ac] w6 (isl.SortedCopy V q w6)) := Lib.hid (isl.isSort_any aa q ac V w6 (((HC.out.al.still HS15.out).still hs6).1.rd) (by omega))
          clear hrs6 hran6 hran7 hs6 hb1 hb2 HFH
          go_wp2_with fail
          refine HIS.out.mono ?_
          rintro e w7 ⟨za, zc, rfl, hz1, hz2⟩
          have hsrt : Go.Proofs.YtpddddjfjmipfaaDoor.srt.isort V = rows.srt V := (Go.Proofs.YtpddddjfjmipfaaDoor.srt.isort_unique (srt_perm V) (srt_srt V)).symm
          rw [hsrt] at hz1
          obtain ⟨U, hU⟩ : ∃ U, rows.srt V = U := ⟨_, rfl⟩
          have HU := Lib.hid hU
          rw [hU] at hz1
          have hUl : U.length = q := by rw [← hU, (srt_perm V).length_eq, HTL.out]
          have HUL := Lib.hid hUl
          have HW7 : Hid (RS pq.anc 4 w7 oa 2 oc [x0, y] ∧ pq.RIt w7 y.a q y.cap y.L ∧ RS anc 5 w7 ha m hc Bs ∧ Same w w7) := Lib.hid ⟨(HX.out.1.still HS6.out).still hz2, (HX.out.2.still HS6.out).still hz2, HB.out.1.still hz2, (((HC.out.same.trans HS15.out).trans HS6.out).trans hz2)⟩
          have HKY : Hid (∀ i z, U[i]? = some z → (∃ t, y.L[i]? = some ⟨z, t⟩) ∧ ∃ b, Bs[q + i]? = some b ∧ b.p = z) := Lib.hid (fun i z hz => by
            have h1 := HY.out.2
            have h2 := HB.out.2.2
            rw [hU] at h1 h2
            constructor
            · rw [← h1, List.getElem?_map] at hz
              cases h9 : y.L[i]? with
              | none => rw [h9] at hz; cases hz
              | some u => rw [h9] at hz; obtain ⟨uk, ut⟩ := u; simp at hz; subst hz; exact ⟨ut, rfl⟩
            · rw [← h2, List.getElem?_map, List.getElem?_drop] at hz
              cases h9 : Bs[q + i]? with
              | none => rw [h9] at hz; cases hz
              | some u => rw [h9] at hz; simp at hz; exact ⟨u, rfl, hz⟩)
          obtain ⟨bz, offz, rfl, hbz, hcz⟩ := hz1.rd.cells hkp
          have HCZ : Hid (∀ i z, U[i]? = some z → w7.cell? ⟨bz, offz + i, none⟩ = some (.int .i64 z)) := Lib.hid (fun i z hz => hcz i _ (by unfold isl.I; rw [List.getElem?_map, hz]; rfl))
          obtain ⟨bx, offx, rfl, hbx, hcx⟩ := HW7.out.1.at pq.anc_len (by omega)
          have x1 : w7.cell? ⟨bx, offx + 4, none⟩ = some (.slice y.a q y.cap) := by rw [← HY.out.1]; exact hcx 1 y rfl 0 _ rfl
          obtain ⟨by', offy, hya, hby, hcy⟩ := HW7.out.2.1.at pq.itc_len hkp
          obtain ⟨bh, offh, rfl, hbh, hch⟩ := HW7.out.2.2.1.at anc_len (by have := HM.out; omega)
          rw [hya] at x1
          have HCY : Hid (∀ i u, y.L[i]? = some u → w7.cell? ⟨by', offy + i * 2, none⟩ = some (.int .i64 u.key)) := Lib.hid (fun i u hu => hcy i u hu 0 _ rfl)
          have HCH : Hid (∀ i u, Bs[i]? = some u → w7.cell? ⟨bh, offh + i * 5 + 2, none⟩ = some (.int .i64 u.p)) := Lib.hid (fun i u hu => hch i u hu 2 _ rfl)
          have e2 : (2 : Int) * (q : Int) = (m : Int) := by have := HM.out; omega
          have b1 := HW7.out.1.bound
          have b2 := HW7.out.2.1.bound
          have b3 := HW7.out.2.2.1.bound
          have b4 := hz1.bound
          have hqm : q ≤ m := by have := HM.out; omega
          clear hz1 hz2 hsrt hU hcz hcx hcy hch HIS HX HB hya hUl
          go_wp2_with fail
          go_loopw [12] (fun i wr => ∃ t : Nat, i = .int .i64 (t : Int) ∧ t ≤ q ∧ Hid (Same w7 wr)) (fun i _ => q - (intOf i).toNat)
          case atStart => exact ⟨0, rfl, Nat.zero_le _, Lib.hid (Only.refl _ _)⟩
          case round =>
            obtain ⟨t, rfl, ht, HI⟩ := hrel
            have x2 : wr.cell? ⟨bx, offx + 4, none⟩ = some (.slice (some ⟨by', offy, none⟩) q y.cap) := (HI.out.cell (p := ⟨bx, offx + 4, none⟩) hbx id).trans x1
            by_cases hlt3 : t < q
            · have hlt3' : (t : Int) < (q : Int) := by omega
              obtain ⟨z, hz⟩ : ∃ z, U[t]? = some z := ⟨_, List.getElem?_eq_getElem (by rw [HUL.out]; exact hlt3)⟩
              obtain ⟨⟨tg, hy5⟩, bb, hb5, hb6⟩ := HKY.out t z hz
              obtain ⟨qt, hqt⟩ : ∃ qt, q + t = qt := ⟨_, rfl⟩
              rw [hqt] at hb5
              have e3 : (q : Int) + (t : Int) = (qt : Int) := by omega
              have hqtm : (qt : Int) < (m : Int) := by have := HM.out; omega
              have hw1 : IntKind.i64.wrap (qt : Int) = (qt : Int) := IntWalk.i64_in _ (by omega)
              have f2 : wr.cell? ⟨by', offy + t * 2, none⟩ = some (.int .i64 z) := (HI.out.cell (p := ⟨by', offy + t * 2, none⟩) hby id).trans (HCY.out t _ hy5)
              have f3 : wr.cell? ⟨bz, offz + t, none⟩ = some (.int .i64 z) := (HI.out.cell (p := ⟨bz, offz + t, none⟩) hbz id).trans (HCZ.out t z hz)
              have f4 : wr.cell? ⟨bh, offh + qt * 5 + 2, none⟩ = some (.int .i64 z) := (HI.out.cell (p := ⟨bh, offh + qt * 5 + 2, none⟩) hbh id).trans (by rw [HCH.out qt bb hb5, hb6])
              clear hb5 hb6 hy5 hqt
              by_cases ht0 : t = 0
              · subst ht0
                have q0 : decide ((0 : Int) < ((0 : Nat) : Int)) = false := by simp
                have q0' : decide ((0 : Int) < 0) = false := by simp
                rw [Nat.zero_mul, Nat.add_zero] at f2
                rw [Nat.add_zero] at f3
                have hw0 : IntKind.i64.wrap (q : Int) = (q : Int) := IntWalk.i64_in _ (by omega)
                have hqm' : (q : Int) < (m : Int) := by have := HM.out; omega
                obtain rfl : qt = q := by omega
                clear hz HKY HCZ HCY HCH
                go_wp2_with fail
                go_quiet (fail)
                have HI2 : Hid (Same w7 (wr.drewN nq)) := Lib.hid (HI.out.drewN nq)
                generalize wr.drewN nq = w8 at HI2 ⊢
                clear f2 f3 f4 HI x2 e3
                go_wp2_with fail
                go_roundw
                case rel => exact ⟨0 + 1, by go_num, by omega, HI2⟩
                case measure => simp [intOf]; omega
              · obtain ⟨t1, ht1⟩ : ∃ t1, t1 + 1 = t := ⟨t - 1, by omega⟩
                have htq := HUL.out
                obtain ⟨z1, hz1⟩ : ∃ z, U[t1]? = some z := ⟨_, List.getElem?_eq_getElem (by omega)⟩
                have f5 : wr.cell? ⟨bz, offz + t1, none⟩ = some (.int .i64 z1) := (HI.out.cell (p := ⟨bz, offz + t1, none⟩) hbz id).trans (HCZ.out t1 z1 hz1)
                have hle : z1 ≤ z := by
                  have h1 := srt_srt V
                  rw [HU.out] at h1
                  unfold fh.Srt at h1
                  rw [List.pairwise_iff_getElem] at h1
                  obtain ⟨g1, g2⟩ := List.getElem?_eq_some_iff.1 hz
                  obtain ⟨g3, g4⟩ := List.getElem?_eq_some_iff.1 hz1
                  have := h1 t1 t g3 g1 (by omega)
                  rwa [g2, g4] at this
                have q0 : (0 : Int) < (t : Int) := by omega
                have q0b : decide ((0 : Int) < (t : Int)) = true := decide_eq_true q0
                have q0c : 0 < t := by omega
                have q0d : decide (0 < t) = true := decide_eq_true q0c
                have q1 : decide (z < z1) = false := decide_eq_false (by omega)
                have e5 : (t : Int) - 1 = (t1 : Int) := by omega
                have ht1q : (t1 : Int) < (q : Int) := by omega
                have hw2 : IntKind.i64.wrap (t1 : Int) = (t1 : Int) := IntWalk.i64_in _ (by omega)
                clear hz hz1 hle ht1 htq ht0 HKY HCZ HCY HCH
                go_wp2_with fail
                go_quiet (fail)
                have HI2 : Hid (Same w7 (wr.drewN nq)) := Lib.hid (HI.out.drewN nq)
                generalize wr.drewN nq = w8 at HI2 ⊢
                clear f2 f3 f4 f5 HI x2 e3 e5 q1
                go_wp2_with fail
                go_roundw
                case rel => exact ⟨t + 1, by go_num, by omega, HI2⟩
                case measure => simp [intOf]; omega
            · have hlt3' : ¬ (t : Int) < (q : Int) := by omega
              have HF : Hid (Below w.heap.size w wr) := Lib.hid (Only.below (HW7.out.2.2.2.trans HI.out) (Nat.le_refl _) (fun _ _ => id))
              go_wp2_with fail
              go_ret
              exact ⟨rfl, HF.out⟩
theorem walk (W : World) (v0 : Value) (r0 : Reads Tryd.prog W 22 v0) :
    Calls Tryd.prog 3 #[v0] W fun e w' => e = .returned (.bool true) ∧ Below W.heap.size W w' := by
  obtain ⟨a, n, cap, l, rfl, h, hp⟩ := read_i8 r0
  have hbd := h.bound
  by_cases hn : n ≤ 2147483647
  · exact main a n cap l W h hp hn
  · have HF : Hid (Below W.heap.size W W) := Lib.hid (Only.below (Only.refl (fun _ => False) _) (Nat.le_refl _) (fun _ _ => id))
    have q0 : (2147483647 : Int) < (n : Int) := by omega
    clear h hp
    go_enter Tryd.func3, Tryd.ntmps3
    go_wp2_with fail
    go_ret
    exact ⟨rfl, HF.out⟩
end Go.Proofs.YtpddddjfjmipfaaDoor.walkFnRoadHeaps
