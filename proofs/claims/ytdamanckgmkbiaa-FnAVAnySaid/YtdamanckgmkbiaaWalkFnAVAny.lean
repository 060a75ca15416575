/-
  FnAVAny: the walk.
-/
import Derived.Test.YtdamanckgmkbiaaAvPlan
import Derived.Test.YtdamanckgmkbiaaRead
import Derived.Test.YtdamanckgmkbiaaCut
namespace Go.Proofs.Ytdamanckgmkbiaa.walkFnAVAny
open Go.RowKit Go.Proofs.Ytdamanckgmkbiaa.base Go.Proofs.Ytdamanckgmkbiaa.heap Go.Proofs.Ytdamanckgmkbiaa.rows Go.Proofs.Ytdamanckgmkbiaa.av
set_option linter.unusedVariables false
theorem os_some {α : Type} {e : Nat} {c : α → List Value} {K : Nat} {w : World} {a : Option Addr} {n cap : Nat} {l : List α} (h : OS e c K w a n cap l) (hn : 0 < n) : ∃ g, a = some ⟨g, 0, none⟩ := by
  obtain ⟨b, h1, _⟩ := h.1.at hn
  exact ⟨b, h1⟩
theorem slSt : SliceOf Try.prog 22 40 3 40 := SliceOf.mk (z := .agg #[.int .i64 0, .int .i64 0, .slice none 0 0]) Try.underlying22 (by kernel_rfl) rfl
theorem steps_push {w wr w7 : World} {ta ta2 : Option Addr} {i tc tc2 fr : Nat} {Q : List Stp} {own other : List (Int × Int)} {kx tx : Int} {o1 o3 : Obj} (h : New 40 stc 3 w wr ta (i + 1) tc Q) (hp : Q.map sh = plan own (other.take i)) (he : ∀ s ∈ Q, OS 38 entc 2 wr s.a s.m s.cap s.E)
    (hG : Grew 40 3 (((wr.alloc o1).alloc (.cells #[.int .i64 kx, .int .i64 tx] 38)).alloc o3) w7 ta ta2 1 (i + 1 + 1) tc tc2 (Q.flatMap stc ++ [.int .i64 1, .int .i64 (fr : Int), .slice (some ⟨wr.heap.size + 1, 0, none⟩) 1 1])) (hx : other[i]? = some (kx, tx)) (hfr : fr = if i = 0 then 0 else i + 1) :
    New 40 stc 3 w w7 ta2 (i + 1 + 1) tc2 (Q ++ [(⟨1, fr, some ⟨wr.heap.size + 1, 0, none⟩, 1, 1, [(kx, tx)]⟩ : Stp)]) ∧ (Q ++ [(⟨1, fr, some ⟨wr.heap.size + 1, 0, none⟩, 1, 1, [(kx, tx)]⟩ : Stp)]).map sh = plan own (other.take (i + 1)) ∧ ∀ s ∈ Q ++ [(⟨1, fr, some ⟨wr.heap.size + 1, 0, none⟩, 1, 1, [(kx, tx)]⟩ : Stp)], OS 38 entc 2 w7 s.a s.m s.cap s.E := by
  have hS : Same wr (((wr.alloc o1).alloc (.cells #[.int .i64 kx, .int .i64 tx] 38)).alloc o3) := (((Only.refl _ wr).alloc _).alloc _).alloc _
  have h3 := h.still hS
  have hil : i < other.length := (List.getElem?_eq_some_iff.1 hx).1
  have hk : ∀ {a : Option Addr} {n c : Nat} {E : List (Int × Int)}, OS 38 entc 2 (((wr.alloc o1).alloc (.cells #[.int .i64 kx, .int .i64 tx] 38)).alloc o3) a n c E → OS 38 entc 2 w7 a n c E := fun ho => ho.keep hG.only (fun k hk hk2 => by
    obtain ⟨cs, hc⟩ := own_type ho hk
    exact row_ne h3 (by decide) k cs hk2 hc)
  refine ⟨h3.step (y := ⟨1, fr, some ⟨wr.heap.size + 1, 0, none⟩, 1, 1, [(kx, tx)]⟩) (Only.refl _ _) hG, ?_, fun s hs => ?_⟩
  · rw [List.map_append, hp, take_snoc other i _ hx, plan_snoc, List.length_take, Nat.min_eq_left (Nat.le_of_lt hil), ← hfr]
    rfl
  · rcases List.mem_append.1 hs with hs | hs
    · exact hk ((he s hs).still hS)
    · rw [List.mem_singleton.1 hs]
      refine hk ⟨?_, rfl⟩
      have hb : (((wr.alloc o1).alloc (.cells #[.int .i64 kx, .int .i64 tx] 38)).alloc o3).heap[wr.heap.size + 1]? = some (.cells #[.int .i64 kx, .int .i64 tx] 38 (0, 0)) := heap_still (w := (wr.alloc o1).alloc (.cells #[.int .i64 kx, .int .i64 tx] 38)) ((Only.refl _ _).alloc _) (heap_alloc_new' (wr.alloc o1) _ _ (by simp only [World.alloc, Array.size_push]))
      exact Own.of_block (e := 38) (size := 2) hb 1 1 (Nat.le_refl _) (by decide) rfl (by simp [Value.oneCell'])
/-- one that is right -/
def GoodX (own : List (Int × Int)) (q : Nat) (w : World) (x : Anw) : Prop := x.m = q ∧ x.n = q ∧ RS entc 2 w x.sa q x.sc own ∧ ∃ B, RS boolc 1 w x.ha q x.hc B ∧ ∀ b ∈ B, b = true
structure Kept2 (own : List (Int × Int)) (q : Nat) (w : World) (xa : Option Addr) (xc : Nat) (ws : List Anw) : Prop where
  row : RS anc 3 w xa (q + 2) xc ws
  len : ws.length = q + 2
  x0 : ∃ x, ws[0]? = some x ∧ x.m = 0
  x1 : ∃ x, ws[1]? = some x ∧ GoodX own q w x
  x2 : ∃ x, ws[q + 1]? = some x ∧ GoodX own q w x
theorem good_of {w w' : World} {x : Anw} {own M : List (Int × Int)} {q : Nat} (h : AnwOk w w' x) (hx : x.an = ⟨M.length, saidGet M (asks (own.map Prod.fst))⟩) (hp : M.Perm own) (hd : Dif own) (hq : own.length = q) : GoodX own q w' x := by
  have hm : x.m = M.length := congrArg An.m hx
  have hy : x.Y = saidGet M (asks (own.map Prod.fst)) := congrArg An.Y hx
  obtain ⟨k1, k2⟩ := said_kv hp hd
  have hn : x.n = q := by
    rw [h.n, hy]
    unfold saidGet asks
    rw [List.length_map, List.length_map, List.length_map, hq]
  refine ⟨by rw [hm, hp.length_eq, hq], hn, ?_, _, ?_, k2⟩
  · have h1 := h.s.row.rs
    rw [hn, hy, k1] at h1
    exact h1
  · have h1 := h.h.row.rs
    rw [hn, hy] at h1
    exact h1
theorem kept_of {w w' : World} {own other : List (Int × Int)} {Q : List Stp} {q xc : Nat} {xa : Option Addr} {ws : List Anw} (hpl : Q.map sh = plan own other) (hd : Dif own) (hp : other.Perm own) (hq : own.length = q) (h0 : 0 < q) (h : New 32 anc 3 w w' xa ws.length xc ws) (hok : ∀ x ∈ ws, AnwOk w w' x) (han : ws.map Anw.an = (run Q).Ls.map (fun L => (⟨L.length, saidGet L (asks (own.map Prod.fst))⟩ : An))) : Kept2 own q w' xa xc ws := by
  obtain ⟨e1, e2, e3, e4⟩ := plan_end hpl hd hp
  rw [hq] at e1 e4
  have hl : ws.length = q + 2 := by
    have := congrArg List.length han
    rw [List.length_map, List.length_map, e1] at this
    exact this
  have hget : ∀ (k : Nat) (M : List (Int × Int)), (run Q).Ls[k]? = some M → ∃ x : Anw, ws[k]? = some x ∧ x.an = (⟨M.length, saidGet M (asks (own.map Prod.fst))⟩ : An) := fun k M hM => by
    have h1 : (ws.map Anw.an)[k]? = some ⟨M.length, saidGet M (asks (own.map Prod.fst))⟩ := by rw [han, List.getElem?_map, hM]; rfl
    rw [List.getElem?_map] at h1
    cases hx : ws[k]? with
    | none => rw [hx] at h1; cases h1
    | some x => rw [hx] at h1; exact ⟨x, rfl, Option.some.inj h1⟩
  refine ⟨?_, hl, ?_, ?_, ?_⟩
  · have h1 := h.row.rs
    rw [hl] at h1
    exact h1
  · obtain ⟨x, h1, h2⟩ := hget 0 [] e2
    exact ⟨x, h1, congrArg An.m h2⟩
  · obtain ⟨x, h1, h2⟩ := hget 1 own e3
    exact ⟨x, h1, good_of (hok x (List.mem_of_getElem? h1)) h2 (List.Perm.refl _) hd hq⟩
  · obtain ⟨x, h1, h2⟩ := hget (q + 1) other (e4 h0)
    exact ⟨x, h1, good_of (hok x (List.mem_of_getElem? h1)) h2 hp hd hq⟩
theorem new_iv {w wr : World} {a : Option Addr} {n cap : Nat} {l : List Int} (h : New 3 ic 1 w wr a n cap l) : RL iv wr a n cap l := RS.rl (f := iv) h.row.rs
theorem grow_new {w w5 w6 : World} {a a4 : Option Addr} {n m k cap c4 : Nat} {l o : List (Int × Int)} {XB : List Value} (h : New 38 entc 2 w w5 a n cap l) (hG : Grew 38 2 w5 w6 a a4 m k cap c4 XB) (hx : XB = o.flatMap entc) (hl : o.length = k) : New 38 entc 2 w w6 a4 k c4 o := by
  refine ⟨⟨by rw [← hx]; exact hG.own, hl⟩, new_only h.same hG.only h.new, fun j hj => ?_⟩
  have := h.same.size
  rcases hG.fresh j hj with h1 | h1
  · exact h.new j h1
  · omega
set_option maxRecDepth 100000 in
set_option maxHeartbeats 4000000 in
theorem main (a : Option Addr) (n cap t : Nat) (l : List (Int × Int)) (W : World) (h : RS entc 2 W a n cap l) (ht : t < 256) :
    Calls Try.prog 4 #[.slice a n cap, .int .u8 (t : Int)] W fun e w' => e = .returned (.bool true) ∧ Below W.heap.size W w' := by
  have hbd := h.bound
  by_cases hbig : n > 2147483647
  · have hbig' : (n : Int) > 2147483647 := by omega
    clear h
    go_enter Try.func4, Try.ntmps4
    go_wp2_with fail
    go_ret
    exact ⟨rfl, (Only.refl (fun _ => False) W).below (Nat.le_refl _) (fun _ _ h => h)⟩
  have hsm : ¬ (n : Int) > 2147483647 := by omega
  have HF := Lib.hid (firstC h (by omega))
  have HFL : Hid ((firstL l).length ≤ n) := Lib.hid (by rw [← h.2]; exact first_len l)
  have HD := Lib.hid (first_dif l)
  clear h hbig
  obtain ⟨own, hown⟩ : ∃ own, firstL l = own := ⟨_, rfl⟩
  rw [hown] at HF HFL HD
  clear hown
  obtain ⟨q, hq⟩ : ∃ q, own.length = q := ⟨_, rfl⟩
  unfold NewE at HF
  rw [hq] at HF HFL
  have HQ := Lib.hid hq
  clear hq
  go_enter Try.func4, Try.ntmps4
  go_upto_region 4 with (first | (go_at_call 11; refine HF.out.mono ?_; go_loud (rintro e w3 ⟨oa, oc, rfl, hN⟩; have HO := Lib.hid hN; clear hN)) | fail)
  by_cases hq0 : q = 0
  · have hq0' : (q : Int) = 0 := by omega
    go_wp2_with fail
    go_ret
    exact ⟨rfl, HO.out.same.below (Nat.le_refl _) (fun _ _ h => h)⟩
  have hq0' : ¬ (q : Int) = 0 := by omega
  by_cases hn60 : n > 60
  · have hn60' : (n : Int) > 60 := by omega
    go_wp2_with fail
    go_ret
    exact ⟨rfl, HO.out.same.below (Nat.le_refl _) (fun _ _ h => h)⟩
  have hn60' : ¬ (n : Int) > 60 := by omega
  have hqn : q ≤ 60 := by have := HFL.out; omega
  obtain ⟨at', hat⟩ : ∃ k, t % q = k := ⟨_, rfl⟩
  have hatq : at' < q := by rw [← hat]; exact Nat.mod_lt _ (by omega)
  have r1 : (t : Int).tmod (q : Int) = (at' : Int) := by rw [← hat]; exact (Int.ofNat_tmod _ _).symm
  clear hat
  go_upto_region 7 with fail
  obtain ⟨g, rfl⟩ := os_some HO.out.row (by omega)
  have hbo := HO.out.row.bound
  obtain ⟨oth, hoth⟩ : ∃ oth, own.drop at' ++ own.take at' = oth := ⟨_, rfl⟩
  have HOT : Hid (oth.Perm own ∧ oth.length = q) := Lib.hid (by
    have h : oth.Perm own := by rw [← hoth]; exact (List.perm_append_comm).trans (by rw [List.take_append_drop])
    exact ⟨h, by rw [h.length_eq, HQ.out]⟩)
  obtain ⟨XD, HXD⟩ : ∃ XD, Hid ((own.drop at').flatMap entc = XD) := ⟨_, Lib.hid rfl⟩
  obtain ⟨XB, HXB⟩ : ∃ XB, Hid (XD ++ (own.take at').flatMap entc = XB) := ⟨_, Lib.hid rfl⟩
  have HXO : Hid (XB = oth.flatMap entc) := Lib.hid (by rw [← HXB.out, ← HXD.out, ← hoth, List.flatMap_append])
  have HSD : Hid (∀ wx, Same w3 wx → Src Try.prog 2 29 (.slice (some ⟨g, at' * 2, none⟩) (q - at') (oc - at')) (q - at') XD wx) := Lib.hid (fun wx hx => by
    have h := ((HO.out.row.rs.still hx).1.drop (k := at') (by omega)).src Try.underlying29
    rw [← flatMap_drop entc_len, HXD.out, Nat.zero_add] at h
    exact h)
  have HST : Hid (∀ wx, Same w3 wx → Src Try.prog 2 29 (.slice (some ⟨g, 0, none⟩) at' oc) at' ((own.take at').flatMap entc) wx) := Lib.hid (fun wx hx => by
    have h := ((HO.out.row.rs.still hx).1.take (k := at') (c := oc) (by omega) (by omega) (Nat.le_refl _)).src Try.underlying29
    rw [← flatMap_take entc_len] at h
    exact h)
  have s1 : (0 : Int) ≤ (at' : Int) := by omega
  have s2 : (at' : Int) ≤ (q : Int) := by omega
  have s3 : (at' : Int) ≤ (oc : Int) := by omega
  have s4 : ¬ oc = at' := by omega
  have s5 : (q : Int) ≤ (oc : Int) := by omega
  have s6 : ¬ (oc : Int) = (at' : Int) := by omega
  have hqa : q - at' + at' = q := by omega
  have HQA := Lib.hid hqa
  have HXL : Hid ((own.drop at').length = q - at') := Lib.hid (by rw [List.length_drop, HQ.out])
  clear hoth r1 hqa
  go_cut [7] (fun s7 wx => ∃ (a4 : Option Addr) (c4 : Nat), s7 = .slice a4 q c4 ∧ Hid (New 38 entc 2 w3 wx a4 q c4 oth))
  case first =>
    clear HO HF HD HQ
    go_region_law (first
      | ((with_reducible show (ite _ (Oper.wp _ _ _ (World.drew w3) _ _) _)); go_loud (refine step_app (q - at') XD (by rfl) _ _ _ _ (by rfl) slAE ?_ (Own.nil _ _ _) ?_ (HSD.out _ (Only.drew (Only.refl _ _))) (Nat.zero_add _) (List.nil_append _) (by unfold maxLen; omega) (by omega) ?_; (go_simp); (go_simp); intro a2 c2 w5 hG; have HA : Hid (New 38 entc 2 w3 w5 a2 (q - at') c2 (own.drop at')) := Lib.hid ⟨⟨by rw [HXD.out]; exact hG.own, by have := HOT.out.2; have := HXL.out; omega⟩, Only.trans (S := fun _ => False) ((Only.refl _ w3).drew) hG.only (fun _ _ h => h.elim), fun k hk => (hG.fresh k hk).resolve_left id⟩; have HAO := Lib.hid hG.own; clear hG))
      | ((with_reducible show (ite _ (Oper.wp _ _ _ w5 _ _) _)); go_loud (refine step_app q XB (by rfl) _ _ _ _ (by rfl) slAE ?_ HAO.out ?_ (HST.out _ HA.out.same) HQA.out HXB.out (by unfold maxLen; omega) (by omega) ?_; (go_simp); (go_simp); intro a4 c4 w6 hG; have HB : Hid (New 38 entc 2 w3 w6 a4 q c4 oth) := Lib.hid (grow_new HA.out hG HXO.out HOT.out.2); clear hG))
      | fail)
    all_goals
      go_wp2_with fail
      go_meet
      exact ⟨a4, c4, rfl, HB⟩
  case rest =>
    obtain ⟨a4, c4, rfl, HB⟩ := hcut
    obtain ⟨g4, rfl⟩ := os_some HB.out.row (by omega)
    have HRV := Lib.hid (reverseE HB.out.row (by omega) (by omega))
    clear HSD HST s1 s2 s3 s4 s5 s6 HXD HXB HXO HXL HQA
    go_upto_region 9 with (first | (go_at_call 12; refine HRV.out.mono ?_; go_loud (rintro e w5 ⟨rfl, other, hO5, hP5, hon⟩; have HR5 : Hid (New 38 entc 2 w3 w5 (some ⟨g4, 0, none⟩) q c4 other ∧ other.Perm own) := Lib.hid ⟨⟨hO5, new_only HB.out.same hon HB.out.new, HB.out.new⟩, hP5.trans HOT.out.1⟩; clear hO5 hP5 hon)) | fail)
    clear HRV HB HOT
    have HJ0 : Hid (New 40 stc 3 w5 (w5.alloc (.cells #[.int .i64 1, .int .i64 0, .slice (some ⟨g, 0, none⟩) q oc] 40)) (some ⟨w5.heap.size, 0, none⟩) 1 1 [⟨1, 0, some ⟨g, 0, none⟩, q, oc, own⟩] ∧ [(⟨1, 0, some ⟨g, 0, none⟩, q, oc, own⟩ : Stp)].map sh = plan own (other.take 0) ∧ ∀ s ∈ [(⟨1, 0, some ⟨g, 0, none⟩, q, oc, own⟩ : Stp)], OS 38 entc 2 (w5.alloc (.cells #[.int .i64 1, .int .i64 0, .slice (some ⟨g, 0, none⟩) q oc] 40)) s.a s.m s.cap s.E) := Lib.hid (by
      have hs : Same w5 (w5.alloc (.cells #[.int .i64 1, .int .i64 0, .slice (some ⟨g, 0, none⟩) q oc] 40)) := (Only.refl _ _).alloc _
      refine ⟨⟨⟨?_, rfl⟩, hs, fun k hk => (by cases hk; exact Nat.le_refl _)⟩, ?_, fun s hs2 => ?_⟩
      · exact Own.of_block (e := 40) (size := 3) (heap_alloc_new' w5 (.cells #[.int .i64 1, .int .i64 0, .slice (some ⟨g, 0, none⟩) q oc] 40) _ rfl) 1 1 (Nat.le_refl _) (by decide) rfl (by simp [Value.oneCell'])
      · show [((1 : Int), 0, own, q)] = [(1, 0, own, own.length)]
        rw [HQ.out]
      · rw [List.mem_singleton.1 hs2]
        exact HO.out.row.still (HR5.out.1.same.trans hs))
    go_wp2_with fail
    go_loopw [8, 50] (fun s8 s50 wr => ∃ (i : Nat) (ta : Option Addr) (tc : Nat) (Q : List Stp), s8 = .slice ta (i + 1) tc ∧ s50 = .int .i64 (i : Int) ∧ i ≤ q ∧ Hid (New 40 stc 3 w5 wr ta (i + 1) tc Q ∧ Q.map sh = plan own (other.take i) ∧ ∀ s ∈ Q, OS 38 entc 2 wr s.a s.m s.cap s.E)) (fun _ i _ => q - (intOf i).toNat)
    case atStart => exact ⟨0, _, 1, _, rfl, rfl, Nat.zero_le _, HJ0⟩
    case round =>
      clear HJ0
      obtain ⟨i, ta, tc, Q, rfl, rfl, hi, HJ⟩ := hrel
      have hbt := HJ.out.1.row.bound
      by_cases hlt : i < q
      · have hlt' : (i : Int) < (q : Int) := by omega
        obtain ⟨⟨kx, tx⟩, hx⟩ := HR5.out.1.row.rs.get hlt
        obtain ⟨b, off, hea, hb, hc⟩ := (HR5.out.1.row.rs.still HJ.out.1.same).at entc_len (by omega)
        simp only [Option.some.injEq, Addr.mk.injEq] at hea
        obtain ⟨rfl, rfl, _⟩ := hea
        have c0 : wr.cell? ⟨g4, i * 2, none⟩ = some (.int .i64 kx) := by have h := hc i _ hx 0 _ rfl; rw [Nat.zero_add] at h; exact h
        have c1 : wr.cell? ⟨g4, i * 2 + 1, none⟩ = some (.int .i64 tx) := by have h := hc i _ hx 1 _ rfl; rw [Nat.zero_add] at h; exact h
        have HX := Lib.hid hx
        clear hc hx
        by_cases hi0 : i = 0
        · subst hi0
          have hi0' : ¬ ((0 : Nat) : Int) > 0 := by omega
          go_wp2_with (at_builtin; refine wpList_append (0 + 1 + 1) (Q.flatMap stc ++ [.int .i64 1, .int .i64 0, .slice (some ⟨wr.heap.size + 1, 0, none⟩) 1 1]) rfl _ _ _ _ rfl slSt rfl (HJ.out.1.row.1.keep (S := fun _ => False) (by repeat (first | exact Only.refl _ _ | apply Only.alloc | apply Only.drew)) (fun _ _ => id)) rfl (Src.row (size := 3) (cs := #[.int .i64 1, .int .i64 0, .slice (some ⟨wr.heap.size + 1, 0, none⟩) 1 1]) (t := 40) (fr := (0, 0)) Try.underlying22 (by exact heap_alloc_new' _ _ _ (by simp)) 1 1 rfl (by simp [Value.oneCell'])) rfl rfl (by unfold maxLen; omega) (by omega) ?_)
          intro ta2 tc2 w7 hG
          have HJ2 : Hid (New 40 stc 3 w5 w7 ta2 (0 + 1 + 1) tc2 (Q ++ [(⟨1, 0, some ⟨wr.heap.size + 1, 0, none⟩, 1, 1, [(kx, tx)]⟩ : Stp)]) ∧ (Q ++ [(⟨1, 0, some ⟨wr.heap.size + 1, 0, none⟩, 1, 1, [(kx, tx)]⟩ : Stp)]).map sh = plan own (other.take (0 + 1)) ∧ ∀ s ∈ Q ++ [(⟨1, 0, some ⟨wr.heap.size + 1, 0, none⟩, 1, 1, [(kx, tx)]⟩ : Stp)], OS 38 entc 2 w7 s.a s.m s.cap s.E) := Lib.hid (steps_push HJ.out.1 HJ.out.2.1 HJ.out.2.2 hG HX.out rfl)
          clear hG
          go_wp2_with fail
          go_roundw
          case rel => exact ⟨0 + 1, ta2, tc2, _, rfl, by go_num, by omega, HJ2⟩
          case measure => simp [intOf]; omega
        · have hi0' : (i : Int) > 0 := by omega
          go_wp2_with (at_builtin; refine wpList_append (i + 1 + 1) (Q.flatMap stc ++ [.int .i64 1, .int .i64 ((i : Int) + 1), .slice (some ⟨wr.heap.size + 1, 0, none⟩) 1 1]) rfl _ _ _ _ rfl slSt rfl (HJ.out.1.row.1.keep (S := fun _ => False) (by repeat (first | exact Only.refl _ _ | apply Only.alloc | apply Only.drew)) (fun _ _ => id)) rfl (Src.row (size := 3) (cs := #[.int .i64 1, .int .i64 ((i : Int) + 1), .slice (some ⟨wr.heap.size + 1, 0, none⟩) 1 1]) (t := 40) (fr := (0, 0)) Try.underlying22 (by exact heap_alloc_new' _ _ _ (by simp)) 1 1 rfl (by simp [Value.oneCell'])) rfl rfl (by unfold maxLen; omega) (by omega) ?_)
          intro ta2 tc2 w7 hG
          have HJ2 : Hid (New 40 stc 3 w5 w7 ta2 (i + 1 + 1) tc2 (Q ++ [(⟨1, (i + 1), some ⟨wr.heap.size + 1, 0, none⟩, 1, 1, [(kx, tx)]⟩ : Stp)]) ∧ (Q ++ [(⟨1, (i + 1), some ⟨wr.heap.size + 1, 0, none⟩, 1, 1, [(kx, tx)]⟩ : Stp)]).map sh = plan own (other.take (i + 1)) ∧ ∀ s ∈ Q ++ [(⟨1, (i + 1), some ⟨wr.heap.size + 1, 0, none⟩, 1, 1, [(kx, tx)]⟩ : Stp)], OS 38 entc 2 w7 s.a s.m s.cap s.E) := Lib.hid (steps_push HJ.out.1 HJ.out.2.1 HJ.out.2.2 hG HX.out (by rw [if_neg hi0]))
          clear hG
          go_wp2_with fail
          go_roundw
          case rel => exact ⟨i + 1, ta2, tc2, _, rfl, by go_num, by omega, HJ2⟩
          case measure => simp [intOf]; omega
      · have hlt' : ¬ (i : Int) < (q : Int) := by omega
        obtain rfl : i = q := by omega
        have hpl : Q.map sh = plan own other := by
          have h := HJ.out.2.1
          rwa [List.take_of_length_le (by rw [HR5.out.1.row.2]; exact Nat.le_refl _)] at h
        have HPL := Lib.hid hpl
        have hfine : Fine Q := plan_fine hpl (by rw [HQ.out]; omega) (by rw [HQ.out]; omega) (by rw [HR5.out.1.row.2]; omega)
        have HFN := Lib.hid hfine
        obtain ⟨w8, hw8⟩ : ∃ w8, wr = w8 := ⟨_, rfl⟩
        rw [hw8] at HJ ⊢
        clear hw8 hpl hfine
        have HS8 : Hid (Same W w8) := Lib.hid ((HO.out.same.trans HR5.out.1.same).trans HJ.out.1.same)
        have HOW : Hid (RS entc 2 w8 (some ⟨g, 0, none⟩) i oc own) := Lib.hid (HO.out.row.rs.still (HR5.out.1.same.trans HJ.out.1.same))
        have HC1 : Hid (∀ wx, Same w8 wx → Calls Try.prog 13 #[.slice (some ⟨g, 0, none⟩) i oc] wx (fun e w' => ∃ ka kc qa qc, e = .returned (.tuple #[.slice ka i kc, .slice qa i qc]) ∧ RL iv w' ka i kc (own.map Prod.fst) ∧ Same w8 w')) := Lib.hid (fun wx hx => (keysC (HOW.out.still hx) (by omega)).mono (fun e w' h => by
          obtain ⟨ka, kc, qa, qc, h1, h2, h3⟩ := h
          rw [HQ.out] at h1 h2
          exact ⟨ka, kc, qa, qc, h1, new_iv h2, hx.trans h2.same⟩))
        have HC2 : Hid (∀ wx ka kc, RL iv wx ka i kc (own.map Prod.fst) → Same w8 wx → Calls Try.prog 14 #[.slice ta (i + 1) tc, .slice ka i kc] wx (fun e w' => ∃ xa xc ws, e = .returned (.slice xa (i + 2) xc) ∧ Kept2 own i w' xa xc ws ∧ Same w8 w')) := Lib.hid (fun wx ka kc hk hx => (keepC (HJ.out.1.row.rs.still hx) (fun s hs => (HJ.out.2.2 s hs).rs.still hx) HFN.out hk (by omega)).mono (fun e w' h => by
          obtain ⟨xa, xc, ws, h1, h2, h3, h4⟩ := h
          have h5 := kept_of HPL.out HD.out HR5.out.2 HQ.out (by omega) h2 h3 h4
          rw [h5.len] at h1
          exact ⟨xa, xc, ws, h1, h5, hx.trans h2.same⟩))
        clear HF HFL HO HR5 hbo hbt HJ
        go_upto_region 22 with (first
          | (go_at_call 13; refine (HC1.out _ (by with_reducible repeat (first | exact Only.refl _ _ | apply Only.alloc | apply Only.drew))).mono ?_; go_loud (rintro e w9 ⟨ka, kc, qa, qc, rfl, hK, hs9⟩; have HK := Lib.hid (And.intro hK hs9); clear hK hs9))
          | (go_at_call 14; refine (HC2.out _ _ _ HK.out.1 HK.out.2).mono ?_; go_loud (rintro e w10 ⟨xa, xc, ws, rfl, hX, hs10⟩; have HX := Lib.hid (And.intro hX hs10); clear hX hs10))
          | fail)
        obtain ⟨x0, hx0, hm0⟩ := HX.out.1.x0
        obtain ⟨x1, hx1, hg1⟩ := HX.out.1.x1
        obtain ⟨x2, hx2, hg2⟩ := HX.out.1.x2
        obtain ⟨kb, ko, rfl, hkb, hkc⟩ := HX.out.1.row.at (c := anc) (fun _ => rfl) (by omega)
        obtain ⟨hm1, hn1, _⟩ := hg1
        obtain ⟨hm2, hn2, _⟩ := hg2
        have y0 : w10.cell? ⟨kb, ko, none⟩ = some (.int .i64 0) := by have h := hkc 0 x0 hx0 0 _ rfl; rw [hm0] at h; exact h
        have y1 : w10.cell? ⟨kb, ko + 3, none⟩ = some (.int .i64 (i : Int)) := by have h := hkc 1 x1 hx1 0 _ rfl; rw [hm1] at h; exact h
        have y2 : w10.cell? ⟨kb, ko + 3 + 1, none⟩ = some (.slice x1.sa i x1.sc) := by have h := hkc 1 x1 hx1 1 _ rfl; rw [hn1] at h; exact h
        have y3 : w10.cell? ⟨kb, ko + 3 + 2, none⟩ = some (.slice x1.ha i x1.hc) := by have h := hkc 1 x1 hx1 2 _ rfl; rw [hn1] at h; exact h
        have z1 : w10.cell? ⟨kb, ko + (i + 1) * 3, none⟩ = some (.int .i64 (i : Int)) := by have h := hkc (i + 1) x2 hx2 0 _ rfl; rw [hm2] at h; exact h
        have z2 : w10.cell? ⟨kb, ko + (i + 1) * 3 + 1, none⟩ = some (.slice x2.sa i x2.sc) := by have h := hkc (i + 1) x2 hx2 1 _ rfl; rw [hn2] at h; exact h
        have z3 : w10.cell? ⟨kb, ko + (i + 1) * 3 + 2, none⟩ = some (.slice x2.ha i x2.hc) := by have h := hkc (i + 1) x2 hx2 2 _ rfl; rw [hn2] at h; exact h
        have HG1 : Hid (GoodX own i w10 x1) := Lib.hid (by obtain ⟨x, h1, h2⟩ := HX.out.1.x1; rw [hx1] at h1; cases h1; exact h2)
        have HG2 : Hid (GoodX own i w10 x2) := Lib.hid (by obtain ⟨x, h1, h2⟩ := HX.out.1.x2; rw [hx2] at h1; cases h1; exact h2)
        have b1 : (1 : Int) < ((i + 2 : Nat) : Int) := by omega
        have b2 : (0 : Int) ≤ (i : Int) + 1 := by omega
        have b3 : (i : Int) + 1 < (i : Int) + 2 := by omega
        have b4 : (1 : Int) < (i : Int) + 2 := by omega
        have b5 : ((i : Int) + 1).toNat = i + 1 := by omega
        clear hx0 hx1 hx2 hm0 hm1 hm2 hn1 hn2 hkc
        go_region
        have hrow := heap_alloc_new' w10 (.cells #[.int .i64 (i : Int), .slice x1.sa i x1.sc, .slice x1.ha i x1.hc, .int .i64 (i : Int), .slice x2.sa i x2.sc, .slice x2.ha i x2.hc] 32) _ rfl
        have HS11 : Hid (Same w8 (w10.alloc (.cells #[.int .i64 (i : Int), .slice x1.sa i x1.sc, .slice x1.ha i x1.hc, .int .i64 (i : Int), .slice x2.sa i x2.sc, .slice x2.ha i x2.hc] 32)).drew ∧ Same w10 (w10.alloc (.cells #[.int .i64 (i : Int), .slice x1.sa i x1.sc, .slice x1.ha i x1.hc, .int .i64 (i : Int), .slice x2.sa i x2.sc, .slice x2.ha i x2.hc] 32)).drew) := Lib.hid ⟨(HX.out.2.alloc _).drew, ((Only.refl _ _).alloc _).drew⟩
        obtain ⟨w11, hw11⟩ : ∃ w11, (w10.alloc (.cells #[.int .i64 (i : Int), .slice x1.sa i x1.sc, .slice x1.ha i x1.hc, .int .i64 (i : Int), .slice x2.sa i x2.sc, .slice x2.ha i x2.hc] 32)).drew = w11 := ⟨_, rfl⟩
        have HRW : Hid (w11.heap[w10.heap.size]? = some (.cells #[.int .i64 (i : Int), .slice x1.sa i x1.sc, .slice x1.ha i x1.hc, .int .i64 (i : Int), .slice x2.sa i x2.sc, .slice x2.ha i x2.hc] 32 (0, 0))) := Lib.hid (by rw [← hw11]; exact hrow)
        obtain ⟨rb, hrb⟩ : ∃ rb, w10.heap.size = rb := ⟨_, rfl⟩
        have y0' : w11.cell? ⟨kb, ko, none⟩ = some (.int .i64 0) := by
          rw [← hw11]
          exact (((Only.refl (fun _ => False) w10).alloc (.cells #[.int .i64 (i : Int), .slice x1.sa i x1.sc, .slice x1.ha i x1.hc, .int .i64 (i : Int), .slice x2.sa i x2.sc, .slice x2.ha i x2.hc] 32)).drew.cell (p := ⟨kb, ko, none⟩) hkb id).trans y0
        rw [hw11] at HS11 ⊢
        rw [hrb] at HRW ⊢
        have HY0 := Lib.hid y0'
        clear hw11 hrow y0 y0' y1 y2 y3 z1 z2 z3 b2 b3 b5 hrb HC1 HC2 HK HPL HFN HD
        go_wp2_with fail
        go_loopw [92] (fun s wr => ∃ p : Nat, s = .int .i64 (p : Int) ∧ p ≤ 2 ∧ Hid (Same w11 wr)) (fun s _ => 2 - (intOf s).toNat)
        case atStart => exact ⟨0, rfl, by decide, Lib.hid (Only.refl _ _)⟩
        case round =>
          obtain ⟨p, rfl, hp, HSR⟩ := hrel
          have hrw := heap_still HSR.out HRW.out
          rcases (show p = 0 ∨ p = 1 ∨ p = 2 by omega) with hp0 | hp0 | hp0
          · obtain rfl : p = 0 := by omega
            have v0 : wr.cell? ⟨rb, 0, none⟩ = some (.int .i64 (i : Int)) := block_cell hrw rfl
            have v1 : wr.cell? ⟨rb, 1, none⟩ = some (.slice x1.sa i x1.sc) := block_cell hrw rfl
            have v2 : wr.cell? ⟨rb, 2, none⟩ = some (.slice x1.ha i x1.hc) := block_cell hrw rfl
            have HEQ : Hid (∀ wx, Same wr wx → Calls Try.prog 15 #[.slice x1.sa i x1.sc, .slice (some ⟨g, 0, none⟩) i oc] wx (fun e w' => e = .returned (.bool true) ∧ Same wx w')) := Lib.hid (fun wx hx => (equalE (HG1.out.2.2.1.still (HS11.out.2.trans (HSR.out.trans hx))) (HOW.out.still (HS11.out.1.trans (HSR.out.trans hx)))).mono (fun e w' h => ⟨h.1, h.2⟩))
            have HCO : Hid (∀ wx, Same wr wx → Calls Try.prog 16 #[.slice x1.ha i x1.hc, .bool false] wx (fun e w' => e = .returned (.bool false) ∧ wx = w')) := Lib.hid (fun wx hx => by
              obtain ⟨_, _, _, B, hB, hb⟩ := HG1.out
              exact containsB _ _ _ B wx (hB.still (HS11.out.2.trans (HSR.out.trans hx))) hb)
            have HXV : Hid (∀ wx, Same (wr.alloc (.cells #[.int .i64 (i : Int), .slice x1.sa i x1.sc, .slice x1.ha i x1.hc] 32)) wx → wx.cell? ⟨wr.heap.size, 0, none⟩ = some (.int .i64 (i : Int)) ∧ wx.cell? ⟨wr.heap.size, 1, none⟩ = some (.slice x1.sa i x1.sc) ∧ wx.cell? ⟨wr.heap.size, 2, none⟩ = some (.slice x1.ha i x1.hc)) := Lib.hid (fun wx hx => by
              have h1 := heap_still hx (heap_alloc_new' wr (.cells #[.int .i64 (i : Int), .slice x1.sa i x1.sc, .slice x1.ha i x1.hc] 32) _ rfl)
              exact ⟨block_cell h1 rfl, block_cell h1 rfl, block_cell h1 rfl⟩)
            clear hrw
            go_wp2_with (first
              | (go_at_call 15; refine (HEQ.out _ (by with_reducible repeat (first | exact Only.refl _ _ | apply Only.alloc | apply Only.drew))).mono ?_; go_loud (rintro e w13 ⟨rfl, hs⟩; have HV := Lib.hid (HXV.out w13 hs); have HS13 : Hid (Same wr w13) := Lib.hid (Same.trans ((Only.refl _ wr).alloc _) hs); have q0 := HV.out.1; have q1 := HV.out.2.1; have q2 := HV.out.2.2; clear hs))
              | (go_at_call 16; refine (HCO.out _ HS13.out).mono ?_; go_loud (rintro e w14 ⟨rfl, rfl⟩))
              | fail)
            go_roundw
            case rel => exact ⟨1, by go_num, by decide, Lib.hid (HSR.out.trans HS13.out)⟩
            case measure => simp [intOf]
          · obtain rfl : p = 1 := by omega
            have v0 : wr.cell? ⟨rb, 3, none⟩ = some (.int .i64 (i : Int)) := block_cell hrw rfl
            have v1 : wr.cell? ⟨rb, 4, none⟩ = some (.slice x2.sa i x2.sc) := block_cell hrw rfl
            have v2 : wr.cell? ⟨rb, 5, none⟩ = some (.slice x2.ha i x2.hc) := block_cell hrw rfl
            have HEQ : Hid (∀ wx, Same wr wx → Calls Try.prog 15 #[.slice x2.sa i x2.sc, .slice (some ⟨g, 0, none⟩) i oc] wx (fun e w' => e = .returned (.bool true) ∧ Same wx w')) := Lib.hid (fun wx hx => (equalE (HG2.out.2.2.1.still (HS11.out.2.trans (HSR.out.trans hx))) (HOW.out.still (HS11.out.1.trans (HSR.out.trans hx)))).mono (fun e w' h => ⟨h.1, h.2⟩))
            have HCO : Hid (∀ wx, Same wr wx → Calls Try.prog 16 #[.slice x2.ha i x2.hc, .bool false] wx (fun e w' => e = .returned (.bool false) ∧ wx = w')) := Lib.hid (fun wx hx => by
              obtain ⟨_, _, _, B, hB, hb⟩ := HG2.out
              exact containsB _ _ _ B wx (hB.still (HS11.out.2.trans (HSR.out.trans hx))) hb)
            have HXV : Hid (∀ wx, Same (wr.alloc (.cells #[.int .i64 (i : Int), .slice x2.sa i x2.sc, .slice x2.ha i x2.hc] 32)) wx → wx.cell? ⟨wr.heap.size, 0, none⟩ = some (.int .i64 (i : Int)) ∧ wx.cell? ⟨wr.heap.size, 1, none⟩ = some (.slice x2.sa i x2.sc) ∧ wx.cell? ⟨wr.heap.size, 2, none⟩ = some (.slice x2.ha i x2.hc)) := Lib.hid (fun wx hx => by
              have h1 := heap_still hx (heap_alloc_new' wr (.cells #[.int .i64 (i : Int), .slice x2.sa i x2.sc, .slice x2.ha i x2.hc] 32) _ rfl)
              exact ⟨block_cell h1 rfl, block_cell h1 rfl, block_cell h1 rfl⟩)
            clear hrw
            go_wp2_with (first
              | (go_at_call 15; refine (HEQ.out _ (by with_reducible repeat (first | exact Only.refl _ _ | apply Only.alloc | apply Only.drew))).mono ?_; go_loud (rintro e w13 ⟨rfl, hs⟩; have HV := Lib.hid (HXV.out w13 hs); have HS13 : Hid (Same wr w13) := Lib.hid (Same.trans ((Only.refl _ wr).alloc _) hs); have q0 := HV.out.1; have q1 := HV.out.2.1; have q2 := HV.out.2.2; clear hs))
              | (go_at_call 16; refine (HCO.out _ HS13.out).mono ?_; go_loud (rintro e w14 ⟨rfl, rfl⟩))
              | fail)
            go_roundw
            case rel => exact ⟨2, by go_num, by decide, Lib.hid (HSR.out.trans HS13.out)⟩
            case measure => simp [intOf]
          · obtain rfl : p = 2 := by omega
            have y0 : wr.cell? ⟨kb, ko, none⟩ = some (.int .i64 0) := (HSR.out.cell (p := ⟨kb, ko, none⟩) (World.block_lt_of_cell? w11 ⟨kb, ko, none⟩ HY0.out) id).trans HY0.out
            have HFI : Hid (Same W wr) := Lib.hid (HS8.out.trans (HS11.out.1.trans HSR.out))
            clear hrw
            go_wp2_with fail
            go_ret
            exact ⟨rfl, HFI.out.below (Nat.le_refl _) (fun _ _ h => h)⟩
theorem read_entries {W : World} {v : Value} (h : Reads Try.prog W 29 v) : ∃ (a : Option Addr) (n cap : Nat) (l : List (Int × Int)), v = .slice a n cap ∧ RS entc 2 W a n cap l := by
  obtain ⟨a, n, cap, l, rfl, h, hs⟩ := T.slice (c := entc) (K := 2) (fun y : Int × Int => True) entc_len entc_one (by omega) Try.underlying29 (by kernel_rfl) (fun cs hl ht => by
    match cs, hl with
    | [v0, v1], _ =>
      have h0 := ht.field Try.underlying38 0 _ rfl
      have h1 := ht.field Try.underlying38 1 _ rfl
      obtain ⟨k0, rfl, _⟩ := T.int (v := v0) h0 Try.underlying3
      obtain ⟨k1, rfl, _⟩ := T.int (v := v1) h1 Try.underlying3
      exact ⟨(k0, k1), rfl, trivial⟩) (reads_t h Try.underlying29)
  exact ⟨a, n, cap, l, rfl, h⟩
theorem walk (W : World) (v0 v1 : Value) (r0 : Reads Try.prog W 29 v0) (r1 : Reads Try.prog W 5 v1) :
    Calls Try.prog 4 #[v0, v1] W fun e w' => e = .returned (.bool true) ∧ Below W.heap.size W w' := by
  obtain ⟨a, n, cap, l, rfl, h⟩ := read_entries r0
  obtain ⟨q, rfl, hq⟩ := r1.int Try.underlying5
  have hq' := wf_u8 hq
  obtain ⟨t, rfl⟩ := Int.eq_ofNat_of_zero_le hq'.1
  exact main a n cap t l W h (by omega)
end Go.Proofs.Ytdamanckgmkbiaa.walkFnAVAny
