/-
  AVL trees: impl.AVKeep.
-/
import Derived.Test.YtdamanckgmkbiaaAvRun
namespace Go.Proofs.Ytdamanckgmkbiaa.av
open Go.RowKit Go.Proofs.Ytdamanckgmkbiaa.base Go.Proofs.Ytdamanckgmkbiaa.heap Go.Proofs.Ytdamanckgmkbiaa.rows
open Tre
set_option linter.unusedVariables false
theorem run_lv {S : List Stp} (hS : Fine S) : ∀ j, j ≤ S.length → (run (S.take j)).lv = 0
  | 0, _ => by rw [List.take_zero]; rfl
  | j + 1, hj => by
    have ih := run_lv hS j (by omega)
    have hs : S[j]? = some (S[j]'(by omega)) := List.getElem?_eq_getElem _
    have ho := hS.op _ (List.mem_of_getElem? hs)
    rw [run_next S j _ hs]
    unfold step
    rcases ho with ho | ho
    · rw [if_pos ho]; exact ih
    · rw [if_neg (by rw [ho]; decide), if_neg (by rw [ho]; decide)]; exact ih
theorem own_cast {e size n m cap : Nat} {w : World} {a : Option Addr} {xs : List Value} (h : n = m) (ho : Own e size w a n cap xs) : Own e size w a m cap xs := h ▸ ho
/-- what is asked -/
def asks (ks : List Int) : List (Int × Int) := ks.map fun k => (k, 0)
def KeepP (S : List Stp) (ks : List Int) (w : World) (e : Ending) (w' : World) : Prop := ∃ oa oc ws, e = .returned (.slice oa ws.length oc) ∧ New 32 anc 3 w w' oa ws.length oc ws ∧ (∀ x ∈ ws, AnwOk w w' x) ∧ ws.map Anw.an = (run S).Ls.map (fun L => ⟨L.length, saidGet L (asks ks)⟩)
set_option maxRecDepth 100000 in
set_option maxHeartbeats 1600000 in
theorem keepC {w : World} {a ka : Option Addr} {n cap m kc : Nat} {S : List Stp} {ks : List Int} (h : RS stc 3 w a n cap S) (hE : ∀ s ∈ S, RS entc 2 w s.a s.m s.cap s.E) (hS : Fine S) (hk : RL iv w ka m kc ks) (hm : m ≤ 1000) : Calls Try.prog 14 #[.slice a n cap, .slice ka m kc] w (KeepP S ks w) := by
  have hbd := h.bound
  have hkb := hk.bound
  have HA := Lib.hid (allC h hE hS)
  have HK := Lib.hid hk
  have HML := Lib.hid hk.2
  have HLV : Hid ((run S).lv = 0 ∧ (∀ L ∈ (run S).Ls, L.length ≤ 60000) ∧ (run S).Ls.length ≤ 1001) := Lib.hid (by
    have h1 := run_lv hS S.length (Nat.le_refl _)
    have h2 := run_len hS S.length (Nat.le_refl _)
    have h3 := hS.n
    rw [List.take_length] at h1 h2
    exact ⟨h1, fun L hL => by have := h2.1 L hL; omega, by have := h2.2.2.1; omega⟩)
  clear h hE hS hk
  go_enter Try.func14, Try.ntmps14
  go_wp2_with (first | (go_at_call 19; refine HA.out.mono ?_; go_loud (rintro e w2 ⟨la, lc, oa0, oc0, gs, ws0, rfl, hI⟩; have HI := Lib.hid hI; clear hI)) | fail)
  have HI0 : Hid (Inv w w2 la lc none 0 gs [] (run S).Ls [] 0 ∧ New 38 entc 2 w w2 none 0 0 (asks (ks.take 0))) := Lib.hid (by
    have h := HI.out
    rw [HLV.out.1] at h
    exact ⟨⟨h.l, (New.nil _ _ _ _).still h.l.same, fun x hx => (by cases hx), rfl, h.gl, h.tr⟩, (New.nil _ _ _ _).still h.l.same⟩)
  have hgl : gs.length ≤ 1001 := by rw [HI.out.gl]; exact HLV.out.2.2
  clear HI HA
  go_loopw [7, 20] (fun q i wr => ∃ (j : Nat) (qa : Option Addr) (qc : Nat), q = .slice qa j qc ∧ i = .int .i64 (j : Int) ∧ j ≤ m ∧ Hid (Inv w wr la lc none 0 gs [] (run S).Ls [] 0 ∧ New 38 entc 2 w wr qa j qc (asks (ks.take j)))) (fun _ i _ => m - (intOf i).toNat)
  case atStart => exact ⟨0, none, 0, rfl, rfl, Nat.zero_le _, HI0⟩
  case round =>
    clear HI0
    obtain ⟨j, qa, qc, rfl, rfl, hj, HI⟩ := hrel
    have hqb := HI.out.2.row.bound
    by_cases hlt : j < m
    · have hlt' : (j : Int) < (m : Int) := by omega
      obtain ⟨k, hk⟩ := HK.out.get hlt
      obtain ⟨b, off, ha, hb, hc⟩ := (HK.out.still HI.out.1.l.same).at (by omega)
      have c0 : wr.cell? ⟨b, off + j, none⟩ = some (.int .i64 k) := hc j k hk
      have HY := Lib.hid hk
      subst ha
      clear hc hk
      go_wp2_with (at_builtin; refine wpList_append (j + 1) ((asks (ks.take j)).flatMap entc ++ [.int .i64 k, .int .i64 0]) rfl _ _ _ _ rfl slAE rfl (HI.out.2.row.1.keep (S := fun _ => False) (by repeat (first | exact Only.refl _ _ | apply Only.alloc | apply Only.drew)) (fun _ _ => id)) rfl (Src.row (size := 2) (cs := #[.int .i64 k, .int .i64 0]) (t := 38) (fr := (0, 0)) Try.underlying29 (by exact heap_alloc_new' _ _ _ (by simp)) 1 1 rfl (by simp [Value.oneCell'])) rfl rfl (by unfold maxLen; omega) (by omega) ?_)
      intro qa2 qc2 w5 hG
      have HI2 : Hid (Inv w w5 la lc none 0 gs [] (run S).Ls [] 0 ∧ New 38 entc 2 w w5 qa2 (j + 1) qc2 (asks (ks.take (j + 1)))) := Lib.hid (by
        obtain ⟨h1, h2⟩ := HI.out
        have h1' := h1.still (w3 := wr.alloc (.cells #[.int .i64 k, .int .i64 0] 38)) ((Only.refl _ _).alloc _)
        have h2' := h2.still (w3 := wr.alloc (.cells #[.int .i64 k, .int .i64 0] 38)) ((Only.refl _ _).alloc _)
        have hS5 := new_only h2'.same hG.only h2'.new
        refine ⟨⟨h1'.l.keepT hG.only (row_ne h2' (by decide)) h2'.new, (New.nil _ _ _ _).still hS5, fun x hx => (by cases hx), rfl, h1'.gl, fun i g L hi hg hL => (h1'.tr i g L hi hg hL).keep hG.only (row_ty h2' (by decide) (by decide))⟩, ?_⟩
        unfold asks
        rw [take_snoc ks j k HY.out, List.map_append]
        exact h2'.step (y := (k, 0)) (Only.refl _ _) hG)
      clear hG
      go_wp2_with fail
      go_roundw
      case rel => exact ⟨j + 1, qa2, qc2, rfl, by go_num, by omega, HI2⟩
      case measure => simp [intOf]; omega
    · have hlt' : ¬ (j : Int) < (m : Int) := by omega
      obtain rfl : j = m := by omega
      have HJ0 : Hid (Inv w wr la lc none 0 gs [] (run S).Ls (((run S).Ls.take 0).map (fun L => (⟨L.length, saidGet L (asks ks)⟩ : An))) 0 ∧ New 38 entc 2 w wr qa j qc (asks ks)) := Lib.hid (by
        have h := HI.out
        rw [List.take_of_length_le (by rw [HML.out]; exact Nat.le_refl _)] at h
        exact h)
      have hql : (asks ks).length = j := by unfold asks; rw [List.length_map, HML.out]
      have HQL := Lib.hid hql
      clear HI hql
      go_wp2_with fail
      go_loopw [10, 32] (fun q i wr => ∃ (p : Nat) (oa : Option Addr) (oc : Nat) (ws : List Anw), q = .slice oa p oc ∧ i = .int .i64 (p : Int) ∧ p ≤ gs.length ∧ Hid (ws.length = p ∧ Inv w wr la lc oa oc gs ws (run S).Ls (((run S).Ls.take p).map (fun L => (⟨L.length, saidGet L (asks ks)⟩ : An))) 0 ∧ New 38 entc 2 w wr qa j qc (asks ks))) (fun _ i _ => gs.length - (intOf i).toNat)
      case atStart => exact ⟨0, none, 0, [], rfl, rfl, Nat.zero_le _, Lib.hid ⟨rfl, HJ0.out.1, HJ0.out.2⟩⟩
      case round =>
        clear HJ0
        obtain ⟨p, oa, oc, ws, rfl, rfl, hp, HJ⟩ := hrel
        by_cases hpt : p < gs.length
        · have hpt' : (p : Int) < (gs.length : Int) := by omega
          obtain ⟨g, hg⟩ : ∃ g, gs[p]? = some g := ⟨gs[p], List.getElem?_eq_getElem hpt⟩
          obtain ⟨L, hL⟩ : ∃ L, (run S).Ls[p]? = some L := ⟨_, List.getElem?_eq_getElem (by rw [← HJ.out.2.1.gl]; exact hpt)⟩
          obtain ⟨lb, loff, hla, hlb, hlc⟩ := HJ.out.2.1.l.row.rs.at (c := ptrc) (fun _ => rfl) (by omega)
          have c4 : wr.cell? ⟨lb, loff + p, none⟩ = some (.pointer (at0 g)) := by have h := hlc p g hg 0 _ rfl; rw [Nat.mul_one] at h; exact h
          have HT : Hid (Tn 0 wr g L) := Lib.hid (HJ.out.2.1.tr p g L (Nat.zero_le _) hg hL)
          have HLp := Lib.hid hL
          obtain ⟨M, hM⟩ : ∃ M, L.length = M := ⟨_, rfl⟩
          have HM : Hid (L.length = M ∧ M < 1000000) := Lib.hid ⟨hM, by have := HLV.out.2.1 L (List.mem_of_getElem? hL); omega⟩
          have hM6 := HM.out.2
          have hbo := HJ.out.2.1.o.row.bound
          have hwl := HJ.out.1
          rw [hwl] at hbo
          have HC1 : Hid (∀ wx, Same wr wx → Calls Try.prog 24 #[.slice qa j qc] wx (fun e w' => ∃ a c, e = .returned (.slice a j c) ∧ RL ente w' a j c (asks ks) ∧ Same wr w')) := Lib.hid (fun wx hx => (entriesC (HJ.out.2.2.row.rs.still hx) (by omega)).mono (fun e w' h => by
            obtain ⟨a, c, h1, h2⟩ := h
            have h3 := new_rl h2
            rw [HQL.out] at h1 h3
            exact ⟨a, c, h1, h3, hx.trans h2.same⟩))
          have HC2 : Hid (∀ wx a c, RL ente wx a j c (asks ks) → Same wr wx → Calls Try.prog 23 #[.pointer (at0 g), .slice a j c] wx (fun e w' => ∃ ya yc, e = .returned (.slice ya j yc) ∧ RL fnd w' ya j yc (saidGet L (asks ks)) ∧ Same wr w')) := Lib.hid (fun wx a c h hx => (askC (HT.out.still hx) h (by omega)).mono (fun e w' h => by
            obtain ⟨ya, yc, h1, h2⟩ := h
            have h4 := h2.row.rl
            rw [HQL.out] at h1 h4
            exact ⟨ya, yc, h1, h4, hx.trans h2.same⟩))
          have HC3 : Hid (∀ wx ya yc, RL fnd wx ya j yc (saidGet L (asks ks)) → Same wr wx → Calls Try.prog 22 #[.pointer (at0 g), .slice ya j yc] wx (fun e w' => ∃ sa sc ha hc, e = .returned (.agg #[.int .i64 (M : Int), .slice sa j sc, .slice ha j hc]) ∧ AnwOk w w' ⟨M, sa, j, sc, ha, hc, saidGet L (asks ks)⟩ ∧ Same wr w')) := Lib.hid (fun wx ya yc hy hx => (saidC (L := L) (Y := saidGet L (asks ks)) (HT.out.still hx) (by have := HM.out; omega) hy (by omega)).mono (fun e w' h => by
            obtain ⟨sa, sc, ha, hc, h1, h2, h3⟩ := h
            have hw9 : Same w wx := HJ.out.2.1.l.same.trans hx
            have hyl : (saidGet L (asks ks)).length = j := by unfold saidGet; rw [List.length_map, HQL.out]
            unfold SaidV at h1
            rw [hyl, HM.out.1] at h1
            rw [hyl] at h2 h3
            exact ⟨sa, sc, ha, hc, h1, ⟨h2.base hw9, h3.base hw9, hyl.symm⟩, hx.trans h2.same⟩))
          subst hla
          clear hM hg hL hlc hwl HT
          go_wp2_with (first
            | (go_at_call 24; refine (HC1.out _ (by with_reducible repeat (first | exact Only.refl _ _ | apply Only.alloc | apply Only.drew))).mono ?_; go_loud (rintro e w7 ⟨ea, ec, rfl, hN, hs7⟩; have HEN := Lib.hid (And.intro hN hs7); clear hN hs7))
            | (go_at_call 23; refine (HC2.out _ _ _ HEN.out.1 HEN.out.2).mono ?_; go_loud (rintro e w8 ⟨ya, yc, rfl, hY, hs8⟩; have HP := Lib.hid (And.intro hY hs8); clear hY hs8))
            | (go_at_call 22; refine (HC3.out _ _ _ HP.out.1 HP.out.2).mono ?_; go_loud (rintro e w10 ⟨sa, sc, ha, hc, rfl, hX, hs10⟩; have HX := Lib.hid (And.intro hX hs10); clear hX hs10; have HOW : Hid (Own 32 3 (w10.alloc (.cells #[.int .i64 (M : Int), .slice sa j sc, .slice ha j hc] 32)) oa p oc (ws.flatMap anc)) := Lib.hid (own_cast HJ.out.1 ((HJ.out.2.1.o.still (HX.out.2.alloc _)).row.1))))
            | (at_builtin; refine wpList_append (p + 1) (ws.flatMap anc ++ [.int .i64 (M : Int), .slice sa j sc, .slice ha j hc]) rfl _ _ _ _ rfl slAS rfl HOW.out rfl (Src.row (size := 3) (cs := #[.int .i64 (M : Int), .slice sa j sc, .slice ha j hc]) (t := 32) (fr := (0, 0)) Try.underlying25 (by exact heap_alloc_new' _ _ _ (by simp)) 1 1 rfl (by simp [Value.oneCell'])) rfl rfl (by unfold maxLen; omega) (by omega) ?_)
            | fail)
          intro oa2 oc2 w11 hG
          have HJ2 : Hid ((ws ++ [(⟨M, sa, j, sc, ha, hc, saidGet L (asks ks)⟩ : Anw)]).length = p + 1 ∧ Inv w w11 (some ⟨lb, loff, none⟩) lc oa2 oc2 gs (ws ++ [⟨M, sa, j, sc, ha, hc, saidGet L (asks ks)⟩]) (run S).Ls (((run S).Ls.take (p + 1)).map (fun L => (⟨L.length, saidGet L (asks ks)⟩ : An))) 0 ∧ New 38 entc 2 w w11 qa j qc (asks ks)) := Lib.hid (by
            have hG' := hG
            rw [← HJ.out.1] at hG'
            have hS := HX.out.2.alloc (.cells #[.int .i64 (M : Int), .slice sa j sc, .slice ha j hc] 32)
            have h1 := HJ.out.2.1.pushO (x := ⟨M, sa, j, sc, ha, hc, saidGet L (asks ks)⟩) hS hG' (HX.out.1.still ((Only.refl _ _).alloc _))
            have ho := HJ.out.2.1.o.still hS
            refine ⟨by rw [List.length_append, HJ.out.1]; rfl, ?_, (HJ.out.2.2.still hS).keepT hG.only (row_ne ho (by decide)) ho.new⟩
            rw [take_snoc _ p L HLp.out, List.map_append]
            have e : ([L].map (fun L => (⟨L.length, saidGet L (asks ks)⟩ : An))) = [Anw.an ⟨M, sa, j, sc, ha, hc, saidGet L (asks ks)⟩] := by
              show [(⟨L.length, _⟩ : An)] = _
              rw [HM.out.1]
              rfl
            rw [e]
            exact h1)
          clear hG
          go_wp2_with fail
          go_roundw
          case rel => exact ⟨p + 1, oa2, oc2, _, rfl, by go_num, by omega, HJ2⟩
          case measure => simp [intOf]; omega
        · have hpt' : ¬ (p : Int) < (gs.length : Int) := by omega
          obtain rfl : p = gs.length := by omega
          go_wp2_with fail
          go_ret
          have hgl2 := HJ.out.2.1.gl
          have hans := HJ.out.2.1.ans
          rw [List.take_of_length_le (by rw [hgl2]; exact Nat.le_refl _)] at hans
          exact ⟨oa, oc, ws, by rw [HJ.out.1]; rfl, HJ.out.2.1.o, HJ.out.2.1.ok, hans⟩
end Go.Proofs.Ytdamanckgmkbiaa.av
