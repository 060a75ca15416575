/-
  AVL trees: impl.avAll.
-/
import Derived.Test.YtdamanckgmkbiaaAvInv
namespace Go.Proofs.Ytdamanckgmkbiaa.av
open Go.RowKit Go.Proofs.Ytdamanckgmkbiaa.base Go.Proofs.Ytdamanckgmkbiaa.heap Go.Proofs.Ytdamanckgmkbiaa.rows
open Tre
set_option linter.unusedVariables false
/-- said of avAll -/
def AllP (S : List Stp) (w : World) (e : Ending) (w' : World) : Prop := ∃ la lc oa oc gs ws, e = .returned (.tuple #[.slice la gs.length lc, .slice oa ws.length oc]) ∧ Inv w w' la lc oa oc gs ws (run S).Ls (run S).As (run S).lv
set_option maxRecDepth 100000 in
set_option maxHeartbeats 1600000 in
theorem allC {w : World} {a : Option Addr} {n cap : Nat} {S : List Stp} (h : RS stc 3 w a n cap S) (hE : ∀ s ∈ S, RS entc 2 w s.a s.m s.cap s.E) (hS : Fine S) : Calls Try.prog 19 #[.slice a n cap] w (AllP S w) := by
  have hbd := h.bound
  have HR := Lib.hid h
  have HE := Lib.hid hE
  have HS := Lib.hid hS
  have hn : n ≤ 1000 := by rw [← h.2]; exact hS.n
  have HN := Lib.hid (newC w)
  clear h hE hS
  go_enter Try.func19, Try.ntmps19
  go_wp2_with (first | (go_at_call 27; refine HN.out.mono ?_; go_loud (rintro e w2 ⟨g0, rfl, ht, hs⟩; have HT := Lib.hid (And.intro ht hs); clear ht hs)) | fail)
  have HI0 : Hid (Inv w (w2.alloc (.cells #[.pointer (at0 g0)] 57)) (some ⟨w2.heap.size, 0, none⟩) 1 none 0 [g0] [] (run (S.take 0)).Ls (run (S.take 0)).As (run (S.take 0)).lv) := Lib.hid (by
    have hs : Same w w2 := HT.out.2
    have hs3 : Same w (w2.alloc (.cells #[.pointer (at0 g0)] 57)) := hs.alloc _
    refine ⟨⟨⟨?_, rfl⟩, hs3, fun k hk => (by cases hk; exact hs.size)⟩, (New.nil _ _ _ _).still hs3, fun x hx => (by cases hx), rfl, rfl, fun i g L hi hg hL => ?_⟩
    · have := Own.of_block (e := 57) (size := 1) (w := w2.alloc (.cells #[.pointer (at0 g0)] 57)) (heap_alloc_new' w2 (.cells #[.pointer (at0 g0)] 57) _ rfl) 1 1 (Nat.le_refl _) (by decide) rfl (by simp [Value.oneCell'])
      exact this
    · cases i with
      | zero =>
        cases hg
        cases hL
        exact (HT.out.1.low).still ((Only.refl _ w2).alloc _)
      | succ i => simp at hg)
  clear HT HN
  go_loopw [4, 5, 14] (fun l o i wr => ∃ (j : Nat) (la oa : Option Addr) (lc oc : Nat) (gs : List Nat) (ws : List Anw), l = .slice la gs.length lc ∧ o = .slice oa ws.length oc ∧ i = .int .i64 (j : Int) ∧ j ≤ n ∧ Hid (Inv w wr la lc oa oc gs ws (run (S.take j)).Ls (run (S.take j)).As (run (S.take j)).lv)) (fun _ _ i _ => n - (intOf i).toNat)
  case atStart => exact ⟨0, _, none, 1, 0, [g0], [], rfl, rfl, rfl, Nat.zero_le _, HI0⟩
  case round =>
    clear HI0
    obtain ⟨j, la, oa, lc, oc, gs, ws, rfl, rfl, rfl, hj, HI⟩ := hrel
    by_cases hlt : j < n
    · have hlt' : (j : Int) < (n : Int) := by omega
      obtain ⟨s, hs⟩ := HR.out.get hlt
      obtain ⟨b, off, ha, hb, hc⟩ := (HR.out.still HI.out.l.same).at stc_len (by omega)
      have hc2 := hc j s hs
      have c0 : wr.cell? ⟨b, off + j * 3, none⟩ = some (.int .i64 s.op) := hc2 0 _ rfl
      have c1 : wr.cell? ⟨b, off + j * 3 + 1, none⟩ = some (.int .i64 (s.fr : Int)) := hc2 1 _ rfl
      have c2 : wr.cell? ⟨b, off + j * 3 + 2, none⟩ = some (.slice s.a s.m s.cap) := hc2 2 _ rfl
      have hlen := run_len HS.out j (by rw [HR.out.2]; exact hj)
      have hgl := HI.out.gl
      have hpos : 0 < gs.length := by rw [hgl]; exact hlen.2.1
      have hle : gs.length ≤ 1001 := by rw [hgl]; have := hlen.2.2.1; omega
      have hfr := HS.out.fr s (List.mem_of_getElem? hs)
      obtain ⟨k, hk⟩ : ∃ k, s.fr % gs.length = k := ⟨_, rfl⟩
      have hkl : k < gs.length := by rw [← hk]; exact Nat.mod_lt _ hpos
      obtain ⟨g, hg⟩ : ∃ g, gs[k]? = some g := ⟨gs[k], List.getElem?_eq_getElem hkl⟩
      have HSJ := Lib.hid hs
      obtain ⟨lb, loff, hla, hlb, hlc⟩ := HI.out.l.row.rs.at (c := ptrc) (fun _ => rfl) hpos
      have c4 : wr.cell? ⟨lb, loff + k, none⟩ = some (.pointer (at0 g)) := by have h := hlc k g hg 0 _ rfl; rw [Nat.mul_one] at h; exact h
      obtain ⟨L, hL⟩ : ∃ L, (run (S.take j)).Ls[k]? = some L := ⟨_, List.getElem?_eq_getElem (by rw [← hgl]; exact hkl)⟩
      have HOF : Hid ((run (S.take j)).of s = L) := Lib.hid (by unfold St.of; rw [← hgl, hk, List.getD_eq_getElem?_getD, hL]; rfl)
      have HTR : Hid (Tn 0 wr g L) := Lib.hid (HI.out.tr k g L (by have h := HS.out.live j s hs; rw [← hgl, hk] at h; exact h) hg hL)
      have HLE : Hid (L.length ≤ 60 * j) := Lib.hid (hlen.1 L (List.mem_of_getElem? hL))
      subst ha
      subst hla
      have r1 : (s.fr : Int).tmod (gs.length : Int) = (k : Int) := by rw [← hk]; exact (Int.ofNat_tmod _ _).symm
      have r2 : ((k : Int) + (gs.length : Int)).tmod (gs.length : Int) = (k : Int) := by
        have h : ((k + gs.length : Nat) : Int).tmod (gs.length : Int) = (((k + gs.length) % gs.length : Nat) : Int) := (Int.ofNat_tmod _ _).symm
        rw [Nat.add_mod_right, Nat.mod_eq_of_lt hkl] at h
        exact h
      obtain ⟨G, hG⟩ : ∃ G, gs.length = G := ⟨_, rfl⟩
      rw [hG] at r1 r2 hpos hle hkl ⊢
      have hGz : ¬ (G : Int) = 0 := by omega
      have HGG := Lib.hid hG
      clear hG hk hc hc2 hlc hL hg hs hlen hgl
      go_upto_region 7 with fail
      have HS6 : Hid (Same wr (wr.alloc (.cells #[.int .i64 s.op, .int .i64 (s.fr : Int), .slice s.a s.m s.cap] 40))) := Lib.hid ((Only.refl _ wr).alloc _)
      have hE6 : (wr.alloc (.cells #[.int .i64 s.op, .int .i64 (s.fr : Int), .slice s.a s.m s.cap] 40)).heap[wr.heap.size]? = some (.cells #[.int .i64 s.op, .int .i64 (s.fr : Int), .slice s.a s.m s.cap] 40 (0, 0)) := heap_alloc_new' wr _ _ rfl
      obtain ⟨w6, hw6⟩ : ∃ w6, wr.alloc (.cells #[.int .i64 s.op, .int .i64 (s.fr : Int), .slice s.a s.m s.cap] 40) = w6 := ⟨_, rfl⟩
      obtain ⟨sb, hsb⟩ : ∃ sb, wr.heap.size = sb := ⟨_, rfl⟩
      rw [hw6] at HS6 hE6 ⊢
      rw [hsb] at hE6 ⊢
      clear hw6 hsb
      have HI6 := Lib.hid (HI.out.still HS6.out)
      have HTR6 := Lib.hid (HTR.out.still HS6.out)
      have HES : Hid (RS entc 2 w6 s.a s.m s.cap s.E) := Lib.hid ((HE.out s (List.mem_of_getElem? HSJ.out)).still (HI6.out.l.same))
      have HSM : Hid ((s.op = 1 ∨ s.op = 3) ∧ s.E.length = s.m ∧ 0 < s.m ∧ s.m ≤ 60) := Lib.hid ⟨HS.out.op s (List.mem_of_getElem? HSJ.out), HS.out.l s (List.mem_of_getElem? HSJ.out), HS.out.m s (List.mem_of_getElem? HSJ.out)⟩
      have d0 : w6.cell? ⟨sb, 0, none⟩ = some (.int .i64 s.op) := block_cell hE6 rfl
      have d2 : w6.cell? ⟨sb, 2, none⟩ = some (.slice s.a s.m s.cap) := block_cell hE6 rfl
      have hsm := HSM.out.2.2
      have hsm1 := hsm.1
      have hsm2 := hsm.2
      clear c0 c1 c2 c4 hE6 HTR HI HS6 hsm r1 r2
      rcases HSM.out.1 with hop1 | hop3
      ·
        have hop : s.op = 1 := hop1
        rw [hop] at d0
        have HC1 : Hid (∀ wx, Same w6 wx → Calls Try.prog 24 #[.slice s.a s.m s.cap] wx (fun e w' => ∃ a c, e = .returned (.slice a s.m c) ∧ RL ente w' a s.m c s.E ∧ Same w6 w')) := Lib.hid (fun wx hx => (entriesC (HES.out.still hx) (by omega)).mono (fun e w' h => by
          obtain ⟨a, c, h1, h2⟩ := h
          have h3 := new_rl h2
          rw [HSM.out.2.1] at h1 h3
          exact ⟨a, c, h1, h3, hx.trans h2.same⟩))
        have HC2 : Hid (∀ wx a c, RL ente wx a s.m c s.E → Same w6 wx → Calls Try.prog 28 #[.pointer (at0 g), .slice a s.m c] wx (fun e w' => ∃ g2 ya yc, e = .returned (.tuple #[.pointer (at0 g2), .slice ya s.m yc]) ∧ OL 71 fnd w' ya s.m yc (saidPut L s.E) ∧ Tn 0 w' g2 (putAll L s.E) ∧ Same w6 w')) := Lib.hid (fun wx a c h hx => (putsC (HTR6.out.still hx) h (by omega) (by omega) (by have := HLE.out; omega)).mono (fun e w' h => by
          obtain ⟨g2, ya, yc, h1, h2, h3, _⟩ := h
          have h4 := h2.row
          rw [HSM.out.2.1] at h1 h4
          exact ⟨g2, ya, yc, h1, h4, h3, hx.trans h2.same⟩))
        go_upto_region 11 with (first
          | (go_at_call 24; refine (HC1.out _ (by with_reducible repeat (first | exact Only.refl _ _ | apply Only.alloc | apply Only.drew))).mono ?_; go_loud (rintro e w7 ⟨ea, ec, rfl, hN⟩; have HEN := Lib.hid hN; clear hN))
          | (go_at_call 28; refine (HC2.out _ _ _ HEN.out.1 HEN.out.2).mono ?_; go_loud (rintro e w8 ⟨g2, ya, yc, rfl, hY, hT, hs8⟩; have HP := Lib.hid (And.intro hY (And.intro hT hs8)); clear hY hT hs8))
          | fail)
        have HOP := Lib.hid hop
        have HWL : Hid (ws.length ≤ 1000) := Lib.hid (by
          have h1 := HI6.out.ans
          have h2 := (run_len HS.out j (by rw [HR.out.2]; exact hj)).2.2.2
          rw [← h1, List.length_map] at h2
          omega)
        clear hop
        have hbl := HI6.out.l.row.bound
        rw [HGG.out] at hbl
        have HOWN : Hid (Own 57 1 (w8.alloc (.cells #[.pointer (at0 g2)] 57)) (some ⟨lb, loff, none⟩) G lc (gs.flatMap ptrc)) := Lib.hid (by
          have h := (HI6.out.l.still HP.out.2.2).row.1.keep (w' := w8.alloc (.cells #[.pointer (at0 g2)] 57)) (S := fun _ => False) ((Only.refl _ _).alloc _) (fun _ _ => id)
          rw [HGG.out] at h
          exact h)
        go_wp2_with (at_builtin; refine wpList_append (G + 1) (gs.flatMap ptrc ++ [.pointer (at0 g2)]) rfl _ _ _ _ rfl slIm rfl HOWN.out rfl (Src.row (size := 1) (cs := #[.pointer (at0 g2)]) (t := 57) (fr := (0, 0)) Try.underlying51 (by exact heap_alloc_new' _ _ _ (by simp)) 1 1 rfl (by simp [Value.oneCell'])) rfl rfl (by unfold maxLen; omega) (by omega) ?_)
        intro la2 lc2 w9 hG
        have HJ : Hid (Inv w w9 la2 lc2 oa oc (gs ++ [g2]) ws ((run (S.take j)).Ls ++ [putAll L s.E]) (run (S.take j)).As (run (S.take j)).lv ∧ Tn 0 w9 g2 (putAll L s.E) ∧ RL fnd w9 ya s.m yc (saidPut L s.E) ∧ (saidPut L s.E).length = s.m) := Lib.hid (by
          have hG' := hG
          rw [← HGG.out] at hG'
          have hI := HI6.out.pushL (HP.out.2.2.alloc _) hG' (HP.out.2.1.still ((Only.refl _ _).alloc _))
          have hIl := HI6.out.l.still (HP.out.2.2.alloc (.cells #[.pointer (at0 g2)] 57))
          refine ⟨hI, (HP.out.2.1.still ((Only.refl _ _).alloc _)).keep hG.only (row_ty hIl (by decide) (by decide)), ((HP.out.1.still ((Only.refl _ _).alloc _)).keep hG.only (fun k hk hk2 => ?_)).rl, by rw [saidPut_len, HSM.out.2.1]⟩
          have hY8 := HP.out.1.still (w' := w8.alloc (.cells #[.pointer (at0 g2)] 57)) ((Only.refl _ _).alloc _)
          obtain ⟨cs, hc⟩ := own_type hIl.row hk2
          rcases hY8.1.alt with ⟨h1, _⟩ | ⟨b', cur, h1, h2, _⟩
          · rw [h1] at hk; exact hk
          · rw [h1] at hk
            have e : b' = k := hk
            exact clash (e ▸ h2) hc (by decide))
        clear hG
        obtain ⟨M, hM⟩ : ∃ M, (putAll L s.E).length = M := ⟨_, rfl⟩
        have HM : Hid ((putAll L s.E).length = M ∧ M < 1000000) := Lib.hid ⟨hM, by
          have h1 := putAll_len L s.E
          have h2 := HLE.out
          have h3 := HSM.out.2.1
          omega⟩
        have hM6 := HM.out.2
        clear hM
        have HC3 : Hid (∀ wx, Same w9 wx → Calls Try.prog 22 #[.pointer (at0 g2), .slice ya s.m yc] wx (fun e w' => ∃ sa sc ha hc, e = .returned (.agg #[.int .i64 (M : Int), .slice sa s.m sc, .slice ha s.m hc]) ∧ AnwOk w w' ⟨M, sa, s.m, sc, ha, hc, (saidPut L s.E)⟩ ∧ Same w9 w')) := Lib.hid (fun wx hx => (saidC (L := (putAll L s.E)) (Y := (saidPut L s.E)) (HJ.out.2.1.still hx) (by have := HM.out; omega) (HJ.out.2.2.1.still hx) (by omega)).mono (fun e w' h => by
          obtain ⟨sa, sc, ha, hc, h1, h2, h3⟩ := h
          have hw9 : Same w wx := HJ.out.1.l.same.trans hx
          unfold SaidV at h1
          rw [HJ.out.2.2.2, HM.out.1] at h1
          rw [HJ.out.2.2.2] at h2 h3
          exact ⟨sa, sc, ha, hc, h1, ⟨h2.base hw9, h3.base hw9, HJ.out.2.2.2.symm⟩, hx.trans h2.same⟩))
        have hbo := HJ.out.1.o.row.bound
        have hwl : ws.length ≤ 1000 := HWL.out
        go_wp2_with (first
          | (go_at_call 22; refine (HC3.out _ (by with_reducible repeat (first | exact Only.refl _ _ | apply Only.alloc | apply Only.drew))).mono ?_; go_loud (rintro e w10 ⟨sa, sc, ha, hc, rfl, hX, hs10⟩; have HX := Lib.hid (And.intro hX hs10); clear hX hs10))
          | (at_builtin; refine wpList_append (ws.length + 1) (ws.flatMap anc ++ [.int .i64 (M : Int), .slice sa s.m sc, .slice ha s.m hc]) rfl _ _ _ _ rfl slAS rfl ((HJ.out.1.o.still HX.out.2).row.1.keep (S := fun _ => False) (by repeat (first | exact Only.refl _ _ | apply Only.alloc | apply Only.drew)) (fun _ _ => id)) rfl (Src.row (size := 3) (cs := #[.int .i64 (M : Int), .slice sa s.m sc, .slice ha s.m hc]) (t := 32) (fr := (0, 0)) Try.underlying25 (by exact heap_alloc_new' _ _ _ (by simp)) 1 1 rfl (by simp [Value.oneCell'])) rfl rfl (by unfold maxLen; omega) (by omega) ?_)
          | fail)
        intro oa2 oc2 w11 hG
        have HF : Hid (Inv w w11 la2 lc2 oa2 oc2 (gs ++ [g2]) (ws ++ [⟨M, sa, s.m, sc, ha, hc, (saidPut L s.E)⟩]) (run (S.take (j + 1))).Ls (run (S.take (j + 1))).As (run (S.take (j + 1))).lv) := Lib.hid (by
          have hst : step (run (S.take j)) s = ⟨(run (S.take j)).Ls ++ [putAll L s.E], (run (S.take j)).As ++ [⟨M, (saidPut L s.E)⟩], (run (S.take j)).lv⟩ := by
            unfold step
            rw [if_pos HOP.out, HOF.out, HM.out.1]
          rw [run_next S j s HSJ.out, hst]
          exact HJ.out.1.pushO (x := ⟨M, sa, s.m, sc, ha, hc, (saidPut L s.E)⟩) (HX.out.2.alloc _) hG (HX.out.1.still ((Only.refl _ _).alloc _)))
        clear hG
        go_wp2_with fail
        go_roundw
        case rel => exact ⟨j + 1, la2, oa2, lc2, oc2, gs ++ [g2], ws ++ [⟨M, sa, s.m, sc, ha, hc, saidPut L s.E⟩], by rw [List.length_append, HGG.out]; rfl, by rw [List.length_append]; rfl, by go_num, by omega, HF⟩
        case measure => simp [intOf]; omega
      ·
        have hop : s.op = 3 := hop3
        rw [hop] at d0
        have HC1 : Hid (∀ wx, Same w6 wx → Calls Try.prog 24 #[.slice s.a s.m s.cap] wx (fun e w' => ∃ a c, e = .returned (.slice a s.m c) ∧ RL ente w' a s.m c s.E ∧ Same w6 w')) := Lib.hid (fun wx hx => (entriesC (HES.out.still hx) (by omega)).mono (fun e w' h => by
          obtain ⟨a, c, h1, h2⟩ := h
          have h3 := new_rl h2
          rw [HSM.out.2.1] at h1 h3
          exact ⟨a, c, h1, h3, hx.trans h2.same⟩))
        have HC2 : Hid (∀ wx a c, RL ente wx a s.m c s.E → Same w6 wx → Calls Try.prog 23 #[.pointer (at0 g), .slice a s.m c] wx (fun e w' => ∃ ya yc, e = .returned (.slice ya s.m yc) ∧ RL fnd w' ya s.m yc (saidGet L s.E) ∧ Tn 0 w' g L ∧ Same w6 w')) := Lib.hid (fun wx a c h hx => (askC (HTR6.out.still hx) h (by omega)).mono (fun e w' h => by
          obtain ⟨ya, yc, h1, h2⟩ := h
          have h4 := h2.row.rl
          rw [HSM.out.2.1] at h1 h4
          exact ⟨ya, yc, h1, h4, (HTR6.out.still hx).still h2.same, hx.trans h2.same⟩))
        go_upto_region 17 with (first
          | (go_at_call 24; refine (HC1.out _ (by with_reducible repeat (first | exact Only.refl _ _ | apply Only.alloc | apply Only.drew))).mono ?_; go_loud (rintro e w7 ⟨ea, ec, rfl, hN⟩; have HEN := Lib.hid hN; clear hN))
          | (go_at_call 23; refine (HC2.out _ _ _ HEN.out.1 HEN.out.2).mono ?_; go_loud (rintro e w8 ⟨ya, yc, rfl, hY, hT, hs8⟩; have HP := Lib.hid (And.intro hY (And.intro hT hs8)); clear hY hT hs8))
          | fail)
        have HOP := Lib.hid hop
        have HWL : Hid (ws.length ≤ 1000) := Lib.hid (by
          have h1 := HI6.out.ans
          have h2 := (run_len HS.out j (by rw [HR.out.2]; exact hj)).2.2.2
          rw [← h1, List.length_map] at h2
          omega)
        clear hop
        obtain ⟨w9, hw9⟩ : ∃ w9, w8 = w9 := ⟨_, rfl⟩
        rw [hw9] at HP ⊢
        clear hw9
        have HJ : Hid (Inv w w9 (some ⟨lb, loff, none⟩) lc oa oc gs ws (run (S.take j)).Ls (run (S.take j)).As (run (S.take j)).lv ∧ Tn 0 w9 g L ∧ RL fnd w9 ya s.m yc (saidGet L s.E) ∧ (saidGet L s.E).length = s.m) := Lib.hid ⟨HI6.out.still HP.out.2.2, HP.out.2.1, HP.out.1, by unfold saidGet; rw [List.length_map, HSM.out.2.1]⟩
        obtain ⟨M, hM⟩ : ∃ M, L.length = M := ⟨_, rfl⟩
        have HM : Hid (L.length = M ∧ M < 1000000) := Lib.hid ⟨hM, by have h2 := HLE.out; omega⟩
        have hM6 := HM.out.2
        clear hM
        have HC3 : Hid (∀ wx, Same w9 wx → Calls Try.prog 22 #[.pointer (at0 g), .slice ya s.m yc] wx (fun e w' => ∃ sa sc ha hc, e = .returned (.agg #[.int .i64 (M : Int), .slice sa s.m sc, .slice ha s.m hc]) ∧ AnwOk w w' ⟨M, sa, s.m, sc, ha, hc, (saidGet L s.E)⟩ ∧ Same w9 w')) := Lib.hid (fun wx hx => (saidC (L := L) (Y := (saidGet L s.E)) (HJ.out.2.1.still hx) (by have := HM.out; omega) (HJ.out.2.2.1.still hx) (by omega)).mono (fun e w' h => by
          obtain ⟨sa, sc, ha, hc, h1, h2, h3⟩ := h
          have hw9 : Same w wx := HJ.out.1.l.same.trans hx
          unfold SaidV at h1
          rw [HJ.out.2.2.2, HM.out.1] at h1
          rw [HJ.out.2.2.2] at h2 h3
          exact ⟨sa, sc, ha, hc, h1, ⟨h2.base hw9, h3.base hw9, HJ.out.2.2.2.symm⟩, hx.trans h2.same⟩))
        have hbo := HJ.out.1.o.row.bound
        have hwl : ws.length ≤ 1000 := HWL.out
        go_wp2_with (first
          | (go_at_call 22; refine (HC3.out _ (by with_reducible repeat (first | exact Only.refl _ _ | apply Only.alloc | apply Only.drew))).mono ?_; go_loud (rintro e w10 ⟨sa, sc, ha, hc, rfl, hX, hs10⟩; have HX := Lib.hid (And.intro hX hs10); clear hX hs10))
          | (at_builtin; refine wpList_append (ws.length + 1) (ws.flatMap anc ++ [.int .i64 (M : Int), .slice sa s.m sc, .slice ha s.m hc]) rfl _ _ _ _ rfl slAS rfl ((HJ.out.1.o.still HX.out.2).row.1.keep (S := fun _ => False) (by repeat (first | exact Only.refl _ _ | apply Only.alloc | apply Only.drew)) (fun _ _ => id)) rfl (Src.row (size := 3) (cs := #[.int .i64 (M : Int), .slice sa s.m sc, .slice ha s.m hc]) (t := 32) (fr := (0, 0)) Try.underlying25 (by exact heap_alloc_new' _ _ _ (by simp)) 1 1 rfl (by simp [Value.oneCell'])) rfl rfl (by unfold maxLen; omega) (by omega) ?_)
          | fail)
        intro oa2 oc2 w11 hG
        have HF : Hid (Inv w w11 (some ⟨lb, loff, none⟩) lc oa2 oc2 gs (ws ++ [⟨M, sa, s.m, sc, ha, hc, (saidGet L s.E)⟩]) (run (S.take (j + 1))).Ls (run (S.take (j + 1))).As (run (S.take (j + 1))).lv) := Lib.hid (by
          have hst : step (run (S.take j)) s = ⟨(run (S.take j)).Ls, (run (S.take j)).As ++ [⟨M, (saidGet L s.E)⟩], (run (S.take j)).lv⟩ := by
            unfold step
            rw [if_neg (by rw [HOP.out]; decide), if_neg (by rw [HOP.out]; decide), HOF.out, HM.out.1]
          rw [run_next S j s HSJ.out, hst]
          exact HJ.out.1.pushO (x := ⟨M, sa, s.m, sc, ha, hc, (saidGet L s.E)⟩) (HX.out.2.alloc _) hG (HX.out.1.still ((Only.refl _ _).alloc _)))
        clear hG
        go_wp2_with fail
        go_roundw
        case rel => exact ⟨j + 1, _, oa2, lc, oc2, gs, ws ++ [⟨M, sa, s.m, sc, ha, hc, saidGet L s.E⟩], by rw [HGG.out], by rw [List.length_append]; rfl, by go_num, by omega, HF⟩
        case measure => simp [intOf]; omega
    · have hlt' : ¬ (j : Int) < (n : Int) := by omega
      obtain rfl : j = n := by omega
      have hSt : S.take j = S := List.take_of_length_le (by rw [HR.out.2]; exact Nat.le_refl _)
      rw [hSt] at HI
      go_wp2_with fail
      go_ret2
      exact ⟨la, lc, oa, oc, gs, ws, rfl, HI.out⟩
end Go.Proofs.Ytdamanckgmkbiaa.av
