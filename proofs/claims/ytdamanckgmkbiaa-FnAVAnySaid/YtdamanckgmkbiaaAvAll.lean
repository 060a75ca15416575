/-
  AVL trees: Get and Insert of entries.
-/
import Derived.Test.YtdamanckgmkbiaaAvPut
import Derived.Laws.MakeOwn
namespace Go.Proofs.Ytdamanckgmkbiaa.av
open Go.RowKit Go.Proofs.Ytdamanckgmkbiaa.base Go.Proofs.Ytdamanckgmkbiaa.heap Go.Proofs.Ytdamanckgmkbiaa.rows
open Tre
set_option linter.unusedVariables false
theorem slE : SliceOf Try.prog 60 71 1 16 := SliceOf.mk (z := .nilIface) Try.underlying60 (by kernel_rfl) rfl
theorem make0 (k : Nat) (hk : k < 1000000) (w : World) : (Instr.makeSlice 60 (.int .i64 0) (.int .i64 (k : Int))).run Try.prog w = .ok (.slice (some ⟨w.heap.size, 0, none⟩) 0 k) (w.alloc (.cells (madeCells (Value.nilIface).cells (k * 1)) 71)) := by
  obtain ⟨i, hi, h1, h2, h3⟩ := info_parts (show (Try.prog.info? 71).map (fun i => (i.zero, i.size, i.bytes)) = some (some .nilIface, 1, 16) by kernel_rfl)
  have h := run_make (P := Try.prog) w 60 71 i .nilIface Try.underlying60 hi h1 .i64 .i64 0 (k : Int) (by omega) (by omega) (by rw [h3]; omega) (by omega)
  rw [h2, Int.toNat_natCast] at h
  exact h
/-- a list that is being collected -/
structure Coll (w wr : World) (a : Option Addr) (n cap : Nat) (l : List (Int × Option Int)) : Prop where
  row : OL 71 fnd wr a n cap l
  same : Same w wr
  new : ∀ k, At a k → w.heap.size ≤ k
theorem own_ty {w : World} {f : (Int × Option Int) → Value} {a : Option Addr} {n cap : Nat} {l : List (Int × Option Int)} (h : OL 71 f w a n cap l) : ∀ y, Ty w y → ¬ At a y := by
  intro y hy ha
  rcases h.1.alt with ⟨h1, _⟩ | ⟨b, cur, h1, h2, _⟩
  · rw [h1] at ha; exact ha
  · rw [h1] at ha
    obtain ⟨cs, t, h3, h4⟩ := hy
    have e : b = y := ha
    rw [e] at h2
    rw [h2] at h3
    injection h3 with h3
    injection h3 with h5 h6
    rcases h4 with h4 | h4
    · rw [h4] at h6; exact absurd h6 (by decide)
    · rw [h4] at h6; exact absurd h6 (by decide)
theorem coll_start (w : World) (n : Nat) (hn : n < 1000000) : Coll w (w.alloc (.cells (madeCells (Value.nilIface).cells (n * 1)) 71)) (some ⟨w.heap.size, 0, none⟩) 0 n [] := by
  refine ⟨⟨?_, rfl⟩, (Only.refl _ _).alloc _, fun k hk => by cases hk; exact Nat.le_refl _⟩
  have := Own.made 71 1 w (madeCells (Value.nilIface).cells (n * 1)) 0 n (Nat.zero_le _) (by unfold maxLen; omega) (by simp [madeCells]) (by simp)
  simpa using this
theorem fnd_one (y : Int × Option Int) : (fnd y).oneCell' = true := by
  obtain ⟨x, o⟩ := y
  cases o <;> rfl
/-- said of Get -/
def AskP (L E : List (Int × Int)) (w : World) (e : Ending) (w' : World) : Prop := ∃ a cap, e = .returned (.slice a E.length cap) ∧ Coll w w' a E.length cap (saidGet L E)
/-- said of Insert -/
def PutsP (L E : List (Int × Int)) (w : World) (e : Ending) (w' : World) : Prop := ∃ g a cap, e = .returned (.tuple #[.pointer (at0 g), .slice a E.length cap]) ∧ Coll w w' a E.length cap (saidPut L E) ∧ Tn 0 w' g (putAll L E) ∧ w.heap.size ≤ g
theorem coll_next {w w3 w5 : World} {a a2 : Option Addr} {j lc lc2 : Nat} {l : List (Int × Option Int)} {o : Obj} {y : Int × Option Int} {V : Value} (h : Coll w w3 a j lc l) (hV : V = fnd y) (hG : Grew 71 1 (w3.alloc o) w5 a a2 1 (j + 1) lc lc2 (l.map fnd ++ [V])) : Coll w w5 a2 (j + 1) lc2 (l ++ [y]) := by
  have hO : Only (At a) w3 w5 := Only.trans (S := At a) ((Only.refl (At a) w3).alloc o) hG.only (fun _ _ h => h)
  have hsz := h.same.size
  refine ⟨⟨?_, by rw [List.length_append, h.row.2]; rfl⟩, new_only h.same hO h.new, fun k hk => ?_⟩
  · rw [List.map_append]
    have ho := hG.own
    rw [hV] at ho
    exact ho
  · rcases hG.fresh k hk with h1 | h1
    · exact h.new k h1
    · have h3 : (w3.alloc o).heap.size = w3.heap.size + 1 := by simp only [World.alloc, Array.size_push]
      omega
theorem tn_next {B g : Nat} {w w3 w5 : World} {a a2 : Option Addr} {j lc lc2 : Nat} {l : List (Int × Option Int)} {L : List (Int × Int)} {o : Obj} {xs : List Value} (h : Coll w w3 a j lc l) (ht : Tn B w3 g L) (hG : Grew 71 1 (w3.alloc o) w5 a a2 1 (j + 1) lc lc2 xs) : Tn B w5 g L :=
  ht.keep (Only.trans (S := At a) ((Only.refl (At a) w3).alloc o) hG.only (fun _ _ h => h)) (own_ty h.row)
theorem coll_call {w wr w3 : World} {a : Option Addr} {j lc : Nat} {l : List (Int × Option Int)} (h : Coll w wr a j lc l) (ho : Only (fun y => w.heap.size ≤ y ∧ Ty wr y) wr w3) : Coll w w3 a j lc l :=
  ⟨h.row.keep ho (fun k hk hs => own_ty h.row k hs.2 hk), new_only h.same ho (fun _ hk => hk.1), h.new⟩
theorem get_snoc (L E : List (Int × Int)) (j : Nat) (e : Int × Int) (h : E[j]? = some e) : saidGet L (E.take (j + 1)) = saidGet L (E.take j) ++ [(e.1, findL L e.1)] := by
  rw [take_snoc E j e h]; simp [saidGet]
theorem put_snoc (L E : List (Int × Int)) (j : Nat) (e : Int × Int) (h : E[j]? = some e) : saidPut L (E.take (j + 1)) = saidPut L (E.take j) ++ [(e.1, findL (putAll L (E.take j)) e.1)] ∧ putAll L (E.take (j + 1)) = putL (putAll L (E.take j)) e.1 e.2 := by
  rw [take_snoc E j e h, saidPut_snoc, putAll_snoc]; exact ⟨rfl, rfl⟩
set_option maxRecDepth 100000 in
set_option maxHeartbeats 1600000 in
theorem askC {w : World} {g : Nat} {L E : List (Int × Int)} {ea : Option Addr} {n cap : Nat} (h : Tn 0 w g L) (hE : RL ente w ea n cap E) (hn : n < 100000) : Calls Try.prog 23 #[.pointer (at0 g), .slice ea n cap] w (AskP L E w) := by
  have hbd := hE.bound
  have HR := Lib.hid hE
  have HL := Lib.hid hE.2
  have HT := Lib.hid h
  have HM : Hid (∀ wx, (Instr.makeSlice 60 (.int .i64 0) (.int .i64 (n : Int))).run Try.prog wx = .ok (.slice (some ⟨wx.heap.size, 0, none⟩) 0 n) (wx.alloc (.cells (madeCells (Value.nilIface).cells (n * 1)) 71))) := Lib.hid (fun wx => make0 n (by omega) wx)
  have hmk := HM.out w
  obtain ⟨w1, HW1⟩ : ∃ w1, Hid (w.alloc (.cells (madeCells (Value.nilIface).cells (n * 1)) 71) = w1) := ⟨_, Lib.hid rfl⟩
  rw [HW1.out] at hmk
  have HO0 : Hid (Coll w w1 (some ⟨w.heap.size, 0, none⟩) 0 n []) := Lib.hid (by rw [← HW1.out]; exact coll_start w n (by omega))
  clear h hE HW1
  go_enter Try.func23, Try.ntmps23
  go_wp2_with fail
  go_loopw [5, 13] (fun s i wr => ∃ (j : Nat) (a : Option Addr) (lc : Nat), s = .slice a j lc ∧ i = .int .i64 (j : Int) ∧ j ≤ n ∧ Hid (Coll w wr a j lc (saidGet L (E.take j)))) (fun _ i _ => n - (intOf i).toNat)
  case atStart => exact ⟨0, _, n, rfl, rfl, Nat.zero_le _, HO0⟩
  case round =>
    clear HO0
    obtain ⟨j, a, lc, rfl, rfl, hj, HI⟩ := hrel
    have HTJ := Lib.hid (HT.out.still HI.out.same)
    have hbl := HI.out.row.bound
    by_cases hlt : j < n
    · have hlt' : (j : Int) < (n : Int) := by omega
      have HRJ := Lib.hid (HR.out.still HI.out.same)
      obtain ⟨b, off, hea, hb, hc⟩ := HRJ.out.at (by omega)
      obtain ⟨⟨kx, tx⟩, hx⟩ := HRJ.out.get hlt
      have c0 : wr.cell? ⟨b, off + j, none⟩ = some (ent kx tx) := hc j _ hx
      have HX := Lib.hid hx
      have HC : Hid (Calls Try.prog 31 #[.pointer (at0 g), ent kx tx] wr (SayP (found kx (findL L kx)) wr)) := Lib.hid (get1 HTJ.out kx tx)
      clear hc hx HTJ
      subst hea
      cases hf : findL L kx with
      | none =>
        unfold SayP at HC
        rw [hf, show found kx none = Value.nilIface from rfl] at HC
        have HV : Hid (Value.nilIface = fnd (kx, findL L kx)) := Lib.hid (by show _ = found _ _; rw [hf]; rfl)
        clear hf
        go_wp2_with (first | (go_at_call 31; refine HC.out.mono ?_; go_loud (rintro e w3 ⟨rfl, hs⟩; have HK : Hid (Coll w w3 a j lc (saidGet L (E.take j))) := Lib.hid ⟨HI.out.row.still hs, HI.out.same.trans hs, HI.out.new⟩; clear hs)) | (at_builtin; refine wpList_append (j + 1) ((saidGet L (E.take j)).map fnd ++ [Value.nilIface]) rfl _ _ _ _ rfl slE rfl (HK.out.row.1.keep (S := fun _ => False) (by repeat (first | exact Only.refl _ _ | apply Only.alloc | apply Only.drew)) (fun _ _ => id)) rfl (Src.row (size := 1) (cs := #[Value.nilIface]) (t := 71) (fr := (0, 0)) Try.underlying60 (by exact heap_alloc_new' _ _ _ (by simp)) 1 1 rfl (by simp [Value.oneCell'])) rfl rfl (by unfold maxLen; omega) (by omega) ?_) | fail)
        intro a2 lc2 w5 hG
        have HI2 : Hid (Coll w w5 a2 (j + 1) lc2 (saidGet L (E.take (j + 1)))) := Lib.hid (by rw [get_snoc L E j _ HX.out]; exact coll_next HK.out HV.out hG)
        clear hG
        go_wp2_with fail
        go_roundw
        case rel => exact ⟨j + 1, a2, lc2, rfl, by go_num, by omega, HI2⟩
        case measure => simp [intOf]; omega
      | some y =>
        unfold SayP at HC
        rw [hf, show found kx (some y) = ent kx y from rfl] at HC
        have HV : Hid (ent kx y = fnd (kx, findL L kx)) := Lib.hid (by show _ = found _ _; rw [hf]; rfl)
        clear hf
        go_wp2_with (first | (go_at_call 31; refine HC.out.mono ?_; go_loud (rintro e w3 ⟨rfl, hs⟩; have HK : Hid (Coll w w3 a j lc (saidGet L (E.take j))) := Lib.hid ⟨HI.out.row.still hs, HI.out.same.trans hs, HI.out.new⟩; clear hs)) | (at_builtin; refine wpList_append (j + 1) ((saidGet L (E.take j)).map fnd ++ [ent kx y]) rfl _ _ _ _ rfl slE rfl (HK.out.row.1.keep (S := fun _ => False) (by repeat (first | exact Only.refl _ _ | apply Only.alloc | apply Only.drew)) (fun _ _ => id)) rfl (Src.row (size := 1) (cs := #[ent kx y]) (t := 71) (fr := (0, 0)) Try.underlying60 (by exact heap_alloc_new' _ _ _ (by simp)) 1 1 rfl (by simp [Value.oneCell'])) rfl rfl (by unfold maxLen; omega) (by omega) ?_) | fail)
        intro a2 lc2 w5 hG
        have HI2 : Hid (Coll w w5 a2 (j + 1) lc2 (saidGet L (E.take (j + 1)))) := Lib.hid (by rw [get_snoc L E j _ HX.out]; exact coll_next HK.out HV.out hG)
        clear hG
        go_wp2_with fail
        go_roundw
        case rel => exact ⟨j + 1, a2, lc2, rfl, by go_num, by omega, HI2⟩
        case measure => simp [intOf]; omega
    · have hlt' : ¬ (j : Int) < (n : Int) := by omega
      obtain rfl : j = n := by omega
      have hRt : E.take j = E := List.take_of_length_le (by rw [HL.out]; exact Nat.le_refl _)
      rw [hRt] at HI
      go_wp2_with fail
      go_ret
      exact ⟨a, lc, by rw [HL.out]; rfl, by rw [HL.out]; exact HI.out⟩
set_option maxRecDepth 100000 in
set_option maxHeartbeats 1600000 in
theorem putsC {w : World} {g : Nat} {L E : List (Int × Int)} {ea : Option Addr} {n cap : Nat} (h : Tn 0 w g L) (hE : RL ente w ea n cap E) (hn0 : 0 < n) (hn : n < 100000) (hL : L.length < 100000) : Calls Try.prog 28 #[.pointer (at0 g), .slice ea n cap] w (PutsP L E w) := by
  have hbd := hE.bound
  have HR := Lib.hid hE
  have HL := Lib.hid hE.2
  have HM : Hid (∀ wx, (Instr.makeSlice 60 (.int .i64 0) (.int .i64 (n : Int))).run Try.prog wx = .ok (.slice (some ⟨wx.heap.size, 0, none⟩) 0 n) (wx.alloc (.cells (madeCells (Value.nilIface).cells (n * 1)) 71))) := Lib.hid (fun wx => make0 n (by omega) wx)
  have hmk := HM.out w
  obtain ⟨w1, HW1⟩ : ∃ w1, Hid (w.alloc (.cells (madeCells (Value.nilIface).cells (n * 1)) 71) = w1) := ⟨_, Lib.hid rfl⟩
  rw [HW1.out] at hmk
  have HO0 : Hid (Coll w w1 (some ⟨w.heap.size, 0, none⟩) 0 n []) := Lib.hid (by rw [← HW1.out]; exact coll_start w n (by omega))
  have HC0 := Lib.hid (copyC (h.still HO0.out.same))
  have HLL := Lib.hid hL
  have hn1 : ¬ (n : Int) = 0 := by omega
  clear h hE HW1 hL
  go_enter Try.func28, Try.ntmps28
  go_wp2_with (first | (go_at_call 33; refine HC0.out.mono ?_; go_loud (rintro e w2 ⟨g2, rfl, ht, hs⟩; have HT0 := Lib.hid (And.intro ht hs); clear ht hs)) | fail)
  have hg2 : w.heap.size ≤ g2 := by
    obtain ⟨T, _, _, _, h, _⟩ := HT0.out.1
    exact Nat.le_trans HO0.out.same.size h
  have HT2 : Hid (Tn w.heap.size w2 g2 L ∧ Coll w w2 (some ⟨w.heap.size, 0, none⟩) 0 n [] ∧ w.heap.size ≤ g2) := Lib.hid ⟨by
    obtain ⟨T, h1, h2, h3, h4, h5⟩ := HT0.out.1
    exact ⟨T, h1, h2, h3, hg2, fun y hy => Nat.le_trans HO0.out.same.size (h5 y hy)⟩, ⟨HO0.out.row.still HT0.out.2, HO0.out.same.trans HT0.out.2, HO0.out.new⟩, hg2⟩
  clear HT0 hg2 HO0
  go_loopw [6, 22] (fun s i wr => ∃ (j : Nat) (a : Option Addr) (lc : Nat), s = .slice a j lc ∧ i = .int .i64 (j : Int) ∧ j ≤ n ∧ Hid (Coll w wr a j lc (saidPut L (E.take j)) ∧ Tn w.heap.size wr g2 (putAll L (E.take j)))) (fun _ i _ => n - (intOf i).toNat)
  case atStart => exact ⟨0, _, n, rfl, rfl, Nat.zero_le _, Lib.hid ⟨HT2.out.2.1, HT2.out.1⟩⟩
  case round =>
    obtain ⟨j, a, lc, rfl, rfl, hj, HIT⟩ := hrel
    have HI := Lib.hid HIT.out.1
    have HTJ := Lib.hid HIT.out.2
    have HG2 := Lib.hid HT2.out.2.2
    clear HT2
    have hbl := HI.out.row.bound
    by_cases hlt : j < n
    · have hlt' : (j : Int) < (n : Int) := by omega
      have HRJ := Lib.hid (HR.out.still HI.out.same)
      obtain ⟨b, off, hea, hb, hc⟩ := HRJ.out.at (by omega)
      obtain ⟨⟨kx, tx⟩, hx⟩ := HRJ.out.get hlt
      have c0 : wr.cell? ⟨b, off + j, none⟩ = some (ent kx tx) := hc j _ hx
      have HX := Lib.hid hx
      have HC : Hid (Calls Try.prog 34 #[.pointer (at0 g2), ent kx tx] wr (PutP w.heap.size g2 (putAll L (E.take j)) kx tx wr)) := Lib.hid (ins1 HTJ.out HI.out.same.size (by
        have h1 := putAll_len L (E.take j)
        have h2 := HLL.out
        rw [List.length_take] at h1
        omega) kx tx)
      unfold PutP at HC
      clear hc hx HTJ HIT
      subst hea
      cases hf : findL (putAll L (E.take j)) kx with
      | none =>
        rw [hf, show found kx none = Value.nilIface from rfl] at HC
        have HV : Hid (Value.nilIface = fnd (kx, findL (putAll L (E.take j)) kx)) := Lib.hid (by show _ = found _ _; rw [hf]; rfl)
        clear hf
        go_wp2_with (first | (go_at_call 34; refine HC.out.mono ?_; go_loud (rintro e w3 ⟨rfl, ht, hs⟩; have HK : Hid (Coll w w3 a j lc (saidPut L (E.take j)) ∧ Tn w.heap.size w3 g2 (putL (putAll L (E.take j)) kx tx)) := Lib.hid ⟨coll_call HI.out hs, ht⟩; clear hs ht)) | (at_builtin; refine wpList_append (j + 1) ((saidPut L (E.take j)).map fnd ++ [Value.nilIface]) rfl _ _ _ _ rfl slE rfl (HK.out.1.row.1.keep (S := fun _ => False) (by repeat (first | exact Only.refl _ _ | apply Only.alloc | apply Only.drew)) (fun _ _ => id)) rfl (Src.row (size := 1) (cs := #[Value.nilIface]) (t := 71) (fr := (0, 0)) Try.underlying60 (by exact heap_alloc_new' _ _ _ (by simp)) 1 1 rfl (by simp [Value.oneCell'])) rfl rfl (by unfold maxLen; omega) (by omega) ?_) | fail)
        intro a2 lc2 w5 hG
        have HI2 : Hid (Coll w w5 a2 (j + 1) lc2 (saidPut L (E.take (j + 1))) ∧ Tn w.heap.size w5 g2 (putAll L (E.take (j + 1)))) := Lib.hid (by rw [(put_snoc L E j _ HX.out).1, (put_snoc L E j _ HX.out).2]; exact ⟨coll_next HK.out.1 HV.out hG, tn_next HK.out.1 HK.out.2 hG⟩)
        clear hG
        go_wp2_with fail
        go_roundw
        case rel => exact ⟨j + 1, a2, lc2, rfl, by go_num, by omega, HI2⟩
        case measure => simp [intOf]; omega
      | some y =>
        rw [hf, show found kx (some y) = ent kx y from rfl] at HC
        have HV : Hid (ent kx y = fnd (kx, findL (putAll L (E.take j)) kx)) := Lib.hid (by show _ = found _ _; rw [hf]; rfl)
        clear hf
        go_wp2_with (first | (go_at_call 34; refine HC.out.mono ?_; go_loud (rintro e w3 ⟨rfl, ht, hs⟩; have HK : Hid (Coll w w3 a j lc (saidPut L (E.take j)) ∧ Tn w.heap.size w3 g2 (putL (putAll L (E.take j)) kx tx)) := Lib.hid ⟨coll_call HI.out hs, ht⟩; clear hs ht)) | (at_builtin; refine wpList_append (j + 1) ((saidPut L (E.take j)).map fnd ++ [ent kx y]) rfl _ _ _ _ rfl slE rfl (HK.out.1.row.1.keep (S := fun _ => False) (by repeat (first | exact Only.refl _ _ | apply Only.alloc | apply Only.drew)) (fun _ _ => id)) rfl (Src.row (size := 1) (cs := #[ent kx y]) (t := 71) (fr := (0, 0)) Try.underlying60 (by exact heap_alloc_new' _ _ _ (by simp)) 1 1 rfl (by simp [Value.oneCell'])) rfl rfl (by unfold maxLen; omega) (by omega) ?_) | fail)
        intro a2 lc2 w5 hG
        have HI2 : Hid (Coll w w5 a2 (j + 1) lc2 (saidPut L (E.take (j + 1))) ∧ Tn w.heap.size w5 g2 (putAll L (E.take (j + 1)))) := Lib.hid (by rw [(put_snoc L E j _ HX.out).1, (put_snoc L E j _ HX.out).2]; exact ⟨coll_next HK.out.1 HV.out hG, tn_next HK.out.1 HK.out.2 hG⟩)
        clear hG
        go_wp2_with fail
        go_roundw
        case rel => exact ⟨j + 1, a2, lc2, rfl, by go_num, by omega, HI2⟩
        case measure => simp [intOf]; omega
    · have hlt' : ¬ (j : Int) < (n : Int) := by omega
      obtain rfl : j = n := by omega
      have hRt : E.take j = E := List.take_of_length_le (by rw [HL.out]; exact Nat.le_refl _)
      rw [hRt] at HIT HTJ
      go_wp2_with fail
      go_ret2
      exact ⟨g2, a, lc, by rw [HL.out]; rfl, by rw [HL.out]; exact HIT.out.1, HTJ.out.low, HG2.out⟩
end Go.Proofs.Ytdamanckgmkbiaa.av
