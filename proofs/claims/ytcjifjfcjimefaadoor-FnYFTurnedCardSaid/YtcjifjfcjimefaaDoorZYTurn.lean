/-
  laws.trTurned.
-/
import Derived.Test.YtcjifjfcjimefaaDoorZYLaw
import Derived.Test.YtcjifjfcjimefaaDoorZXfItems
import Derived.Test.YtcjifjfcjimefaaDoorZXfTrp
namespace Go.Proofs.YtcjifjfcjimefaaDoor.xf
open Go.ChangeShapes Go.WideShapes Go.ChangeAt Go.RowKit Go.Proofs.YtcjifjfcjimefaaDoor.base Go.Proofs.YtcjifjfcjimefaaDoor.heap Go.Proofs.YtcjifjfcjimefaaDoor.rows Go.Proofs.YtcjifjfcjimefaaDoor.mapn
set_option linter.unusedVariables false

set_option maxRecDepth 100000 in
set_option maxHeartbeats 3200000 in
theorem trTurned_of (w : World) (a : Option Addr) (n cap : Nat) (l : List It) (hR : RS itc 2 w a n cap l) (hn : n ≤ 60) : Calls Tryd.prog 12 #[.slice a n cap] w (fun e w' => ∃ a' n' c', e = .returned (.slice a' n' c') ∧ n' ≤ n ∧ New 43 itc 2 w w' a' n' c' (once l.reverse)) := by
  have HR := Lib.hid hR
  have bd := hR.bound
  have hln := hR.2
  have HN0 : Hid (New 43 itc 2 w w none 0 0 (once (l.reverse.take (n - ((n : Int) - 1 + 1).toNat)))) := Lib.hid (by
    rw [show n - ((n : Int) - 1 + 1).toNat = 0 by omega]
    exact New.nil _ _ _ _)
  have HLN := Lib.hid hln
  clear hR
  go_enter Tryd.func12, Tryd.ntmps12
  go_wp2_with fail
  go_loopw [3, 4] (fun o iv wr => ∃ (i : Int) (oa : Option Addr) (oj oc : Nat), o = .slice oa oj oc ∧ iv = .int .i64 i ∧ -1 ≤ i ∧ i < n ∧ oj ≤ n - (i + 1).toNat ∧ Hid (New 43 itc 2 w wr oa oj oc (once (l.reverse.take (n - (i + 1).toNat))))) (fun _ iv _ => (intOf iv + 1).toNat)
  case atStart => exact ⟨(n : Int) - 1, none, 0, 0, rfl, by go_num, by omega, by omega, Nat.zero_le _, HN0⟩
  case round =>
    clear HN0
    obtain ⟨i, oa, oj, oc, rfl, rfl, hi1, hin, hoj, HG⟩ := hrel
    obtain ⟨w0, rfl⟩ : ∃ w0, w0 = wr := ⟨_, rfl⟩
    have hbo := HG.out.row.bound
    by_cases hi0 : 0 ≤ i
    · obtain ⟨p, rfl⟩ := Int.eq_ofNat_of_zero_le hi0
      have hpn : p < n := by omega
      have hpp : ((p : Int) + 1).toNat = p + 1 := by omega
      rw [hpp] at HG hoj
      obtain ⟨y, hy⟩ := HR.out.get hpn
      obtain ⟨b, off, ha, hb, hc⟩ := (HR.out.still HG.out.same).at itc_len (by omega)
      have HC : Hid (∀ wx, Same w0 wx → wx.cell? ⟨b, off + p * 2, none⟩ = some (.int .u64 (y.1 : Int)) ∧ wx.cell? ⟨b, off + p * 2 + 1, none⟩ = some (.int .i64 y.2) ∧ b < wx.heap.size) := Lib.hid (fun wx hx => ⟨(hx.cell (p := ⟨b, off + p * 2, none⟩) hb id).trans (hc p y hy 0 _ rfl), (hx.cell (p := ⟨b, off + p * 2 + 1, none⟩) hb id).trans (hc p y hy 1 _ rfl), Nat.lt_of_lt_of_le hb hx.size⟩)
      have HNX : Hid (once (l.reverse.take (n - p)) = if (once (l.reverse.take (n - (p + 1)))).any (fun t => t.1 == y.1) then once (l.reverse.take (n - (p + 1))) else once (l.reverse.take (n - (p + 1))) ++ [y]) := Lib.hid (by
        have h1 : l.reverse[n - (p + 1)]? = some y := by
          rw [List.getElem?_reverse (by rw [HLN.out]; omega), HLN.out, show n - 1 - (n - (p + 1)) = p by omega]
          exact hy
        rw [show n - p = n - (p + 1) + 1 by omega, take_snoc _ _ _ h1, once_snoc])
      obtain ⟨Q, hQ⟩ : ∃ Q, once (l.reverse.take (n - (p + 1))) = Q := ⟨_, rfl⟩
      rw [hQ] at HG HNX
      have hQl := HG.out.row.2
      have HQL := Lib.hid hQl
      subst ha
      clear hc hy hQ hi0 hi1 hin
      go_upto_block 2 with fail
      go_cut [5] (fun tv wx => ∃ tb : Bool, tv = .bool tb ∧ Hid (Same w0 wx ∧ tb = Q.any (fun t => t.1 == y.1)))
      case first =>
        go_wp2_with fail
        go_loopw [5, 6] (fun tv kv wr => ∃ (tb : Bool) (k : Nat), tv = .bool tb ∧ kv = .int .i64 (k : Int) ∧ k ≤ oj ∧ Hid (Same w0 wr ∧ tb = (Q.take k).any (fun t => t.1 == y.1))) (fun _ kv _ => oj - (intOf kv).toNat)
        case atStart => exact ⟨false, 0, rfl, rfl, Nat.zero_le _, Lib.hid ⟨Only.refl _ _, by simp⟩⟩
        case round =>
          obtain ⟨tb, k, rfl, rfl, hk, HI⟩ := hrel
          by_cases hko : k < oj
          · have hko' : (k : Int) < (oj : Int) := by omega
            obtain ⟨z, hz⟩ := HG.out.row.rs.get hko
            obtain ⟨b2, off2, ha2, hb2, hc2⟩ := (HG.out.row.rs.still HI.out.1).at itc_len (by omega)
            have z0 : wr.cell? ⟨b2, off2 + k * 2, none⟩ = some (.int .u64 (z.1 : Int)) := hc2 k z hz 0 _ rfl
            obtain ⟨y0, y1, ly⟩ := HC.out wr HI.out.1
            have HQ2 : Hid ((Q.take (k + 1)).any (fun t => t.1 == y.1) = ((Q.take k).any (fun t => t.1 == y.1) || (z.1 == y.1))) := Lib.hid (by rw [take_snoc Q k z hz]; simp)
            subst ha2
            clear hc2 hz
            cases tb with
            | true =>
              go_wp2_with fail
              go_quiet (fail)
              go_wp2_with fail
              go_roundw
              case rel => exact ⟨true, k + 1, rfl, by go_num, by omega, Lib.hid ⟨HI.out.1.drewN _, by rw [HQ2.out, ← HI.out.2]; rfl⟩⟩
              case measure => simp [intOf]; omega
            | false =>
              go_wp2_with fail
              go_quiet (fail)
              go_wp2_with fail
              go_roundw
              case rel => exact ⟨_, k + 1, rfl, by go_num, by omega, Lib.hid ⟨HI.out.1.drewN _, by rw [HQ2.out, ← HI.out.2, ← int_eq]; rfl⟩⟩
              case measure => simp [intOf]; omega
          · have hko' : ¬ (k : Int) < (oj : Int) := by omega
            obtain rfl : k = oj := by omega
            go_wp2_with fail
            go_meet
            exact ⟨tb, rfl, Lib.hid ⟨HI.out.1, by rw [HI.out.2, List.take_of_length_le (by omega)]⟩⟩
      case rest =>
      obtain ⟨tb, rfl, HI⟩ := hcut
      obtain ⟨y0, y1, ly⟩ := HC.out wc HI.out.1
      cases tb with
      | true =>
        have HN : Hid (New 43 itc 2 w wc oa oj oc (once (l.reverse.take (n - p)))) := Lib.hid (by
          rw [HNX.out, ← HI.out.2, if_pos rfl]
          exact HG.out.still HI.out.1)
        go_wp2_with fail
        go_roundw
        case rel => exact ⟨(p : Int) - 1, oa, oj, oc, rfl, by go_num, by omega, by omega, by omega, Lib.hid (by rw [show ((p : Int) - 1 + 1).toNat = p by omega]; exact HN.out)⟩
        case measure => simp [intOf]
      | false =>
        go_wp2_with (at_builtin; refine wpList_append (oj + 1) (Q.flatMap itc ++ [.int .u64 (y.1 : Int), .int .i64 y.2]) rfl _ _ _ _ rfl slIt rfl ((HG.out.row.1.keep HI.out.1 (fun _ _ => id)).keep (S := fun _ => False) (by repeat (first | exact Only.refl _ _ | apply Only.alloc | apply Only.drew)) (fun _ _ => id)) rfl (Src.row (size := 2) (cs := #[.int .u64 (y.1 : Int), .int .i64 y.2]) (t := 43) (fr := (0, 0)) Tryd.underlying22 (by exact heap_alloc_new' _ _ _ (by simp)) 1 1 rfl (by simp [Value.oneCell'])) rfl rfl (by unfold maxLen; omega) (by omega) ?_)
        intro a2 c2 w8 hG
        have HN : Hid (New 43 itc 2 w w8 a2 (oj + 1) c2 (once (l.reverse.take (n - p)))) := Lib.hid (by
          rw [HNX.out, ← HI.out.2, if_neg (by decide)]
          exact HG.out.step (HI.out.1.alloc _) hG)
        clear hG
        go_wp2_with fail
        go_roundw
        case rel => exact ⟨(p : Int) - 1, a2, oj + 1, c2, rfl, by go_num, by omega, by omega, by omega, Lib.hid (by rw [show ((p : Int) - 1 + 1).toNat = p by omega]; exact HN.out)⟩
        case measure => simp [intOf]
    · obtain rfl : i = -1 := by omega
      have HF : Hid (New 43 itc 2 w w0 oa oj oc (once l.reverse)) := Lib.hid (by
        have := HG.out
        rwa [show n - ((-1 : Int) + 1).toNat = n by omega, List.take_of_length_le (by rw [List.length_reverse, HLN.out]; exact Nat.le_refl _)] at this)
      go_wp2_with fail
      go_ret
      exact ⟨oa, oj, oc, rfl, by omega, HF.out⟩
end Go.Proofs.YtcjifjfcjimefaaDoor.xf
