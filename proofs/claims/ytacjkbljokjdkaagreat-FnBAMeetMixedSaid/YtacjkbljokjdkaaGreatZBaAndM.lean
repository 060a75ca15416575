/-
  And of arrays of both kinds, by their bits; laws.baRoom, laws.baSmall.
-/
import Derived.Test.YtacjkbljokjdkaaGreatZBaAndS
import Derived.Test.YtacjkbljokjdkaaGreatMH
namespace Go.Proofs.YtacjkbljokjdkaaGreat.ba
open Go.RowKit Go.Proofs.YtacjkbljokjdkaaGreat.base Go.Proofs.YtacjkbljokjdkaaGreat.heap Go.Proofs.YtacjkbljokjdkaaGreat.rows Go.Proofs.YtacjkbljokjdkaaGreat.bit Go.Proofs.YtacjkbljokjdkaaGreat.bs
set_option linter.unusedVariables false
section
variable {w : World} {p1 cb1 ci1 p2 c2 lo hi : Nat} {ab1 ai1 a2 : Option Addr} {P : List (Nat × Nat)} {ws l1 l2 : List Nat} {any : Bool}
set_option maxRecDepth 100000 in
set_option maxHeartbeats 1600000 in
theorem andS_ (h1 : Sp w p1 ab1 cb1 ai1 ci1 P) (h2 : Dn w p2 a2 c2 ws lo hi any) (e2 : Ends ws lo hi any) (r1 : Rep (wd P) l1) (r2 : Rep (wf ws) l2) (hroom : ∀ x ∈ P, x.1 < ws.length) :
    Calls Tryz.prog 99 #[.pointer (some ⟨p1, 0, none⟩), .iface 80 (.pointer (some ⟨p2, 0, none⟩))] w (NewA ⟨false, 0, andL l1 l2⟩ w) := by
  have HN := Lib.hid (andSD h1 h2 e2 r1 r2 hroom)
  have hta := notSparse p2
  have htb := asDense p2
  generalize (⟨false, 0, andL l1 l2⟩ : BA) = D at *
  clear h1 h2 e2 r1 r2 hroom
  go_enter Tryz.func99, Tryz.ntmps99
  go_wp2_with (go_at_call 71; refine HN.out.mono ?_)
  intro e w1 hR
  have HR := Lib.hid hR
  obtain ⟨t, u, F, rfl, _⟩ := hR
  clear HN
  go_wp2_with fail
  go_ret
  exact HR.out
theorem andL_comm {a b : List Nat} (ha : Asc a) (hb : Asc b) : andL a b = andL b a :=
  (andL_spec ha b).1.eq (andL_spec hb a).1 (fun k => by rw [(andL_spec ha b).2, (andL_spec hb a).2, and_comm])
set_option maxRecDepth 100000 in
set_option maxHeartbeats 1600000 in
theorem andD_ (h1 : Sp w p1 ab1 cb1 ai1 ci1 P) (h2 : Dn w p2 a2 c2 ws lo hi any) (e2 : Ends ws lo hi any) (r1 : Rep (wd P) l1) (r2 : Rep (wf ws) l2) (hroom : ∀ x ∈ P, x.1 < ws.length) :
    Calls Tryz.prog 55 #[.pointer (some ⟨p2, 0, none⟩), .iface 82 (.pointer (some ⟨p1, 0, none⟩))] w (NewA ⟨false, 0, andL l2 l1⟩ w) := by
  have HN := Lib.hid (andSD h1 h2 e2 r1 r2 hroom)
  rw [andL_comm r1.1 r2.1] at HN
  have hta := notDense p1
  have htb := asSparse p1
  generalize (⟨false, 0, andL l2 l1⟩ : BA) = D at *
  clear h1 h2 e2 r1 r2 hroom
  go_enter Tryz.func55, Tryz.ntmps55
  go_wp2_with (go_at_call 71; refine HN.out.mono ?_)
  intro e w1 hR
  have HR := Lib.hid hR
  obtain ⟨t, u, F, rfl, _⟩ := hR
  clear HN
  go_wp2_with fail
  go_ret
  exact HR.out
end
theorem room_pairs {P : List (Nat × Nat)} {l : List Nat} (hg : Good P) (hr : Rep (wd P) l) {q : Nat} (h : ∀ k ∈ l, k < 64 * q) : ∀ x ∈ P, x.1 < q := fun x hx => by
  obtain ⟨k, hk, e⟩ := pair_bit hg hr hx
  have := h k hk
  omega
theorem does_andSD {s : List BA} {i j : Nat} {d e : BA} (hd : s[i]? = some d) (hdd : d.dense = false) (he : s[j]? = some e) (hed : e.dense = true) (hb : ∀ k ∈ d.set, k < 64 * e.words) : Does s { op := 12, on := i, by_ := j } (s ++ [⟨false, 0, andL d.set e.set⟩]) {} := by
  intro w q c a l h hs hl
  obtain ⟨p, ab, cb, ai, ci, P, hx, h1, h2, h3⟩ := sparse_at hd hdd h hs
  obtain ⟨p', ab', cb', ws', lo', hi', any', hx', h1', h2', h3', h4'⟩ := dense_at he hed h hs
  rw [h1'] at hb
  exact (stepAndS h (by omega) i j p d ⟨false, 0, andL d.set e.set⟩ _ hx _ hx' (Lib.hid (fun wx hS => andS_ (h2.still hS) (h2'.still hS) h4' h3 h3' (room_pairs h2.good h3 hb)))).mono fun e w' hp => does_more h hs {} rfl hp
theorem does_andDS {s : List BA} {i j : Nat} {d e : BA} (hd : s[i]? = some d) (hdd : d.dense = true) (he : s[j]? = some e) (hed : e.dense = false) (hb : ∀ k ∈ e.set, k < 64 * d.words) : Does s { op := 12, on := i, by_ := j } (s ++ [⟨false, 0, andL d.set e.set⟩]) {} := by
  intro w q c a l h hs hl
  obtain ⟨p, ab, cb, ws, lo, hi, any, hx, h1, h2, h3, h4⟩ := dense_at hd hdd h hs
  obtain ⟨p', ab', cb', ai', ci', P', hx', h1', h2', h3'⟩ := sparse_at he hed h hs
  rw [h1] at hb
  exact (stepAnd h (by omega) i j p d ⟨false, 0, andL d.set e.set⟩ _ hx _ hx' (Lib.hid (fun wx hS => andD_ (h2'.still hS) (h2.still hS) h4 h3' h3 (room_pairs h2'.good h3' hb)))).mono fun e w' hp => does_more h hs {} rfl hp
theorem makesAnd {A B : List Nat} (hA : A.length ≤ 1000000) (hB : Asc B) : MakesC 11 A B (andL A B) :=
  fun sa sc sb scb wx h1 h2 => (baAnd h1.rl h2.rl hB hA).mono fun e w' h => h.mk
theorem andL_len (A B : List Nat) : (andL A B).length ≤ A.length := List.length_filter_le _ _
theorem asc_last {l : List Nat} (h : Asc l) {m x : Nat} (hm : l.length = m + 1) (hx : l[m]? = some x) (q : Nat) : (∀ k ∈ l, k < q) ↔ x < q := by
  constructor
  · exact fun h2 => h2 x (List.mem_of_getElem? hx)
  · intro h2 k hk
    obtain ⟨i, hi⟩ := List.mem_iff_getElem?.1 hk
    have hil := (List.getElem?_eq_some_iff.1 hi).1
    rcases Nat.lt_or_ge i m with h3 | h3
    · have := h.get h3 hi hx; omega
    · have : i = m := by omega
      subst this; rw [hx] at hi; cases hi; exact h2
set_option maxRecDepth 100000 in
set_option maxHeartbeats 1600000 in
theorem roomDS (q1 q2 : Nat) (A B : List Nat) (hB : Asc B) (hB1 : B.length ≤ 1000) (hq : q1 ≤ 1000) : FitsC 12 true false q1 q2 A B (decide (∀ k ∈ B, k < 64 * q1)) := by
  intro sa sc sb scb wx h1 h2
  have HS : Hid (∀ X Y : Obj, Same wx ((wx.alloc X).alloc Y)) := Lib.hid (fun X Y => ((Only.refl _ _).alloc _).alloc _)
  have hbd := h2.bound
  have e9 : IntKind.u64.wrap (64 * (q1 : Int)) = 64 * (q1 : Int) := by rw [IntKind.wrap_u64]; omega
  generalize A.length = j1 at *
  by_cases hb0 : B.length = 0
  · have hd : decide (∀ k ∈ B, k < 64 * q1) = true := by
      have := List.eq_nil_of_length_eq_zero hb0
      subst this; simp
    rw [hd, hb0]
    clear h1 h2 hd hB
    unfold bav
    go_enter Tryz.func12, Tryz.ntmps12
    go_wp2_with fail
    go_quiet (fail)
    go_wp2_with fail
    go_ret
    exact ⟨rfl, (HS.out _ _).drewN _⟩
  · obtain ⟨m, hm⟩ : ∃ m, B.length = m + 1 := ⟨B.length - 1, by omega⟩
    obtain ⟨x, hx⟩ : ∃ x, B[m]? = some x := ⟨B[m]'(by omega), List.getElem?_eq_getElem _⟩
    have HL := Lib.hid (asc_last hB hm hx (64 * q1))
    obtain ⟨j2, HJ2⟩ : ∃ j2, Hid (B.length = j2) := ⟨_, Lib.hid rfl⟩
    rw [HJ2.out] at h2 hbd hm hb0
    rw [HJ2.out]
    obtain ⟨b, off, ha, hb, hc⟩ := (h2.rl.still (HS.out (.cells #[.bool true, .int .u64 (q1 : Int), .slice sa j1 sc] 36) (.cells #[.bool false, .int .u64 (q2 : Int), .slice sb j2 scb] 36))).at (by omega)
    have c0 := hc m x hx
    have k1 : IntKind.i64.wrap ((j2 : Int) - 1) = (m : Int) := by rw [IntWalk.i64_in _ (by omega)]; omega
    have k2 : (m : Int) < (j2 : Int) := by omega
    have k3 : (0 : Int) ≤ (m : Int) := by omega
    have k4 : ((j2 : Int) == 0) = false := by rw [beq_eq_false_iff_ne]; omega
    subst ha
    unfold uv at c0
    clear h1 h2 hB hc hm
    unfold bav
    by_cases hxq : x < 64 * q1
    · have hd : decide (∀ k ∈ B, k < 64 * q1) = true := by simpa using HL.out.2 hxq
      rw [hd]
      have hxq' : (x : Int) < 64 * (q1 : Int) := by omega
      clear hd hx hxq
      go_enter Tryz.func12, Tryz.ntmps12
      go_wp2_with fail
      go_quiet (fail)
      go_wp2_with fail
      go_ret
      exact ⟨rfl, (HS.out _ _).drewN _⟩
    · have hd : decide (∀ k ∈ B, k < 64 * q1) = false := by
        rw [decide_eq_false_iff_not]; exact fun h => hxq (HL.out.1 h)
      rw [hd]
      have hxq' : decide ((x : Int) < 64 * (q1 : Int)) = false := by rw [decide_eq_false_iff_not]; omega
      have hxq2 : ¬ (x : Int) < 64 * (q1 : Int) := by omega
      clear hd hx hxq
      go_enter Tryz.func12, Tryz.ntmps12
      go_wp2_with fail
      go_quiet (fail)
      go_wp2_with fail
      go_ret
      exact ⟨rfl, (HS.out _ _).drewN _⟩
set_option maxRecDepth 100000 in
set_option maxHeartbeats 1600000 in
theorem roomSD (q1 q2 : Nat) (A B : List Nat) (hB : Asc A) (hB1 : A.length ≤ 1000) (hq : q2 ≤ 1000) : FitsC 12 false true q1 q2 A B (decide (∀ k ∈ A, k < 64 * q2)) := by
  intro sa sc sb scb wx h1 h2
  have HS : Hid (∀ X Y : Obj, Same wx ((wx.alloc X).alloc Y)) := Lib.hid (fun X Y => ((Only.refl _ _).alloc _).alloc _)
  have hbd := h1.bound
  have e9 : IntKind.u64.wrap (64 * (q2 : Int)) = 64 * (q2 : Int) := by rw [IntKind.wrap_u64]; omega
  generalize B.length = j1 at *
  by_cases hb0 : A.length = 0
  · have hd : decide (∀ k ∈ A, k < 64 * q2) = true := by
      have := List.eq_nil_of_length_eq_zero hb0
      subst this; simp
    rw [hd, hb0]
    clear h1 h2 hd hB
    unfold bav
    go_enter Tryz.func12, Tryz.ntmps12
    go_wp2_with fail
    go_quiet (fail)
    go_wp2_with fail
    go_ret
    exact ⟨rfl, (HS.out _ _).drewN _⟩
  · obtain ⟨m, hm⟩ : ∃ m, A.length = m + 1 := ⟨A.length - 1, by omega⟩
    obtain ⟨x, hx⟩ : ∃ x, A[m]? = some x := ⟨A[m]'(by omega), List.getElem?_eq_getElem _⟩
    have HL := Lib.hid (asc_last hB hm hx (64 * q2))
    obtain ⟨j2, HJ2⟩ : ∃ j2, Hid (A.length = j2) := ⟨_, Lib.hid rfl⟩
    rw [HJ2.out] at h1 hbd hm hb0
    rw [HJ2.out]
    obtain ⟨b, off, ha, hb, hc⟩ := (h1.rl.still (HS.out (.cells #[.bool false, .int .u64 (q1 : Int), .slice sa j2 sc] 36) (.cells #[.bool true, .int .u64 (q2 : Int), .slice sb j1 scb] 36))).at (by omega)
    have c0 := hc m x hx
    have k1 : IntKind.i64.wrap ((j2 : Int) - 1) = (m : Int) := by rw [IntWalk.i64_in _ (by omega)]; omega
    have k2 : (m : Int) < (j2 : Int) := by omega
    have k3 : (0 : Int) ≤ (m : Int) := by omega
    have k4 : ((j2 : Int) == 0) = false := by rw [beq_eq_false_iff_ne]; omega
    subst ha
    unfold uv at c0
    clear h1 h2 hB hc hm
    unfold bav
    by_cases hxq : x < 64 * q2
    · have hd : decide (∀ k ∈ A, k < 64 * q2) = true := by simpa using HL.out.2 hxq
      rw [hd]
      have hxq' : (x : Int) < 64 * (q2 : Int) := by omega
      clear hd hx hxq
      go_enter Tryz.func12, Tryz.ntmps12
      go_wp2_with fail
      go_quiet (fail)
      go_wp2_with fail
      go_ret
      exact ⟨rfl, (HS.out _ _).drewN _⟩
    · have hd : decide (∀ k ∈ A, k < 64 * q2) = false := by
        rw [decide_eq_false_iff_not]; exact fun h => hxq (HL.out.1 h)
      rw [hd]
      have hxq' : decide ((x : Int) < 64 * (q2 : Int)) = false := by rw [decide_eq_false_iff_not]; omega
      have hxq2 : ¬ (x : Int) < 64 * (q2 : Int) := by omega
      clear hd hx hxq
      go_enter Tryz.func12, Tryz.ntmps12
      go_wp2_with fail
      go_quiet (fail)
      go_wp2_with fail
      go_ret
      exact ⟨rfl, (HS.out _ _).drewN _⟩
set_option maxRecDepth 100000 in
set_option maxHeartbeats 1600000 in
theorem baSmallW {w : World} {a : Option Addr} {n cap : Nat} {l : List Nat} (h : RL uv w a n cap l) (hn : n ≤ 2147483647) : Calls Tryz.prog 10 #[.slice a n cap] w (PutP (l.map (· % 2000)) none w) := by
  have hbd := h.bound
  have H := Lib.hid h
  clear h
  go_enter Tryz.func10, Tryz.ntmps10
  go_wp2_with fail
  go_loopw [3, 4] (fun s i wr => ∃ (k : Nat) (a' : Option Addr) (c' : Nat), k ≤ n ∧ i = .int .i64 (k : Int) ∧ s = .slice a' k c' ∧ Hid (OU wr a' k c' ((l.take k).map (· % 2000)) ∧ Same w wr ∧ ∀ j, At a' j → w.heap.size ≤ j)) (fun _ i _ => n - (intOf i).toNat)
  case atStart => exact ⟨0, none, 0, Nat.zero_le _, rfl, rfl, Lib.hid ⟨by simpa using OU.nil w, Only.refl _ _, fun j hj => hj.elim⟩⟩
  case round =>
    obtain ⟨k, a', c', hk, rfl, rfl, HO⟩ := hrel
    by_cases hlt : k < n
    · have hlt' : (k : Int) < (n : Int) := by omega
      have hk0 : (0 : Int) ≤ (k : Int) := by omega
      obtain ⟨b1, o1, ha1, hb1, hc1⟩ := (H.out.still HO.out.2.1).at (by omega)
      obtain ⟨x, hx⟩ := H.out.get hlt
      have c1 := hc1 k x hx
      have HX := Lib.hid hx
      obtain ⟨y, HY⟩ : ∃ y, Hid (x % 2000 = y) := ⟨_, Lib.hid rfl⟩
      have hy : (x : Int) % 2000 = (y : Int) := by have := HY.out; omega
      have bb := HO.out.1.bound
      subst ha1
      clear hx hc1
      go_wp2_with (at_builtin; refine wpList_append (k + 1) (U ((l.take k).map (· % 2000)) ++ U [y]) rfl _ _ _ _ rfl slWord rfl (HO.out.1.1.keep (S := fun _ => False) (by repeat (first | exact Only.refl _ _ | apply Only.alloc | apply Only.drew)) (fun _ _ => id)) rfl (Src.row (size := 1) (cs := #[.int .u64 (y : Int)]) (t := 34) (fr := (0, 0)) Tryz.underlying24 (by exact heap_alloc_new _ _) 1 1 rfl (by intro u hu; simp at hu; subst hu; rfl)) rfl rfl (by unfold maxLen; omega) (by omega) ?_)
      intro a2 cc2 w2 hG
      have HO2 : Hid (OU w2 a2 (k + 1) cc2 ((l.take (k + 1)).map (· % 2000)) ∧ Same w w2 ∧ ∀ j, At a2 j → w.heap.size ≤ j) := Lib.hid (by
        have e1 : (l.take (k + 1)).map (· % 2000) = (l.take k).map (· % 2000) ++ [y] := by rw [take_snoc l k x HX.out, List.map_append, ← HY.out]; rfl
        have e2 : U ((l.take k).map (· % 2000)) ++ U [y] = U ((l.take (k + 1)).map (· % 2000)) := by rw [e1]; simp [U]
        have e3 : ((l.take (k + 1)).map (· % 2000)).length = k + 1 := by rw [e1, List.length_append, HO.out.1.2]; rfl
        refine ⟨⟨by rw [← e2, List.map_take]; exact hG.own, e3⟩, new_only (Same.trans HO.out.2.1 ((Only.refl _ _).alloc _)) hG.only (fun j hj => HO.out.2.2 j hj), fun j hj => ?_⟩
        rcases hG.fresh j hj with h1 | h1
        · exact HO.out.2.2 j h1
        · have := HO.out.2.1.size; simp at h1; omega)
      clear hG
      go_wp2_with fail
      go_roundw
      case rel => exact ⟨k + 1, a2, cc2, by omega, by go_num, rfl, HO2⟩
      case measure => simp [intOf]; omega
    · have hlt' : ¬ (k : Int) < (n : Int) := by omega
      obtain rfl : k = n := by omega
      have HF : Hid (l.take k = l ∧ (l.map (· % 2000)).length = k) := Lib.hid ⟨List.take_of_length_le (by rw [H.out.2]; omega), by rw [List.length_map]; exact H.out.2⟩
      rw [HF.out.1] at HO
      go_wp2_with fail
      go_ret
      exact ⟨a', c', by rw [HF.out.2]; rfl, by rw [HF.out.2]; exact HO.out.1, HO.out.2.1, fun j hj => .inr (HO.out.2.2 j hj)⟩
end Go.Proofs.YtacjkbljokjdkaaGreat.ba
