/-
  Step of spec: what each step says is what spec's Step takes.
-/
import Derived.Test.YtpddddjfjmipfaaFhDoes10
namespace Go.Proofs.Ytpddddjfjmipfaa.fh
open Go.RowKit Go.Proofs.Ytpddddjfjmipfaa.base Go.Proofs.Ytpddddjfjmipfaa.heap Go.Proofs.Ytpddddjfjmipfaa.rows Go.Proofs.Ytpddddjfjmipfaa.flt
set_option linter.unusedVariables false

theorem doesAny {S S' : Pris} {s : Stp} {x : An} (hst : Stepd S s x S') (xs : Int) (xm : Bool) (a : Option Addr) (n c : Nat) (w : World) (h : RE w a n c (ents 0 S)) (hn : n ≤ 10000) (hm : S.length ≤ 10000) (hL : RL iv w s.a s.m s.cap s.L) (hsm : s.m ≤ 40) :
    Calls Try.prog 19 #[hv a n c S.length, .agg #[.int .i64 s.op, .int .i64 s.n, .int .i64 s.p, .slice s.a s.m s.cap], .agg #[.bool x.is, .int .i64 x.ent, .int .i64 x.p, .int .i64 xs, .bool xm]] w (DoP a (ents 0 S') S'.length w) := by
  obtain ⟨op, sn, sp, sa, sm, sc, M⟩ := s
  have hat := ati_some S sn
  have hsl : (Value.slice sa sm sc).cells = #[Value.slice sa sm sc] := rfl
  have hlen := h.2
  cases hst with
  | enq e =>
    obtain rfl : op = 1 := e
    rw [ents_snoc, List.length_append]
    exact does1 a n c S.length (ents 0 S) sn sp _ hsl xs xm w h hn hm hat
  | min0 e he =>
    have h0 : n = 0 := by rw [← hlen, ents_none he]; rfl
    rcases e with e | e
    · obtain rfl : op = 2 := e
      exact does2o a n c S.length (ents 0 S) sn sp _ hsl xs xm w h hn hm hat h0
    · obtain rfl : op = 3 := e
      exact does3o a n c S.length (ents 0 S) sn sp _ hsl xs xm w h hn hm hat h0
  | @min i p e hl =>
    obtain rfl : op = 2 := e
    exact does2m a n c S.length (ents 0 S) sn sp _ hsl xs xm w h hn hm _ ⟨i, p⟩ (ents_at hl.1).1 (ati_at hl.1) (ents_least hl) hat
  | @deq i p e hl =>
    obtain rfl : op = 3 := e
    rw [(ents_at hl.1).2.1, List.length_set]
    exact does3m a n c S.length (ents 0 S) sn sp _ hsl xs xm w h hn hm _ ⟨i, p⟩ (ents_at hl.1).1 (ati_at hl.1) (ents_least hl) hat
  | off e ho =>
    rcases e with e | e
    · obtain rfl : op = 4 := e
      exact does4o a n c S.length (ents 0 S) sn sp _ hsl xs xm w h hn hm (ati_off ho)
    · obtain rfl : op = 5 := e
      exact does5o a n c S.length (ents 0 S) sn sp _ hsl xs xm w h hn hm (ati_off ho)
  | @dec0 k q e hk hq hle =>
    obtain rfl : op = 4 := e
    obtain rfl : sn = (k : Int) := hk
    have hle' : q ≤ sp := hle
    rcases Int.lt_or_eq_of_le hle' with h1 | h1
    · exact does4e a n c S.length (ents 0 S) _ sp _ hsl xs xm w h hn hm _ ⟨k, q⟩ (ents_at hq).1 (ati_at hq) h1
    · subst h1
      exact does4f a n c S.length (ents 0 S) _ q _ hsl xs xm w h hn hm _ ⟨k, q⟩ (ents_at hq).1 (ati_at hq) rfl
  | @dec k q e hk hq hlt =>
    obtain rfl : op = 4 := e
    obtain rfl : sn = (k : Int) := hk
    rw [(ents_at hq).2.2, List.length_set]
    exact does4d a n c S.length (ents 0 S) _ sp _ hsl xs xm w h hn hm _ ⟨k, q⟩ (ents_at hq).1 (ati_at hq) hlt (Int.natCast_nonneg k)
  | @del k q e hk hq =>
    obtain rfl : op = 5 := e
    obtain rfl : sn = (k : Int) := hk
    rw [(ents_at hq).2.1, List.length_set]
    exact does5d a n c S.length (ents 0 S) _ sp _ hsl xs xm w h hn hm _ ⟨k, q⟩ (ents_at hq).1 (ati_at hq)
  | mrg e =>
    obtain rfl : op = 6 := e
    have hl2 : (S ++ M.map some).length = S.length + sm := by rw [List.length_append, List.length_map]; have := hL.2; simp at this; omega
    show Calls _ _ _ _ (DoP a (ents 0 (S ++ M.map some)) (S ++ M.map some).length w)
    rw [hl2, ents_append, Nat.zero_add]
    exact does6 a n c S.length (ents 0 S) sn sp sa sm sc M xs xm w h hn hm hL hsm hat

/-- a list that is read does not lie in an empty heap's box -/
theorem RE_not {w : World} {a : Option Addr} {n c k : Nat} {L : List En} (h : RE w a n c L) (h0 : 0 < n) (hb : w.heap[k]? = some (.cells #[.slice none 0 0, .int .i64 0] 28 (0, 0))) : ∀ j, At a j → j ≠ k := fun j hj e => by
  subst e
  obtain ⟨x, hx⟩ := h.get h0
  obtain ⟨b, off, rfl, _, hc⟩ := h.at enc_len h0
  obtain rfl : b = j := hj
  have h1 := hc 0 x hx 0 _ rfl
  have h2 := hc 0 x hx 1 _ rfl
  rw [Nat.zero_mul, Nat.add_zero] at h1
  rw [Nat.zero_mul, Nat.add_zero] at h2
  match off with
  | 0 => rw [block_cell (j := 0) hb rfl] at h1; simp at h1
  | off + 1 => simp [World.cell?, hb] at h2
/-- said of Step: as of does; the list lies where there is memory -/
def StP (a : Option Addr) (L' : List En) (many' : Nat) (w : World) (e : Ending) (w' : World) : Prop := ∃ a' n' c', e = .returned (.tuple #[hv a' n' c' many', .bool true]) ∧ RE w' a' n' c' L' ∧ Same w w' ∧ ∀ j, At a' j → At a j ∨ w.heap.size ≤ j
set_option maxRecDepth 100000 in
set_option maxHeartbeats 6400000 in
theorem stepS {S S' : Pris} {s : Stp} {x : An} (hst : Stepd S s x S') (a : Option Addr) (n c : Nat) (w : World) (h : RE w a n c (ents 0 S)) (hn : n ≤ 10000) (hm : S.length ≤ 10000) (hL : RL iv w s.a s.m s.cap s.L) (hsm : s.m ≤ 40) :
    Calls Try.prog 9 #[hv a n c S.length, .agg #[.int .i64 s.op, .int .i64 s.n, .int .i64 s.p, .slice s.a s.m s.cap], .agg #[.bool x.is, .int .i64 x.ent, .int .i64 x.p, .int .i64 (cnt S' : Int), .bool (cnt S' == 0)]] w (StP a (ents 0 S') S'.length w) := by
  have HD : Hid (∀ wx, Same w wx → Calls Try.prog 19 #[hv a n c S.length, .agg #[.int .i64 s.op, .int .i64 s.n, .int .i64 s.p, .slice s.a s.m s.cap], .agg #[.bool x.is, .int .i64 x.ent, .int .i64 x.p, .int .i64 (cnt S' : Int), .bool (cnt S' == 0)]] wx (DoP a (ents 0 S') S'.length wx)) := Lib.hid (fun wx hx => doesAny hst _ _ a n c wx (h.still hx) hn hm (hL.still hx) hsm)
  have HCL : Hid ((ents 0 S').length = cnt S') := Lib.hid (ents_len 0 S')
  obtain ⟨ml, hml⟩ : ∃ ml, S.length = ml := ⟨_, rfl⟩
  obtain ⟨ml', hml'⟩ : ∃ ml, S'.length = ml := ⟨_, rfl⟩
  obtain ⟨L', hL'⟩ : ∃ L, ents 0 S' = L := ⟨_, rfl⟩
  obtain ⟨q, hq⟩ : ∃ q, cnt S' = q := ⟨_, rfl⟩
  obtain ⟨xi, xe, xp, xs0, xm0⟩ := x
  obtain ⟨so, sn, sp, sa, sm, sc, M⟩ := s
  rw [hml, hml', hL', hq] at HD
  rw [hL', hq] at HCL
  rw [hml, hml', hL', hq]
  show Calls Try.prog 9 #[hv a n c ml, .agg #[.int .i64 so, .int .i64 sn, .int .i64 sp, .slice sa sm sc], .agg #[.bool xi, .int .i64 xe, .int .i64 xp, .int .i64 (q : Int), .bool (q == 0)]] w _
  have HD2 : Hid (∀ wx, Same w wx → Calls Try.prog 19 #[hv a n c ml, .agg #[.int .i64 so, .int .i64 sn, .int .i64 sp, .slice sa sm sc], .agg #[.bool xi, .int .i64 xe, .int .i64 xp, .int .i64 (q : Int), .bool (q == 0)]] wx (DoP a L' ml' wx)) := HD
  obtain ⟨em, hem⟩ : ∃ em, (q == 0) = em := ⟨_, rfl⟩
  rw [hem] at HD2
  rw [hem]
  have HEM := Lib.hid hem
  clear hst h hm hL hsm hml hml' hL' hq HD hem
  go_enter Try.func9, Try.ntmps9
  go_upto_region 1 with fail
  obtain ⟨w1, hw1⟩ : ∃ w1, ((((w.alloc (.cells #[.slice a n c, .int .i64 (ml : Int)] 28)).alloc (.cells #[.int .i64 so, .int .i64 sn, .int .i64 sp, .slice sa sm sc] 31)).alloc (.cells #[.bool xi, .int .i64 xe, .int .i64 xp, .int .i64 (q : Int), .bool em] 35)).alloc (.cells #[.slice none 0 0, .int .i64 0] 28)) = w1 := ⟨_, rfl⟩
  obtain ⟨g, hg⟩ : ∃ g, w.heap.size = g := ⟨_, rfl⟩
  have HG := Lib.hid hg
  have HS1 : Hid (Same w w1) := Lib.hid (by rw [← hw1]; exact ((((Only.refl _ _).alloc _).alloc _).alloc _).alloc _)
  have HB1 : Hid (Bx w1 g a n c ml so sn sp (.slice sa sm sc) xi xe xp (q : Int) em) := Lib.hid (by
    have e1 := hw1
    rw [← e1, ← hg]
    exact ⟨((Only.refl (fun _ => False) _).alloc _).alloc _ |>.obj (heap_box _ _) id, by
      have := heap_box (w := w.alloc (.cells #[.slice a n c, .int .i64 (ml : Int)] 28)) (.cells #[.int .i64 so, .int .i64 sn, .int .i64 sp, .slice sa sm sc] 31) (.cells #[.bool xi, .int .i64 xe, .int .i64 xp, .int .i64 (q : Int), .bool em] 35)
      exact ((Only.refl (fun _ => False) _).alloc _).obj (by simpa using this) id, by
      have := heap_box (w := (w.alloc (.cells #[.slice a n c, .int .i64 (ml : Int)] 28)).alloc (.cells #[.int .i64 so, .int .i64 sn, .int .i64 sp, .slice sa sm sc] 31)) (.cells #[.bool xi, .int .i64 xe, .int .i64 xp, .int .i64 (q : Int), .bool em] 35) (.cells #[.slice none 0 0, .int .i64 0] 28)
      simpa using this, heap_alloc_new' _ _ _ (by simp)⟩)
  rw [hw1]
  simp only [hg, Nat.add_assoc, Nat.reduceAdd]
  clear hw1 hg
  have a0_w1 : w1.cell? ⟨g, 0, none⟩ = some (.slice a n c) := block_cell (HB1.out).h0 rfl
  have a1_w1 : w1.cell? ⟨g, 1, none⟩ = some (.int .i64 (ml : Int)) := block_cell (HB1.out).h0 rfl
  have b0_w1 : w1.cell? ⟨g + 1, 0, none⟩ = some (.int .i64 so) := block_cell (HB1.out).h1 rfl
  have b1_w1 : w1.cell? ⟨g + 1, 1, none⟩ = some (.int .i64 sn) := block_cell (HB1.out).h1 rfl
  have b2_w1 : w1.cell? ⟨g + 1, 2, none⟩ = some (.int .i64 sp) := block_cell (HB1.out).h1 rfl
  have b3_w1 : w1.cell? ⟨g + 1, 3, none⟩ = some (.slice sa sm sc) := block_cell (HB1.out).h1 rfl
  have c0_w1 : w1.cell? ⟨g + 2, 0, none⟩ = some (.bool xi) := block_cell (HB1.out).h2 rfl
  have c1_w1 : w1.cell? ⟨g + 2, 1, none⟩ = some (.int .i64 xe) := block_cell (HB1.out).h2 rfl
  have c2_w1 : w1.cell? ⟨g + 2, 2, none⟩ = some (.int .i64 xp) := block_cell (HB1.out).h2 rfl
  have c3_w1 : w1.cell? ⟨g + 2, 3, none⟩ = some (.int .i64 (q : Int)) := block_cell (HB1.out).h2 rfl
  have c4_w1 : w1.cell? ⟨g + 2, 4, none⟩ = some (.bool em) := block_cell (HB1.out).h2 rfl
  go_wp2_with fail
  refine (HD2.out _ HS1.out).mono ?_
  rintro e w2 ⟨a', n', c', rfl, hr2, hs2, hn2⟩
  have HX : Hid (RE w2 a' n' c' L' ∧ Same w1 w2 ∧ ∀ j, At a' j → At a j ∨ w1.heap.size ≤ j) := Lib.hid ⟨hr2, hs2, hn2⟩
  have hbd := hr2.bound
  have hnq : n' = q := by rw [← hr2.2]; exact HCL.out
  subst hnq
  clear hr2 hs2 hn2 a0_w1 a1_w1 b0_w1 b1_w1 b2_w1 b3_w1 c0_w1 c1_w1 c2_w1 c3_w1 c4_w1
  go_upto_region 2 with fail
  obtain ⟨w3, hw3⟩ : ∃ w3, w2.alloc (.cells #[.slice a' n' c', .int .i64 (ml' : Int)] 28) = w3 := ⟨_, rfl⟩
  have HS3 : Hid (Same w2 w3) := Lib.hid (by rw [← hw3]; exact (Only.refl _ _).alloc _)
  have HB3 : Hid (Bx w3 g a n c ml so sn sp (.slice sa sm sc) xi xe xp (n' : Int) em) := Lib.hid ((HB1.out.still HX.out.2.1).still HS3.out)
  obtain ⟨g8, hg8⟩ : ∃ g8, w2.heap.size = g8 := ⟨_, rfl⟩
  have HG8 : Hid (w3.heap[g8]? = some (.cells #[.slice a' n' c', .int .i64 (ml' : Int)] 28 (0, 0)) ∧ g + 3 < g8) := Lib.hid (by
    rw [← hw3, ← hg8]
    exact ⟨heap_alloc_new _ _, by have := lt_of_heap (HB1.out.still HX.out.2.1).h3; omega⟩)
  rw [hw3]
  simp only [hg8]
  have HGG : Hid (g8 = w2.heap.size) := Lib.hid hg8.symm
  clear hw3 hg8
  have HZ : Hid (w.heap.size = g) := HG
  go_cut [7] (fun v wx => v = .bool true ∧ Hid (wx.heap[g + 3]? = some (.cells #[.slice a' n' c', .int .i64 (ml' : Int)] 28 (0, 0)) ∧ Only (fun k => k = g + 3) w3 wx))
  case first =>
    have a0 : w3.cell? ⟨g8, 0, none⟩ = some (.slice a' n' c') := block_cell HG8.out.1 rfl
    have a1 : w3.cell? ⟨g8, 1, none⟩ = some (.int .i64 (ml' : Int)) := block_cell HG8.out.1 rfl
    have c3 : w3.cell? ⟨g + 2, 3, none⟩ = some (.int .i64 (n' : Int)) := block_cell (HB3.out).h2 rfl
    have c4 : w3.cell? ⟨g + 2, 4, none⟩ = some (.bool em) := block_cell (HB3.out).h2 rfl
    have d0 : w3.cell? ⟨g + 3, 0, none⟩ = some (.slice none 0 0) := block_cell (HB3.out).h3 rfl
    have d1 : w3.cell? ⟨g + 3, 1, none⟩ = some (.int .i64 0) := block_cell (HB3.out).h3 rfl
    have f3 : ∀ i, w3.frozen? ⟨g + 3, i, none⟩ = false := fun i => block_free (HB3.out).h3
    have lg : g + 3 < w3.heap.size := lt_of_heap (HB3.out).h3
    have lg8 : g8 < w3.heap.size := lt_of_heap HG8.out.1
    have hne : g8 ≠ g + 3 := by have := HG8.out.2; omega
    have hen : ((n' : Int) == 0) = em := by
      have := HEM.out
      rw [← this]
      cases n' with
      | zero => rfl
      | succ k => simp; omega
    have HSX : Hid (∀ wx, Only (fun k => k = g + 3) w3 wx → (wx.cell? ⟨g8, 0, none⟩ = some (.slice a' n' c') ∧ wx.cell? ⟨g8, 1, none⟩ = some (.int .i64 (ml' : Int)) ∧ wx.cell? ⟨g + 2, 3, none⟩ = some (.int .i64 (n' : Int)) ∧ wx.cell? ⟨g + 2, 4, none⟩ = some (.bool em))) := Lib.hid (fun wx hx => ⟨block_cell (hx.obj HG8.out.1 hne) rfl, block_cell (hx.obj HG8.out.1 hne) rfl, block_cell (hx.obj HB3.out.h2 (by omega)) rfl, block_cell (hx.obj HB3.out.h2 (by omega)) rfl⟩)
    have HSY : Hid (∀ v v', (((w3.setCell ⟨g + 3, 0, none⟩ v).setCell ⟨g + 3, 1, none⟩ v').drew.cell? ⟨g8, 0, none⟩ = some (.slice a' n' c') ∧ ((w3.setCell ⟨g + 3, 0, none⟩ v).setCell ⟨g + 3, 1, none⟩ v').drew.cell? ⟨g8, 1, none⟩ = some (.int .i64 (ml' : Int)) ∧ ((w3.setCell ⟨g + 3, 0, none⟩ v).setCell ⟨g + 3, 1, none⟩ v').drew.cell? ⟨g + 2, 3, none⟩ = some (.int .i64 (n' : Int)) ∧ ((w3.setCell ⟨g + 3, 0, none⟩ v).setCell ⟨g + 3, 1, none⟩ v').drew.cell? ⟨g + 2, 4, none⟩ = some (.bool em))) := Lib.hid (fun v v' => HSX.out _ (Only.drew (Only.setCell (Only.setCell (Only.refl (fun k => k = g + 3) w3) ⟨g + 3, 0, none⟩ v (fun _ => rfl)) ⟨g + 3, 1, none⟩ v' (fun _ => rfl))))
    have HFIN : Hid (((w3.setCell ⟨g + 3, 0, none⟩ (.slice a' n' c')).setCell ⟨g + 3, 1, none⟩ (.int .i64 (ml' : Int))).drew.heap[g + 3]? = some (.cells #[.slice a' n' c', .int .i64 (ml' : Int)] 28 (0, 0)) ∧ Only (fun k => k = g + 3) w3 ((w3.setCell ⟨g + 3, 0, none⟩ (.slice a' n' c')).setCell ⟨g + 3, 1, none⟩ (.int .i64 (ml' : Int))).drew) := Lib.hid ⟨setCell_heap (setCell_heap HB3.out.h3 0 _) 1 _, Only.drew (Only.setCell (Only.setCell (Only.refl (fun k => k = g + 3) w3) ⟨g + 3, 0, none⟩ _ (fun _ => rfl)) ⟨g + 3, 1, none⟩ _ (fun _ => rfl))⟩
    clear HD2 HCL HG HS1 HB1 HX hbd HS3 HB3 HG8 HGG HZ HEM hn
    go_region_held3 (fun w' => w'.cell? ⟨g8, 0, none⟩ = some (.slice a' n' c') ∧ w'.cell? ⟨g8, 1, none⟩ = some (.int .i64 (ml' : Int)) ∧ w'.cell? ⟨g + 2, 3, none⟩ = some (.int .i64 (n' : Int)) ∧ w'.cell? ⟨g + 2, 4, none⟩ = some (.bool em))
      (first
      | (with_reducible exact HSX.out _ (Only.drew (Only.refl _ _)))
      | (with_reducible exact HSY.out _ _)
      | fail)
      (first
      | fail)
    all_goals
      go_wp2_with fail
      go_meet
      exact ⟨rfl, HFIN⟩
  case rest =>
    obtain ⟨rfl, HF⟩ := hcut
    obtain ⟨w5, hw5⟩ : ∃ w5, w5 = wc := ⟨_, rfl⟩
    rw [← hw5] at HF ⊢
    clear hw5
    have d0 : w5.cell? ⟨g + 3, 0, none⟩ = some (.slice a' n' c') := block_cell HF.out.1 rfl
    have d1 : w5.cell? ⟨g + 3, 1, none⟩ = some (.int .i64 (ml' : Int)) := block_cell HF.out.1 rfl
    go_wp2_with fail
    refine bodyPost_ret (v := .tuple #[.agg #[.slice a' n' c', .int .i64 (ml' : Int)], .bool true]) ?_ rfl ?_
    · simp [results, Try.results9, go_sem, d0, d1]
    obtain ⟨x1, x2, x3⟩ := HX.out
    have z := (HS1.out.trans x2).size
    have z1 := HS1.out.size
    have hlow := HG8.out.2
    have hg0 := HG.out
    have h3 := lt_of_heap HB1.out.h3
    refine ⟨a', n', c', rfl, ?_, Only.trans (S := fun _ => False) (HS1.out.trans (x2.trans HS3.out)) HF.out.2 (fun k hk e => by have e' : k = g + 3 := e; omega), fun j hj => (x3 j hj).imp id (fun h => by omega)⟩
    exact RE_keep0 (x1.still HS3.out) HF.out.2 (fun h0 j hj e => RE_not (x1.still HS3.out) h0 HB3.out.h3 j hj e)
end Go.Proofs.Ytpddddjfjmipfaa.fh
