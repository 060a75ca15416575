/-
  An AVL tree's entries: compared; looked for.
-/
import Derived.Test.YtdamanckgmkbiaaAvMem
import Derived.Test.YtdamanckgmkbiaaApp
import Derived.StillTailTactics
import Derived.Deep.Cut
import Derived.Deep.RegionLaw
import Derived.Deep.LoopGhost
namespace Go.Proofs.Ytdamanckgmkbiaa.av
open Go.RowKit Go.Proofs.Ytdamanckgmkbiaa.base Go.Proofs.Ytdamanckgmkbiaa.heap Go.Proofs.Ytdamanckgmkbiaa.rows
set_option linter.unusedVariables false
/-- how keys compare -/
def sgn (k x : Int) : Int := if k < x then -1 else if x < k then 1 else 0
set_option maxRecDepth 100000 in
theorem orderC (a b : Int) (w : World) : Calls Try.prog 66 #[.int .i64 a, .int .i64 b] w fun e w' => e = .returned (.int .i64 (sgn a b)) ∧ w' = w := by
  unfold sgn
  by_cases h1 : a < b
  · rw [if_pos h1]
    go_enter Try.func66, Try.ntmps66
    go_wp2_with fail
    go_ret
    exact ⟨rfl, rfl⟩
  · rw [if_neg h1]
    by_cases h2 : b < a
    · rw [if_pos h2]
      go_enter Try.func66, Try.ntmps66
      go_wp2_with fail
      go_ret
      exact ⟨rfl, rfl⟩
    · rw [if_neg h2]
      go_enter Try.func66, Try.ntmps66
      go_wp2_with fail
      go_ret
      exact ⟨rfl, rfl⟩
theorem asserted (k v : Int) (w : World) : (Instr.typeAssert (ent k v) 71 73 false).run Try.prog w = .ok (.agg #[.int .i64 k, .int .i64 v]) w := by
  simp [Instr.typeAssert, run_underlying Try.underlying73, Result.andThen]
theorem fieldE (k v : Int) (w : World) : (Instr.field 73 (.agg #[.int .i64 k, .int .i64 v]) 0).run Try.prog w = .ok (.agg #[.int .i64 k, .int .i64 v]) w := by kernel_rfl
theorem fieldK (k v : Int) (w : World) : (Instr.field 38 (.agg #[.int .i64 k, .int .i64 v]) 0).run Try.prog w = .ok (.int .i64 k) w := by kernel_rfl
/-- said of Compare -/
def CmpP (k x : Int) (w : World) (e : Ending) (w' : World) : Prop := e = .returned (.int .i64 (sgn k x)) ∧ Same w w'
set_option maxRecDepth 100000 in
theorem compareC (k v x u : Int) (w : World) : Calls Try.prog 65 #[.agg #[.int .i64 k, .int .i64 v], ent x u] w (CmpP k x w) := by
  have O := orderC
  go_enter Try.func65, Try.ntmps65
  go_wp2_with (first | (go_at_call 66; refine (O _ _ _).mono ?_; rintro e w' ⟨rfl, rfl⟩) | fail)
  obtain ⟨w1, hw1⟩ : ∃ w1, w.alloc (.cells #[.int .i64 k, .int .i64 v] 73) = w1 := ⟨_, rfl⟩
  have HS : Hid (Same w w1) := Lib.hid (hw1 ▸ (Only.refl _ w).alloc _)
  have hb := heap_alloc_new' w (.cells #[.int .i64 k, .int .i64 v] 73) _ rfl
  rw [hw1] at hb ⊢
  clear hw1
  have c0 : w1.cell? ⟨w.heap.size, 0, none⟩ = some (.int .i64 k) := block_cell hb rfl
  clear hb
  have a1 := fun n => asserted x u (World.drewN w1 n)
  have a2 := fun n => fieldE x u (World.drewN w1 n)
  have a3 := fun n => fieldK x u (World.drewN w1 n)
  go_quiet ((go_at_call 66; exact Calls.quiet_of_same (O _ _ _)))
  go_wp2_with fail
  go_ret
  exact ⟨rfl, HS.out.drewN _⟩
theorem methodE (k v : Int) (w : World) : (method 216 73 (.agg #[.int .i64 k, .int .i64 v]) "Compare").run Try.prog w = .ok (65, .agg #[.int .i64 k, .int .i64 v]) w := by kernel_rfl
theorem nilE (k v : Int) (w : World) : (nilAhead 216 73 (.agg #[.int .i64 k, .int .i64 v]) "Compare").run Try.prog w = .ok (some false) w := by kernel_rfl
/-- what lies under a key -/
def Tre.look : Tre → Int → Option Int
  | .nil, _ => none
  | .nd p b l k v r, x => if k < x then r.look x else if x < k then l.look x else some v
theorem look_mem {x u : Int} : ∀ {t : Tre}, t.Ord → (t.look x = some u ↔ (x, u) ∈ t.toL)
  | .nil, _ => by simp [Tre.look, Tre.toL]
  | .nd p b l k v r, h => by
    have h' : (l.toL ++ (k, v) :: r.toL).Pairwise fun a b => a.1 < b.1 := h
    obtain ⟨h1, h2, h3⟩ := List.pairwise_append.1 h'
    obtain ⟨h4, h5⟩ := List.pairwise_cons.1 h2
    have hl : ∀ y ∈ l.toL, y.1 < k := fun y hy => h3 y hy (k, v) (List.mem_cons_self ..)
    have e : (x, u) ∈ (Tre.nd p b l k v r).toL ↔ (x, u) ∈ l.toL ∨ (x = k ∧ u = v) ∨ (x, u) ∈ r.toL := by
      show (x, u) ∈ l.toL ++ (k, v) :: r.toL ↔ _
      rw [List.mem_append, List.mem_cons, Prod.mk.injEq]
    rw [e]
    unfold Tre.look
    split
    · rename_i hk
      rw [look_mem h5]
      constructor
      · exact fun h => .inr (.inr h)
      · rintro (h | ⟨h, _⟩ | h)
        · have : x < k := hl _ h
          omega
        · omega
        · exact h
    · split
      · rename_i hk1 hk
        rw [look_mem h1]
        constructor
        · exact fun h => .inl h
        · rintro (h | ⟨h, _⟩ | h)
          · exact h
          · omega
          · have : k < x := h4 _ h
            omega
      · rename_i hk1 hk
        have ek : x = k := by omega
        constructor
        · intro h
          exact .inr (.inl ⟨ek, (Option.some.inj h).symm⟩)
        · rintro (h | ⟨_, h⟩ | h)
          · have : x < k := hl _ h
            omega
          · rw [h]
          · have : k < x := h4 _ h
            omega
def found (x : Int) : Option Int → Value
  | some y => ent x y
  | none => .nilIface
/-- a tree's object -/
def Im (w : World) (g : Nat) (T : Tre) : Prop := ∃ (d : Int) (c0 c1 : Option Addr), w.heap[g]? = some (.cells #[.pointer (ad T.ptr), .int .u64 (T.size : Int), .int .i8 d, .pointer c0, .pointer c1, .nilIface] 82 (0, 0)) ∧ InM w T ∧ ¬ T.blk g
set_option maxRecDepth 100000 in
theorem getC {w : World} {g : Nat} {T : Tre} (h : Im w g T) (x u : Int) : Calls Try.prog 31 #[.pointer (at0 g), ent x u] w (SayP (found x (T.look x)) w) := by
  obtain ⟨d, q0, q1, hb, hm, _⟩ := h
  have c0 : w.cell? ⟨g, 0, none⟩ = some (.pointer (ad T.ptr)) := block_cell hb rfl
  clear hb
  have HM := Lib.hid hm
  clear hm
  go_enter Try.func31, Try.ntmps31
  go_wp2_with fail
  go_loopg [5] T.size (fun kx nv wr => ∃ (t : Tre) (q : Option Addr), nv = .pointer q ∧ t.size ≤ kx ∧ Hid (q = ad t.ptr ∧ Same w wr ∧ InM wr t ∧ t.look x = T.look x))
  case atStart => exact ⟨T, _, rfl, Nat.le_refl _, Lib.hid ⟨rfl, Only.refl _ _, HM.out, rfl⟩⟩
  case round =>
    obtain ⟨t, q, rfl, hk, HI⟩ := hrel
    cases t with
    | nil =>
      obtain rfl : q = none := HI.out.1
      go_wp2_with fail
      go_ret
      refine ⟨?_, HI.out.2.1⟩
      rw [← HI.out.2.2.2]
      rfl
    | nd p b l k v r =>
      obtain rfl : q = at0 p := HI.out.1
      have hsz : l.size + r.size + 1 ≤ gk := hk
      clear hk
      obtain ⟨hN, hL, hR, _⟩ := HI.out.2.2.1
      have e0 := hN.en
      have HC := Lib.hid (fun wx => compareC k v x u wx)
      have m1 := methodE k v
      have q1 := nilE k v
      have HK : Hid (∀ wx, Same wr wx → Nd wx p b (ad l.ptr) (ad r.ptr) k v ∧ InM wx l ∧ InM wx r ∧ Same w wx) := Lib.hid (fun wx hx => ⟨hN.still hx, hL.keep hx (fun _ _ f => f), hR.keep hx (fun _ _ f => f), HI.out.2.1.trans hx⟩)
      have HLK : Hid ((if k < x then r.look x else if x < k then l.look x else some v) = T.look x) := Lib.hid HI.out.2.2.2
      clear hN hL hR HI c0
      rcases Int.lt_trichotomy k x with hkx | hkx | hkx
      · have hs : sgn k x = -1 := if_pos hkx
        have HL2 : Hid (r.look x = T.look x) := Lib.hid (by have := HLK.out; rw [if_pos hkx] at this; exact this)
        unfold CmpP at HC
        simp only [hs] at HC
        clear HLK hs hkx
        go_wp2_with (first | (go_at_call 65; refine (HC.out _).mono ?_; rintro e wc ⟨rfl, hsc⟩; have HK2 := Lib.hid (HK.out wc hsc); have d0 := HK2.out.1.en; have d1 := HK2.out.1.lc; have d2 := HK2.out.1.rc; clear hsc) | fail)
        go_roundg r.size
        case measure => omega
        case rel => exact ⟨r, _, rfl, Nat.le_refl _, Lib.hid ⟨rfl, HK2.out.2.2.2, HK2.out.2.2.1, HL2.out⟩⟩
      · have hs : sgn k x = 0 := by unfold sgn; rw [if_neg (by omega), if_neg (by omega)]
        have HL2 : Hid (found x (T.look x) = ent k v) := Lib.hid (by rw [← HLK.out, if_neg (by omega), if_neg (by omega), hkx]; rfl)
        unfold CmpP at HC
        simp only [hs] at HC
        clear HLK hs hkx
        go_wp2_with (first | (go_at_call 65; refine (HC.out _).mono ?_; rintro e wc ⟨rfl, hsc⟩; have HK2 := Lib.hid (HK.out wc hsc); have d0 := HK2.out.1.en; have d1 := HK2.out.1.lc; have d2 := HK2.out.1.rc; clear hsc) | fail)
        go_ret
        exact ⟨by rw [HL2.out]; rfl, HK2.out.2.2.2⟩
      · have hs : sgn k x = 1 := by unfold sgn; rw [if_neg (by omega), if_pos hkx]
        have HL2 : Hid (l.look x = T.look x) := Lib.hid (by have := HLK.out; rw [if_neg (by omega), if_pos hkx] at this; exact this)
        unfold CmpP at HC
        simp only [hs] at HC
        clear HLK hs hkx
        go_wp2_with (first | (go_at_call 65; refine (HC.out _).mono ?_; rintro e wc ⟨rfl, hsc⟩; have HK2 := Lib.hid (HK.out wc hsc); have d0 := HK2.out.1.en; have d1 := HK2.out.1.lc; have d2 := HK2.out.1.rc; clear hsc) | fail)
        go_roundg l.size
        case measure => omega
        case rel => exact ⟨l, _, rfl, Nat.le_refl _, Lib.hid ⟨rfl, HK2.out.2.2.2, HK2.out.2.1, HL2.out⟩⟩
end Go.Proofs.Ytdamanckgmkbiaa.av
