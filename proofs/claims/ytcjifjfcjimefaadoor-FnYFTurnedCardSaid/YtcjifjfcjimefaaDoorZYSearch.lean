/-
  Entries.search, get.
-/
import Derived.Test.YtcjifjfcjimefaaDoorZYPlain
import Derived.Deep.RegionLaw
namespace Go.Proofs.YtcjifjfcjimefaaDoor.xf
open Go.RowKit Go.Proofs.YtcjifjfcjimefaaDoor.base Go.Proofs.YtcjifjfcjimefaaDoor.heap Go.Proofs.YtcjifjfcjimefaaDoor.rows
set_option linter.unusedVariables false

/-- an entry of a bucket -/
def entv (y : It) : Value := .iface 66 (.agg #[.int .u64 (y.1 : Int), .int .i64 y.2])
set_option maxRecDepth 100000 in
theorem entKey (k : Nat) (v : Int) (w : World) : Calls Tryd.prog 111 #[.agg #[.int .u64 (k : Int), .int .i64 v]] w fun en w' => en = .returned (.int .u64 (k : Int)) ∧ Same w w' := by
  go_enter Tryd.func111, Tryd.ntmps111
  go_wp2_with fail
  go_ret
  exact ⟨rfl, (Only.refl _ _).alloc _⟩
theorem methodE (k : Nat) (v : Int) (w : World) : (method 288 66 (.agg #[.int .u64 (k : Int), .int .i64 v]) "Key").run Tryd.prog w = .ok (111, .agg #[.int .u64 (k : Int), .int .i64 v]) w := by kernel_rfl
theorem nilE (k : Nat) (v : Int) (w : World) : (nilAhead 288 66 (.agg #[.int .u64 (k : Int), .int .i64 v]) "Key").run Tryd.prog w = .ok (some false) w := by kernel_rfl
theorem pos_below : ∀ {L : List It} {k j : Nat} {y : It}, j < pos L k → L[j]? = some y → y.1 < k
  | [], k, j, y, h, hy => by simp at hy
  | z :: r, k, j, y, h, hy => by
    unfold pos at h
    split at h
    · rename_i hz
      cases j with
      | zero => simp at hy; subst hy; exact hz
      | succ j => exact @pos_below r k j y (by omega) (by simpa using hy)
    · omega
section
variable {w : World} {a : Option Addr} {n cap : Nat} {l : List It}
set_option maxRecDepth 100000 in
set_option maxHeartbeats 1600000 in
theorem searchQ (h : RL entv w a n cap l) (x : Nat) (bu bx : Nat) (hu : w.cell? ⟨bu, 0, none⟩ = some (.slice a n cap)) (hx : w.cell? ⟨bx, 0, none⟩ = some (.int .u64 (x : Int))) (i : Nat) (y : It) (hy : l[i]? = some y) :
    Calls Tryd.prog 88 #[.int .i64 (i : Int), .pointer (some ⟨bu, 0, none⟩), .pointer (some ⟨bx, 0, none⟩)] w fun e w' => e = .returned (.bool (decide (x ≤ y.1))) ∧ Same w w' := by
  have hi := (List.getElem?_eq_some_iff.1 hy).1
  rw [h.2] at hi
  have hi' : (i : Int) < (n : Int) := by omega
  have hi0 : (0 : Int) ≤ (i : Int) := by omega
  obtain ⟨b, off, ha, hb, hc⟩ := h.at (by omega)
  have c0 : w.cell? ⟨b, off + i, none⟩ = some (.iface 66 (.agg #[.int .u64 (y.1 : Int), .int .i64 y.2])) := hc i y hy
  subst ha
  have m1 := methodE y.1 y.2
  have q1 := nilE y.1 y.2
  have HK : Hid (∀ wx, Calls Tryd.prog 111 #[.agg #[.int .u64 (y.1 : Int), .int .i64 y.2]] wx fun en w' => en = .returned (.int .u64 (y.1 : Int)) ∧ Same wx w') := Lib.hid (fun wx => entKey y.1 y.2 wx)
  have hbx : bx < w.heap.size := World.block_lt_of_cell? w _ hx
  have HX : Hid (∀ wx, Same w wx → wx.cell? ⟨bx, 0, none⟩ = some (.int .u64 (x : Int)) ∧ bx < wx.heap.size) := Lib.hid (fun wx hs => ⟨(hs.cell (p := ⟨bx, 0, none⟩) hbx id).trans hx, Nat.lt_of_lt_of_le hbx hs.size⟩)
  clear h hc hy
  go_enter Tryd.func88, Tryd.ntmps88
  go_wp2_with fail
  go_region_law (first
    | ((with_reducible show (ite _ (Oper.wp _ _ _ (World.drew w) _ _) _)); (go_simp); go_at_call 111; refine (HK.out _).mono ?_; rintro e wk ⟨rfl, hsk⟩; have HSK : Hid (Same w wk) := Lib.hid ((Only.refl (fun _ => False) w).drew.trans hsk (fun _ _ h => h)); obtain ⟨xk, lk⟩ := HX.out wk HSK.out; clear hsk)
    | fail)
  all_goals
    go_wp2_with fail
    go_ret
    exact ⟨rfl, HSK.out⟩
theorem asc_get {L : List It} (h : Asc L) {i j : Nat} {y z : It} (hij : i < j) (hy : L[i]? = some y) (hz : L[j]? = some z) : y.1 < z.1 := by
  obtain ⟨h1, h2⟩ := List.getElem?_eq_some_iff.1 hy
  obtain ⟨h3, h4⟩ := List.getElem?_eq_some_iff.1 hz
  have := List.pairwise_iff_getElem.1 h i j h1 h3 hij
  rw [h2, h4] at this
  exact this
set_option maxRecDepth 100000 in
set_option maxHeartbeats 1600000 in
theorem sortSearch (h : RL entv w a n cap l) (hs : Asc l) (x : Nat) (hn : n ≤ 1000000) (bu bx : Nat) (hu : w.cell? ⟨bu, 0, none⟩ = some (.slice a n cap)) (hx : w.cell? ⟨bx, 0, none⟩ = some (.int .u64 (x : Int))) :
    Calls Tryd.prog 87 #[.int .i64 (n : Int), .func (Fn.func 88) #[] #[.pointer (some ⟨bu, 0, none⟩), .pointer (some ⟨bx, 0, none⟩)]] w (fun e w' => e = .returned (.int .i64 ((pos l x : Nat) : Int)) ∧ Same w w') := by
  have lu : bu < w.heap.size := World.block_lt_of_cell? w _ hu
  have lx : bx < w.heap.size := World.block_lt_of_cell? w _ hx
  have HQ : Hid (∀ (wx : World) (i : Nat) (y : It), Same w wx → l[i]? = some y → Calls Tryd.prog 88 #[.int .i64 (i : Int), .pointer (some ⟨bu, 0, none⟩), .pointer (some ⟨bx, 0, none⟩)] wx fun e w' => e = .returned (.bool (decide (x ≤ y.1))) ∧ Same wx w') :=
    Lib.hid (fun wx i y hw hy => searchQ (h.still hw) x bu bx ((hw.cell (p := ⟨bu, 0, none⟩) lu id).trans hu) ((hw.cell (p := ⟨bx, 0, none⟩) lx id).trans hx) i y hy)
  have HL := Lib.hid h.2
  have HS := Lib.hid hs
  clear h hu hx hs lu lx
  go_enter Tryd.func87, Tryd.ntmps87
  go_wp2_with fail
  go_loopw [5, 6] (fun i j wr => ∃ lo hi : Nat, lo ≤ hi ∧ hi ≤ n ∧ i = .int .i64 (lo : Int) ∧ j = .int .i64 (hi : Int) ∧ Hid (Same w wr ∧ (∀ t y, t < lo → l[t]? = some y → y.1 < x) ∧ ∀ t y, hi ≤ t → l[t]? = some y → x ≤ y.1)) (fun i j _ => (intOf j - intOf i).toNat)
  case atStart => exact ⟨0, n, Nat.zero_le _, Nat.le_refl _, rfl, rfl, Lib.hid ⟨Only.refl _ _, fun t y ht => absurd ht (by omega), fun t y ht hy => by have := (List.getElem?_eq_some_iff.1 hy).1; have := HL.out; omega⟩⟩
  case round =>
    obtain ⟨lo, hi, hlh, hhn, rfl, rfl, HO⟩ := hrel
    have HSW := Lib.hid HO.out.1
    have HO2 := Lib.hid HO.out.2
    clear HO
    by_cases hlt : lo < hi
    · obtain ⟨k, HK⟩ : ∃ k, Hid (k = (lo + hi) / 2) := ⟨_, Lib.hid rfl⟩
      have hk1 : lo ≤ k ∧ k < hi := by have := HK.out; omega
      obtain ⟨y, hy⟩ : ∃ y, l[k]? = some y := ⟨l[k]'(by have := HL.out; omega), List.getElem?_eq_getElem _⟩
      have HQQ := Lib.hid (HQ.out wr k y HSW.out hy)
      have HY := Lib.hid hy
      have hkd : ((lo : Int) + (hi : Int)) / 2 = (k : Int) := by have := HK.out; omega
      have hlt' : (lo : Int) < (hi : Int) := by omega
      clear hy
      by_cases hxy : x ≤ y.1
      · have HO3 : Hid ((∀ t y, t < lo → l[t]? = some y → y.1 < x) ∧ ∀ t y, k ≤ t → l[t]? = some y → x ≤ y.1) := Lib.hid ⟨HO2.out.1, fun t z ht hz => by
          rcases Nat.lt_or_eq_of_le ht with h1 | h1
          · have := asc_get HS.out h1 HY.out hz; omega
          · subst h1; rw [HY.out] at hz; cases hz; exact hxy⟩
        have hd : decide (x ≤ y.1) = true := by simp [hxy]
        rw [hd] at HQQ
        clear hd hxy
        go_wp2_with (go_at_call 88; refine HQQ.out.mono ?_)
        rintro e w2 ⟨rfl, hs2⟩
        have HS2 := Lib.hid (HSW.out.trans hs2)
        clear hs2
        go_wp2_with fail
        go_roundw
        case rel => exact ⟨lo, k, by omega, by omega, rfl, rfl, Lib.hid ⟨HS2.out, HO3.out⟩⟩
        case measure => simp [intOf]; omega
      · have HO3 : Hid ((∀ t y, t < k + 1 → l[t]? = some y → y.1 < x) ∧ ∀ t y, hi ≤ t → l[t]? = some y → x ≤ y.1) := Lib.hid ⟨fun t z ht hz => by
          rcases Nat.lt_or_eq_of_le (Nat.lt_succ_iff.1 ht) with h1 | h1
          · have := asc_get HS.out h1 hz HY.out; omega
          · subst h1; rw [HY.out] at hz; cases hz; omega, HO2.out.2⟩
        have hd : decide (x ≤ y.1) = false := by simp [hxy]
        rw [hd] at HQQ
        clear hd hxy
        go_wp2_with (go_at_call 88; refine HQQ.out.mono ?_)
        rintro e w2 ⟨rfl, hs2⟩
        have HS2 := Lib.hid (HSW.out.trans hs2)
        clear hs2
        go_wp2_with fail
        go_roundw
        case rel => exact ⟨k + 1, hi, by omega, by omega, by go_num, rfl, Lib.hid ⟨HS2.out, HO3.out⟩⟩
        case measure => simp [intOf]; omega
    · obtain rfl : lo = hi := by omega
      have hlt' : ¬ (lo : Int) < (lo : Int) := by omega
      have HE : Hid (pos l x = lo) := Lib.hid (pos_eq l x lo (by have := HL.out; omega) (fun t y h1 h2 => HO2.out.1 t y h1 h2) (fun y hy => by have := HO2.out.2 lo y (Nat.le_refl _) hy; omega))
      go_wp2_with fail
      go_ret
      exact ⟨by rw [HE.out]; rfl, HSW.out⟩
set_option maxRecDepth 100000 in
set_option maxHeartbeats 1600000 in
/-- the place of a key -/
theorem searchE (h : RL entv w a n cap l) (hs : Asc l) (x : Nat) (hn : n ≤ 1000000) : Calls Tryd.prog 77 #[.slice a n cap, .int .u64 (x : Int)] w (SayP (.int .i64 ((pos l x : Nat) : Int)) w) := by
  have hS : Same w ((w.alloc (.cells #[.slice a n cap] 68)).alloc (.cells #[.int .u64 (x : Int)] 25)) := ((Only.refl _ _).alloc _).alloc _
  have HC := Lib.hid (sortSearch (h.still hS) hs x hn w.heap.size (w.heap.size + 1) (block_cell (((Only.refl (fun _ => False) _).alloc _).obj (heap_alloc_new w _) id) rfl) (block_cell (heap_alloc_new' _ _ _ (by simp)) rfl))
  have HS := Lib.hid hS
  obtain ⟨k, hk⟩ : ∃ k, pos l x = k := ⟨_, rfl⟩
  have hkn : k ≤ n := by rw [← hk, ← h.2]; exact pos_le l x
  rw [hk] at HC ⊢
  have hbd := h.bound
  clear h hs hS hk
  go_enter Tryd.func77, Tryd.ntmps77
  go_wp2_with (go_at_call 87; refine HC.out.mono ?_)
  rintro e w1 ⟨rfl, hs1⟩
  have HS1 := Lib.hid (HS.out.trans hs1)
  clear hs1
  go_wp2_with fail
  go_ret
  exact ⟨rfl, HS1.out⟩
/-- an answer: an entry or nil -/
def ansE : Option It → Value
  | none => .nilIface
  | some y => entv y
set_option maxRecDepth 100000 in
set_option maxHeartbeats 1600000 in
theorem getE (h : RL entv w a n cap l) (hs : Asc l) (x : Nat) (hn : n ≤ 1000000) : Calls Tryd.prog 60 #[.slice a n cap, .int .u64 (x : Int)] w (SayP (ansE (fnd l x)) w) := by
  have HSE := Lib.hid (searchE h hs x hn)
  have hf := fnd_has hs x
  obtain ⟨j, hj⟩ : ∃ j, pos l x = j := ⟨_, rfl⟩
  have hjn : j ≤ n := by rw [← hj, ← h.2]; exact pos_le l x
  have hbd := h.bound
  rw [hj] at HSE hf
  by_cases hlt : j = n
  · have HF : Hid (fnd l x = none) := Lib.hid (by
      rw [hf]
      unfold has
      rw [hj, List.getElem?_eq_none (by rw [h.2]; omega)]
      rfl)
    subst hlt
    clear h hs hf hj
    go_enter Tryd.func60, Tryd.ntmps60
    go_wp2_with (go_at_call 77; refine HSE.out.mono ?_)
    rintro e w1 ⟨rfl, hs1⟩
    have HS1 := Lib.hid hs1
    clear hs1 HSE
    go_wp2_with fail
    go_ret
    exact ⟨by rw [HF.out]; rfl, HS1.out⟩
  · obtain ⟨y, hy⟩ := h.get (by omega : j < n)
    have hne : ((j : Int) == (n : Int)) = false := by simp; omega
    have hj' : (j : Int) < (n : Int) := by omega
    obtain ⟨b, off, ha, hb, hc⟩ := h.at (by omega)
    have c0 : w.cell? ⟨b, off + j, none⟩ = some (.iface 66 (.agg #[.int .u64 (y.1 : Int), .int .i64 y.2])) := hc j y hy
    have HC := Lib.hid (And.intro hb c0)
    have m1 := methodE y.1 y.2
    have q1 := nilE y.1 y.2
    have HK : Hid (∀ wx, Calls Tryd.prog 111 #[.agg #[.int .u64 (y.1 : Int), .int .i64 y.2]] wx fun en w' => en = .returned (.int .u64 (y.1 : Int)) ∧ Same wx w') := Lib.hid (fun wx => entKey y.1 y.2 wx)
    have HF : Hid (fnd l x = if y.1 = x then some y else none) := Lib.hid (by
      rw [hf]
      unfold has
      rw [hj, hy]
      by_cases e : y.1 = x
      · simp [e]
      · simp [e])
    subst ha
    clear h hs hf hj hc hy c0 hb
    go_enter Tryd.func60, Tryd.ntmps60
    go_wp2_with (go_at_call 77; refine HSE.out.mono ?_)
    rintro e w1 ⟨rfl, hs1⟩
    have HS1 := Lib.hid hs1
    have c1 : w1.cell? ⟨b, off + j, none⟩ = some (.iface 66 (.agg #[.int .u64 (y.1 : Int), .int .i64 y.2])) := (hs1.cell (p := ⟨b, off + j, none⟩) HC.out.1 id).trans HC.out.2
    have hb1 : b < w1.heap.size := Nat.lt_of_lt_of_le HC.out.1 hs1.size
    clear hs1 HSE
    go_wp2_with fail
    refine (HK.out _).mono ?_
    rintro e w2 ⟨rfl, hs2⟩
    have HS2 := Lib.hid (HS1.out.trans hs2)
    have c2 : w2.cell? ⟨b, off + j, none⟩ = some (.iface 66 (.agg #[.int .u64 (y.1 : Int), .int .i64 y.2])) := (hs2.cell (p := ⟨b, off + j, none⟩) hb1 id).trans c1
    have hb2 : b < w2.heap.size := Nat.lt_of_lt_of_le hb1 hs2.size
    clear hs2 c1 hb1
    by_cases e : y.1 = x
    · have e1 : ((y.1 : Int) == (x : Int)) = true := by simp [e]
      have HF2 : Hid (fnd l x = some y) := Lib.hid (by rw [HF.out, if_pos e])
      clear e
      go_wp2_with fail
      go_ret
      exact ⟨by rw [HF2.out]; rfl, HS2.out⟩
    · have e1 : ((y.1 : Int) == (x : Int)) = false := by simp; omega
      have HF2 : Hid (fnd l x = none) := Lib.hid (by rw [HF.out, if_neg e])
      clear e
      go_wp2_with fail
      go_ret
      exact ⟨by rw [HF2.out]; rfl, HS2.out⟩
end
end Go.Proofs.YtcjifjfcjimefaaDoor.xf
