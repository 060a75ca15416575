/-
  A y-fast trie in memory; Get, Len.
-/
import Derived.Test.YtcjifjfcjimefaaDoorZYEnts
import Derived.Test.YtcjifjfcjimefaaDoorZXfImpl
namespace Go.Proofs.YtcjifjfcjimefaaDoor.yf
open Go.RowKit Go.Proofs.YtcjifjfcjimefaaDoor.base Go.Proofs.YtcjifjfcjimefaaDoor.heap Go.Proofs.YtcjifjfcjimefaaDoor.rows
open Go.Proofs.YtcjifjfcjimefaaDoor.xf hiding Own Tr Tr.keep Tr.still insertC getC lenC insertsC newC PutP Gone
set_option linter.unusedVariables false

/-- a bucket: its wrapper and its row; D: its blocks -/
def Bkt (w : World) (K b : Nat) (E : List It) (D : Nat → Prop) : Prop :=
  ∃ a c, w.heap[b]? = some (.cells #[.int .u64 (K : Int), .slice a E.length c] 125 (0, 0)) ∧ OL 73 entv w a E.length c E ∧ (∀ k, k = b ∨ At a k → D k) ∧ ¬ At a b
theorem Bkt.keep {w w' : World} {K b : Nat} {E : List It} {D T : Nat → Prop} (h : Bkt w K b E D) (ho : Only T w w') (hn : ∀ k, D k → ¬ T k) : Bkt w' K b E D := by
  obtain ⟨a, c, h1, h2, h3, h4⟩ := h
  exact ⟨a, c, ho.obj h1 (hn b (h3 b (.inl rfl))), h2.keep ho (fun k hk => hn k (h3 k (.inr hk))), h3, h4⟩
/-- a trie: its x-fast trie tb with the buckets B; D: the buckets' blocks -/
structure Yb (w : World) (yb m : Nat) (L : List It) (tb : Nat) (xO : Nat → Prop) (B : List It) (D : Nat → Nat → Prop) : Prop where
  x : xf.Tr w tb xO B m
  obj : w.heap[yb]? = some (.cells #[.int .u64 (L.length : Int), op (some tb), .int .u8 (m : Int)] 97 (0, 0))
  asc : Asc L
  rng : ∀ y ∈ L, y.1 < 2 ^ m
  bks : ∀ z ∈ B, Bkt w z.1 z.2.toNat (inB m z.1 L) (D z.1)
  has : ∀ y ∈ L, ∃ v, (bk m y.1, v) ∈ B
  d1 : ∀ K k, D K k → ¬ xO k ∧ k ≠ yb ∧ 2 ≤ k ∧ k < w.heap.size
  d2 : ∀ K K' k, D K k → D K' k → K = K'
  y1 : ¬ xO yb ∧ 2 ≤ yb
  bits : Bits m
  cnt : B.length ≤ L.length
/-- a trie with the entries L; O: its blocks -/
def Tr (w : World) (yb : Nat) (O : Nat → Prop) (L : List It) (m : Nat) : Prop := ∃ tb xO B D, Yb w yb m L tb xO B D ∧ (∀ k, xO k ∨ k = yb ∨ (∃ K, D K k) → O k) ∧ ∀ k, O k → 2 ≤ k ∧ k < w.heap.size
theorem Yb.keep {w w' : World} {yb m tb : Nat} {L B : List It} {xO T : Nat → Prop} {D : Nat → Nat → Prop} (h : Yb w yb m L tb xO B D) (ho : Only T w w') (hn : ∀ k, xO k ∨ k = yb ∨ (∃ K, D K k) → ¬ T k) : Yb w' yb m L tb xO B D :=
  ⟨h.x.keep ho (fun k hk => hn k (.inl hk)) (fun z hz b hb => hn b (.inr (.inr ⟨z.1, by
      obtain ⟨a, c, h1, h2, h3, h4⟩ := h.bks z hz
      exact h3 b (.inl hb)⟩))), ho.obj h.obj (hn yb (.inr (.inl rfl))), h.asc, h.rng, fun z hz => (h.bks z hz).keep ho (fun k hk => hn k (.inr (.inr ⟨_, hk⟩))), h.has, fun K k hk => ⟨(h.d1 K k hk).1, (h.d1 K k hk).2.1, (h.d1 K k hk).2.2.1, Nat.lt_of_lt_of_le (h.d1 K k hk).2.2.2 ho.size⟩, h.d2, h.y1, h.bits, h.cnt⟩
theorem Tr.keep {w w' : World} {yb m : Nat} {L : List It} {O T : Nat → Prop} (h : Tr w yb O L m) (ho : Only T w w') (hn : ∀ k, O k → ¬ T k) : Tr w' yb O L m := by
  obtain ⟨tb, xO, B, D, h1, h2, h3⟩ := h
  exact ⟨tb, xO, B, D, h1.keep ho (fun k hk => hn k (h2 k hk)), h2, fun k hk => ⟨(h3 k hk).1, Nat.lt_of_lt_of_le (h3 k hk).2 ho.size⟩⟩
theorem Tr.still {w w' : World} {yb m : Nat} {L : List It} {O : Nat → Prop} (h : Tr w yb O L m) (ho : Same w w') : Tr w' yb O L m := h.keep ho (fun _ _ h => h)
theorem Tr.lt {w : World} {yb m : Nat} {L : List It} {O : Nat → Prop} (h : Tr w yb O L m) {k : Nat} (hk : O k) : 2 ≤ k ∧ k < w.heap.size := by
  obtain ⟨tb, xO, B, D, h1, h2, h3⟩ := h
  exact h3 k hk
set_option maxRecDepth 100000 in
set_option maxHeartbeats 1600000 in
theorem bucketOf (w : World) (yb m k : Nat) (N : Value) (T : Value) (hm : Bits m) (hk : k < 2 ^ m) (h : w.heap[yb]? = some (.cells #[N, T, .int .u8 (m : Int)] 97 (0, 0))) : Calls Tryd.prog 57 #[pb yb, .int .u64 (k : Int)] w (SayP (.int .u64 ((bk m k : Nat) : Int)) w) := by
  have c2 : w.cell? ⟨yb, 2, none⟩ = some (.int .u8 (m : Int)) := block_cell h rfl
  have lb := lt_of_heap h
  clear h
  show Calls Tryd.prog 57 #[.pointer (some ⟨yb, 0, none⟩), .int .u64 (k : Int)] w _
  rcases hm with rfl | rfl | rfl | rfl
  · have hq : (k : Int).tdiv 8 = ((k / 8 : Nat) : Int) := rfl
    obtain ⟨q, hqq⟩ : ∃ q, k / 8 = q := ⟨_, rfl⟩
    rw [hqq] at hq
    have HB : Hid (bk 8 k = (q + 1) * 8 - 1) := Lib.hid (by unfold bk; rw [hqq])
    have hk' : k < 256 := by simpa using hk
    have hq2 : q < 32 := by omega
    clear hqq hk hk'
    go_enter Tryd.func57, Tryd.ntmps57
    go_wp2_with fail
    go_ret
    exact ⟨by rw [HB.out, show (((q + 1) * 8 - 1 : Nat) : Int) = 8 * ((q : Int) + 1) - 1 by omega]; rfl, Only.refl _ _⟩
  · have hq : (k : Int).tdiv 16 = ((k / 16 : Nat) : Int) := rfl
    obtain ⟨q, hqq⟩ : ∃ q, k / 16 = q := ⟨_, rfl⟩
    rw [hqq] at hq
    have HB : Hid (bk 16 k = (q + 1) * 16 - 1) := Lib.hid (by unfold bk; rw [hqq])
    have hk' : k < 65536 := by simpa using hk
    have hq2 : q < 4096 := by omega
    clear hqq hk hk'
    go_enter Tryd.func57, Tryd.ntmps57
    go_wp2_with fail
    go_ret
    exact ⟨by rw [HB.out, show (((q + 1) * 16 - 1 : Nat) : Int) = 16 * ((q : Int) + 1) - 1 by omega]; rfl, Only.refl _ _⟩
  · have hq : (k : Int).tdiv 32 = ((k / 32 : Nat) : Int) := rfl
    obtain ⟨q, hqq⟩ : ∃ q, k / 32 = q := ⟨_, rfl⟩
    rw [hqq] at hq
    have HB : Hid (bk 32 k = (q + 1) * 32 - 1) := Lib.hid (by unfold bk; rw [hqq])
    have hk' : k < 4294967296 := by simpa using hk
    have hq2 : q < 134217728 := by omega
    clear hqq hk hk'
    go_enter Tryd.func57, Tryd.ntmps57
    go_wp2_with fail
    go_ret
    exact ⟨by rw [HB.out, show (((q + 1) * 32 - 1 : Nat) : Int) = 32 * ((q : Int) + 1) - 1 by omega]; rfl, Only.refl _ _⟩
  · have hq : (k : Int).tdiv 64 = ((k / 64 : Nat) : Int) := rfl
    obtain ⟨q, hqq⟩ : ∃ q, k / 64 = q := ⟨_, rfl⟩
    rw [hqq] at hq
    have HB : Hid (bk 64 k = (q + 1) * 64 - 1) := Lib.hid (by unfold bk; rw [hqq])
    have hk' : k < 18446744073709551616 := by simpa using hk
    have hq2 : q < 288230376151711744 := by omega
    clear hqq hk hk'
    by_cases hqm : q = 288230376151711743
    · subst hqm
      go_enter Tryd.func57, Tryd.ntmps57
      go_wp2_with fail
      go_ret
      exact ⟨by rw [HB.out]; rfl, Only.refl _ _⟩
    · have hq3 : q < 288230376151711743 := by omega
      clear hqm
      go_enter Tryd.func57, Tryd.ntmps57
      go_wp2_with fail
      go_ret
      exact ⟨by rw [HB.out, show (((q + 1) * 64 - 1 : Nat) : Int) = 64 * ((q : Int) + 1) - 1 by omega]; rfl, Only.refl _ _⟩
set_option maxRecDepth 100000 in
theorem lenC (w : World) (yb : Nat) (O : Nat → Prop) (L : List It) (m : Nat) (h : Tr w yb O L m) : Calls Tryd.prog 28 #[op (some yb)] w (SayP (.int .u64 (L.length : Int)) w) := by
  obtain ⟨tb, xO, B, D, h1, _⟩ := h
  have t2 : w.cell? ⟨yb, 0, none⟩ = some (.int .u64 (L.length : Int)) := block_cell h1.obj rfl
  have lt := lt_of_heap h1.obj
  clear h1
  show Calls Tryd.prog 28 #[pb yb] w _
  go_enter Tryd.func28, Tryd.ntmps28
  go_wp2_with fail
  go_ret
  exact ⟨rfl, Only.refl _ _⟩
theorem Yb.finds {w : World} {yb m tb : Nat} {L B : List It} {xO : Nat → Prop} {D : Nat → Nat → Prop} (h : Yb w yb m L tb xO B D) (x : Nat) : fnd L x = match xf.fnd B (bk m x) with | some z => xf.fnd (inB m z.1 L) x | none => none := by
  cases hf : xf.fnd B (bk m x) with
  | some z =>
    have h1 : z.1 = bk m x := by have := List.find?_some hf; simpa using this
    show fnd L x = fnd (inB m z.1 L) x
    rw [h1, inB_fnd]
  | none =>
    show fnd L x = none
    refine List.find?_eq_none.2 (fun y hy e => ?_)
    obtain ⟨v, hv⟩ := h.has y hy
    have e' : y.1 = x := by simpa using e
    rw [e'] at hv
    have := List.find?_eq_none.1 hf _ hv
    simp at this
theorem assertW (b : Nat) (w : World) : (Instr.typeAssert (.iface 126 (.pointer (some ⟨b, 0, none⟩))) 85 126 false).run Tryd.prog w = .ok (.pointer (some ⟨b, 0, none⟩)) w := by
  simp [Instr.typeAssert, run_underlying Tryd.underlying126, Result.andThen]
set_option maxRecDepth 100000 in
set_option maxHeartbeats 1600000 in
theorem getD (w : World) (yb : Nat) (O : Nat → Prop) (L : List It) (m x : Nat) (h : Tr w yb O L m) (hx : x < 2 ^ m) : Calls Tryd.prog 46 #[op (some yb), .int .u64 (x : Int)] w (SayP (ansE (fnd L x)) w) := by
  obtain ⟨tb, xO, B, D, h1, _⟩ := h
  have HBK := Lib.hid (bucketOf w yb m x _ _ h1.bits hx h1.obj)
  have HG : Hid (∀ wx, Same w wx → Calls Tryd.prog 34 #[pb tb, .int .u64 ((bk m x : Nat) : Int)] wx (SayP (ans (xf.fnd B (bk m x))) wx)) := Lib.hid (fun wx hx' => xf.getC wx tb xO B m (bk m x) (h1.x.still hx') (bk_lt h1.bits hx))
  have HF := Lib.hid (h1.finds x)
  have HY := Lib.hid h1.obj
  have HB := Lib.hid h1
  clear h1
  show Calls Tryd.prog 46 #[pb yb, .int .u64 (x : Int)] w _
  go_enter Tryd.func46, Tryd.ntmps46
  go_wp2_with fail
  refine HBK.out.mono ?_
  rintro e w1 ⟨rfl, hs1⟩
  have HS1 := Lib.hid hs1
  have t1 : w1.cell? ⟨yb, 1, none⟩ = some (pb tb) := block_cell (hs1.obj HY.out id) rfl
  have l1 := lt_of_heap (hs1.obj HY.out id)
  clear hs1 HBK
  go_wp2_with fail
  refine (HG.out w1 HS1.out).mono ?_
  rintro e w2 ⟨rfl, hs2⟩
  have HS2 := Lib.hid (HS1.out.trans hs2)
  clear hs2 HG t1 l1
  cases hf : xf.fnd B (bk m x) with
  | none =>
    have HF2 : Hid (fnd L x = none) := Lib.hid (by rw [HF.out, hf])
    rw [show ans none = Value.nilIface from rfl]
    clear hf
    go_wp2_with fail
    go_ret
    exact ⟨by rw [HF2.out]; rfl, HS2.out⟩
  | some z =>
    have HZM : Hid (z ∈ B) := Lib.hid (List.mem_of_find?_eq_some hf)
    obtain ⟨a, c, g1, g2, g3, g4⟩ := HB.out.bks z HZM.out
    obtain ⟨E, hE⟩ : ∃ E, inB m z.1 L = E := ⟨_, rfl⟩
    rw [hE] at g1 g2
    have HF2 : Hid (fnd L x = fnd E x) := Lib.hid (by rw [HF.out, hf]; show fnd (inB m z.1 L) x = _; rw [hE])
    obtain ⟨b, hb⟩ : ∃ b, z.2.toNat = b := ⟨_, rfl⟩
    rw [hb] at g1
    have hE2 : E.length ≤ 1000 := by
      have h1 := inB_few (m := m) (K := z.1) (by have := HB.out.bits; unfold Bits at this; omega) L HB.out.asc
      have := HB.out.bits
      rw [hE] at h1
      unfold Bits at this
      omega
    have HGE := Lib.hid (getE (g2.rl.still HS2.out) (by rw [← hE]; exact inB_asc HB.out.asc) x (by omega))
    have c1 : w2.cell? ⟨b, 1, none⟩ = some (.slice a E.length c) := block_cell (HS2.out.obj g1 id) rfl
    have lb := lt_of_heap (HS2.out.obj g1 id)
    have ha := assertW b
    rw [show ans (some z) = Value.iface 126 (.pointer (some ⟨z.2.toNat, 0, none⟩)) from rfl, hb]
    clear hf hb hE g1 g2 g3 g4
    go_wp2_with fail
    refine HGE.out.mono ?_
    rintro e w4 ⟨rfl, hs4⟩
    have HS4 := Lib.hid (HS2.out.trans hs4)
    clear hs4 HGE c1 lb
    cases hf : fnd E x with
    | none =>
      have HF3 : Hid (fnd L x = none) := Lib.hid (by rw [HF2.out, hf])
      rw [show ansE none = Value.nilIface from rfl]
      clear hf
      go_wp2_with fail
      go_ret
      exact ⟨by rw [HF3.out]; rfl, HS4.out⟩
    | some y =>
      have HF3 : Hid (fnd L x = some y) := Lib.hid (by rw [HF2.out, hf])
      rw [show ansE (some y) = Value.iface 66 (.agg #[.int .u64 (y.1 : Int), .int .i64 y.2]) from rfl]
      clear hf
      go_wp2_with fail
      go_ret
      exact ⟨by rw [HF3.out]; rfl, HS4.out⟩
set_option maxRecDepth 100000 in
set_option maxHeartbeats 1600000 in
theorem getC (w : World) (yb : Nat) (O : Nat → Prop) (L : List It) (m x : Nat) (h : Tr w yb O L m) (hx : x < 2 ^ m) : Calls Tryd.prog 26 #[op (some yb), .int .u64 (x : Int)] w (SayP (ansE (fnd L x)) w) := by
  have HG := Lib.hid (getD w yb O L m x h hx)
  clear h
  show Calls Tryd.prog 26 #[pb yb, .int .u64 (x : Int)] w _
  go_enter Tryd.func26, Tryd.ntmps26
  go_wp2_with fail
  refine HG.out.mono ?_
  rintro e w4 ⟨rfl, hs4⟩
  have HS4 := Lib.hid hs4
  clear hs4 HG
  cases hf : fnd L x with
  | none =>
    rw [show ansE none = Value.nilIface from rfl]
    have HF3 := Lib.hid hf
    clear hf
    go_wp2_with fail
    go_ret
    exact ⟨by rw [HF3.out]; rfl, HS4.out⟩
  | some y =>
    rw [show ansE (some y) = Value.iface 66 (.agg #[.int .u64 (y.1 : Int), .int .i64 y.2]) from rfl]
    have HF3 := Lib.hid hf
    clear hf
    go_wp2_with fail
    go_ret
    exact ⟨by rw [HF3.out]; rfl, HS4.out⟩
end Go.Proofs.YtcjifjfcjimefaaDoor.yf
