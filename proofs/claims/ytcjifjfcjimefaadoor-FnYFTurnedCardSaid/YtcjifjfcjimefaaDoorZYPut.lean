/-
  insert of a y-fast trie.
-/
import Derived.Test.YtcjifjfcjimefaaDoorZYObj
namespace Go.Proofs.YtcjifjfcjimefaaDoor.yf
open Go.RowKit Go.Proofs.YtcjifjfcjimefaaDoor.base Go.Proofs.YtcjifjfcjimefaaDoor.heap Go.Proofs.YtcjifjfcjimefaaDoor.rows
open Go.Proofs.YtcjifjfcjimefaaDoor.xf hiding Own Tr Tr.keep Tr.still insertC getC lenC insertsC newC PutP Gone
set_option linter.unusedVariables false

/-- an entry comes into a bucket -/
theorem Yb.into {w w3 w4 w5 : World} {yb m tb x : Nat} {v u : Int} {L B : List It} {xO : Nat → Prop} {D : Nat → Nat → Prop} {a a' : Option Addr} {c' : Nat} (h : Yb w yb m L tb xO B D) (hz : (bk m x, u) ∈ B) (hs : Same w w3)
    (haD : ∀ k, k = u.toNat ∨ At a k → D (bk m x) k) (ha : ¬ At a u.toNat) (hx : x < 2 ^ m)
    (hb : w4.heap[u.toNat]? = some (.cells #[.int .u64 ((bk m x : Nat) : Int), .slice a' (inB m (bk m x) (put L x v)).length c'] 125 (0, 0))) (hr : OL 73 entv w4 a' (inB m (bk m x) (put L x v)).length c' (inB m (bk m x) (put L x v)))
    (ho : Only (fun k => k = u.toNat ∨ At a k) w3 w4) (hf : ∀ k, At a' k → At a k ∨ w3.heap.size ≤ k) (h5 : Only (fun k => k = yb) w4 w5)
    (ho5 : w5.heap[yb]? = some (.cells #[.int .u64 ((put L x v).length : Int), op (some tb), .int .u8 (m : Int)] 97 (0, 0))) :
    ∃ D', Yb w5 yb m (put L x v) tb xO B D' ∧ ∀ K k, D' K k → D K k ∨ w.heap.size ≤ k := by
  have z1 := hs.size
  have z2 := ho.size
  have z3 := h5.size
  have hTD : ∀ k, k = u.toNat ∨ At a k → D (bk m x) k := haD
  have hlr : ∀ k, At a' k → k < w4.heap.size := hr.1.lt
  have h03 : Only (fun k => k = u.toNat ∨ At a k) w w4 := (hs.mono (fun _ _ f => f.elim)).trans ho (fun _ _ h => h)
  have hub : ¬ At a' u.toNat := fun e => by
    rcases hf _ e with h' | h'
    · exact ha h'
    · have := (h.d1 _ _ (haD _ (.inl rfl))).2.2.2; omega
  have hyb := lt_of_heap h.obj
  have hya : ¬ At a' yb := fun e => by
    rcases hf _ e with h' | h'
    · exact (h.d1 _ _ (haD _ (.inr h'))).2.1 rfl
    · omega
  have hyu : u.toNat ≠ yb := (h.d1 _ _ (haD _ (.inl rfl))).2.1
  refine ⟨fun K k => D K k ∨ (K = bk m x ∧ w.heap.size ≤ k ∧ k < w5.heap.size), ⟨?_, ho5, put_asc h.asc x v, fun y hy => ?_, fun z hzB => ?_, fun y hy => ?_, fun K k hk => ?_, fun K K' k hk hk' => ?_, h.y1, h.bits, Nat.le_trans h.cnt (by rw [inB_len h.asc x v]; split <;> omega)⟩, fun K k hk => hk.imp id (fun h => h.2.1)⟩
  · have hok : ∀ z ∈ B, okK w5 z.1 z.2 := fun z hzB => by
      obtain ⟨a0, c0, g1, g2, g3, g4⟩ := h.bks z hzB
      have hzy : z.2.toNat ≠ yb := (h.d1 _ _ (g3 _ (.inl rfl))).2.1
      show w5.cell? ⟨z.2.toNat, 0, none⟩ = some (.int .u64 (z.1 : Int))
      by_cases e : z.1 = bk m x
      · have hzz : z = (bk m x, u) := by
          obtain ⟨S, lb, root, md, mn, mx, e1, e2, e3, e4, e5⟩ := h.x
          obtain ⟨p, q⟩ := z
          have e' : p = bk m x := e
          subst e'
          have f1 := ((e3 _ _).1 hzB).2
          have f2 := ((e3 _ _).1 hz).2
          rw [← f1, ← f2]
        subst hzz
        exact block_cell (h5.obj hb (fun e => hyu e)) rfl
      · have hne : ∀ k, k = z.2.toNat ∨ At a0 k → ¬ (k = u.toNat ∨ At a k) := fun k hk hk' => e (h.d2 _ _ k (g3 k hk) (hTD k hk'))
        exact block_cell (h5.obj (h03.obj g1 (hne _ (.inl rfl))) (fun e => hzy e)) rfl
    have hx4 : Only (fun k => (k = u.toNat ∨ At a k) ∨ k = yb) w w5 := (h03.mono (fun _ _ h => .inl h)).trans h5 (fun _ _ h => .inr h)
    refine xf.Tr.keep2 h.x hx4 (fun k hk e => ?_) hok
    rcases e with e | e
    · exact (h.d1 _ _ (hTD k e)).1 hk
    · subst e; exact h.y1.1 hk
  · rcases (put_mem h.asc x v y).1 hy with rfl | ⟨_, hy⟩
    · exact hx
    · exact h.rng y hy
  · by_cases e : z.1 = bk m x
    · have hzz : z = (bk m x, u) := by
        obtain ⟨S, lb, root, md, mn, mx, e1, e2, e3, e4, e5⟩ := h.x
        obtain ⟨p, q⟩ := z
        have e' : p = bk m x := e
        subst e'
        have f1 := ((e3 _ _).1 hzB).2
        have f2 := ((e3 _ _).1 hz).2
        rw [← f1, ← f2]
      subst hzz
      refine ⟨a', c', h5.obj hb (fun e => hyu e), hr.keep h5 (fun k hk e => hya (by have e' : k = yb := e; rw [← e']; exact hk)), fun k hk => ?_, hub⟩
      rcases hk with hk | hk
      · exact .inl (haD k (.inl hk))
      · rcases hf k hk with h' | h'
        · exact .inl (haD k (.inr h'))
        · exact .inr ⟨rfl, by omega, by have := hlr k hk; omega⟩
    · have hB := h.bks z hzB
      rw [← inB_other L x v (K := z.1) (fun e' => e e')] at hB
      obtain ⟨a0, c0, g1, g2, g3, g4⟩ := hB
      have hne : ∀ k, k = z.2.toNat ∨ At a0 k → ¬ (k = u.toNat ∨ At a k) := fun k hk hk' => e (h.d2 _ _ k (g3 k hk) (hTD k hk'))
      have hny : ∀ k, k = z.2.toNat ∨ At a0 k → k ≠ yb := fun k hk => (h.d1 _ _ (g3 k hk)).2.1
      exact ⟨a0, c0, h5.obj (h03.obj g1 (hne _ (.inl rfl))) (hny _ (.inl rfl)), (g2.keep h03 (fun k hk => hne k (.inr hk))).keep h5 (fun k hk => hny k (.inr hk)), fun k hk => .inl (g3 k hk), g4⟩
  · rcases (put_mem h.asc x v y).1 hy with rfl | ⟨_, hy⟩
    · exact ⟨u, hz⟩
    · exact h.has y hy
  · rcases hk with hk | ⟨rfl, h1, h2⟩
    · obtain ⟨g1, g2, g3, g4⟩ := h.d1 K k hk
      exact ⟨g1, g2, g3, by omega⟩
    · refine ⟨fun e => ?_, fun e => by omega, by have := h.y1.2; omega, h2⟩
      have := (xf.Tr.lt2 h.x e).2; omega
  · have hlt : ∀ K k, D K k → k < w.heap.size := fun K k hk => (h.d1 K k hk).2.2.2
    rcases hk with hk | ⟨rfl, h1, h2⟩ <;> rcases hk' with hk' | ⟨rfl, h3, h4⟩
    · exact h.d2 K K' k hk hk'
    · have := hlt _ _ hk; omega
    · have := hlt _ _ hk'; omega
    · rfl
/-- a bucket comes in -/
theorem Yb.more {w w8 w9 : World} {yb m tb x wb : Nat} {v : Int} {L B : List It} {xO xO' : Nat → Prop} {D : Nat → Nat → Prop} {a' : Option Addr} {c' : Nat} (h : Yb w yb m L tb xO B D) (hf : xf.fnd B (bk m x) = none) (hx : x < 2 ^ m)
    (h8 : Only (fun k => k = yb) w w8) (hy8 : w8.heap[yb]? = some (.cells #[.int .u64 ((L.length + 1 : Nat) : Int), op (some tb), .int .u8 (m : Int)] 97 (0, 0)))
    (hb : w8.heap[wb]? = some (.cells #[.int .u64 ((bk m x : Nat) : Int), .slice a' 1 c'] 125 (0, 0))) (hr : OL 73 entv w8 a' 1 c' [(x, v)]) (hwb : w.heap.size ≤ wb) (ha' : ∀ k, At a' k → w.heap.size ≤ k) (hab : ¬ At a' wb)
    (hX : xf.Tr w9 tb xO' (put B (bk m x) (wb : Int)) m) (h9 : Only xO w8 w9) (hxO : ∀ k, xO' k → xO k ∨ w8.heap.size ≤ k) :
    ∃ D', Yb w9 yb m (put L x v) tb xO' (put B (bk m x) (wb : Int)) D' ∧ (∀ K k, D' K k → D K k ∨ w.heap.size ≤ k) := by
  have z1 := h8.size
  have z2 := h9.size
  have hlr : ∀ k, At a' k → k < w8.heap.size := hr.1.lt
  have hlb := lt_of_heap hb
  have hyb := lt_of_heap h.obj
  have hBa : Asc B := by
    obtain ⟨S, lb, root, md, mn, mx, e1, e2, e3, e4, e5⟩ := h.x
    exact e4
  have hfL : fnd L x = none := by rw [h.finds, hf]
  have hnb : ∀ z ∈ B, z.1 ≠ bk m x := fun z hz e => by
    have := List.find?_eq_none.1 hf z hz
    simp at this
    exact this e
  have hE : inB m (bk m x) L = [] := by
    cases hh : inB m (bk m x) L with
    | nil => rfl
    | cons y r =>
      have hy : y ∈ inB m (bk m x) L := by rw [hh]; exact List.mem_cons_self ..
      obtain ⟨q1, q2⟩ := List.mem_filter.1 hy
      obtain ⟨u, hu⟩ := h.has y q1
      have q2' : bk m y.1 = bk m x := by simpa using q2
      rw [q2'] at hu
      exact absurd rfl (hnb _ hu)
  have hxl : ∀ k, xO k → k < w.heap.size := fun k hk => (xf.Tr.lt2 h.x hk).2
  refine ⟨fun K k => D K k ∨ (K = bk m x ∧ (k = wb ∨ At a' k)), ⟨hX, ?_, put_asc h.asc x v, fun y hy => ?_, fun z hzB => ?_, fun y hy => ?_, fun K k hk => ?_, fun K K' k hk hk' => ?_, ⟨fun e => ?_, h.y1.2⟩, h.bits, ?_⟩, fun K k hk => ?_⟩
  · have hlen : (put L x v).length = L.length + 1 := by rw [inB_len h.asc x v, hfL]; rfl
    rw [hlen]
    exact h9.obj hy8 h.y1.1
  · rcases (put_mem h.asc x v y).1 hy with rfl | ⟨_, hy⟩
    · exact hx
    · exact h.rng y hy
  · rcases (put_mem hBa (bk m x) (wb : Int) z).1 hzB with rfl | ⟨hne, hz⟩
    · show Bkt w9 (bk m x) wb (inB m (bk m x) (put L x v)) _
      rw [inB_put L x v h.asc, hE]
      refine ⟨a', c', h9.obj hb (fun e => by have := hxl _ e; omega), hr.keep h9 (fun k hk e => by have := hxl _ e; have := ha' k hk; omega), fun k hk => .inr ⟨rfl, hk⟩, hab⟩
    · have hB := h.bks z hz
      rw [← inB_other L x v (K := z.1) hne] at hB
      obtain ⟨a0, c0, g1, g2, g3, g4⟩ := hB
      have hny : ∀ k, k = z.2.toNat ∨ At a0 k → k ≠ yb := fun k hk => (h.d1 _ _ (g3 k hk)).2.1
      have hnx : ∀ k, k = z.2.toNat ∨ At a0 k → ¬ xO k := fun k hk => (h.d1 _ _ (g3 k hk)).1
      exact ⟨a0, c0, h9.obj (h8.obj g1 (hny _ (.inl rfl))) (hnx _ (.inl rfl)), (g2.keep h8 (fun k hk => hny k (.inr hk))).keep h9 (fun k hk => hnx k (.inr hk)), fun k hk => .inl (g3 k hk), g4⟩
  · rcases (put_mem h.asc x v y).1 hy with rfl | ⟨_, hy⟩
    · exact ⟨(wb : Int), (put_mem hBa _ _ _).2 (.inl rfl)⟩
    · obtain ⟨u, hu⟩ := h.has y hy
      exact ⟨u, (put_mem hBa _ _ _).2 (.inr ⟨hnb _ hu, hu⟩)⟩
  · rcases hk with hk | ⟨rfl, hk⟩
    · obtain ⟨g1, g2, g3, g4⟩ := h.d1 K k hk
      refine ⟨fun e => ?_, g2, g3, by omega⟩
      rcases hxO k e with h' | h'
      · exact g1 h'
      · omega
    · have hkw : w.heap.size ≤ k ∧ k < w8.heap.size := by
        rcases hk with rfl | hk
        · exact ⟨hwb, hlb⟩
        · exact ⟨ha' k hk, hlr k hk⟩
      refine ⟨fun e => ?_, by omega, by have := h.y1.2; omega, by omega⟩
      rcases hxO k e with h' | h'
      · have := hxl k h'; omega
      · omega
  · have hlt : ∀ K k, D K k → k < w.heap.size := fun K k hk => (h.d1 K k hk).2.2.2
    have hge : ∀ k, k = wb ∨ At a' k → w.heap.size ≤ k := fun k hk => by
      rcases hk with rfl | hk
      · exact hwb
      · exact ha' k hk
    rcases hk with hk | ⟨rfl, hk⟩ <;> rcases hk' with hk' | ⟨rfl, hk'⟩
    · exact h.d2 K K' k hk hk'
    · have := hlt _ _ hk; have := hge k hk'; omega
    · have := hlt _ _ hk'; have := hge k hk; omega
    · rfl
  · rcases hxO yb e with h' | h'
    · exact h.y1.1 h'
    · omega
  · have h1 := put_le B (bk m x) (wb : Int)
    have h2 := h.cnt
    rw [inB_len h.asc x v, hfL]
    show _ ≤ L.length + 1
    omega
  · rcases hk with hk | ⟨rfl, hk⟩
    · exact .inl hk
    · right
      rcases hk with rfl | hk
      · exact hwb
      · exact ha' k hk
/-- said of an insert -/
def PutP (w : World) (yb : Nat) (O : Nat → Prop) (L : List It) (m x : Nat) (v : Int) (e : Ending) (w' : World) : Prop :=
  e = .returned (ansE (fnd L x)) ∧ ∃ O', Tr w' yb O' (put L x v) m ∧ Only O w w' ∧ ∀ k, O' k → O k ∨ w.heap.size ≤ k
theorem mk8 (m : Nat) (hm : m ≤ 64) (w : World) : (Instr.makeSlice 68 (.int .i64 0) (.int .u8 (m : Int))).run Tryd.prog w = .ok (.slice (some ⟨w.heap.size, 0, none⟩) 0 m) (w.alloc (.cells (madeCells (Value.nilIface).cells (m * 1)) 73)) := by
  obtain ⟨i, hi, h1, h2, h3⟩ := info_parts (show (Tryd.prog.info? 73).map (fun i => (i.zero, i.size, i.bytes)) = some (some .nilIface, 1, 16) by kernel_rfl)
  have h := run_make (P := Tryd.prog) w 68 73 i .nilIface Tryd.underlying68 hi h1 .i64 .u8 0 (m : Int) (by omega) (by omega) (by rw [h3]; omega) (by omega)
  rw [h2, Int.toNat_natCast] at h
  exact h
theorem Bits.le {m : Nat} (h : Bits m) : 8 ≤ m ∧ m ≤ 64 := by unfold Bits at h; omega
set_option maxRecDepth 100000 in
set_option maxHeartbeats 6400000 in
theorem insertC (w : World) (yb : Nat) (O : Nat → Prop) (L : List It) (m x : Nat) (v : Int) (h : Tr w yb O L m) (hT : Tabs w) (hnum : L.length < 100000) (hx : x < 2 ^ m) :
    Calls Tryd.prog 44 #[op (some yb), entv (x, v)] w (PutP w yb O L m x v) := by
  obtain ⟨tb, xO, B, D, h1, h2, h3⟩ := h
  have HBK : Hid (∀ wx, Same w wx → Calls Tryd.prog 57 #[pb yb, .int .u64 (x : Int)] wx (SayP (.int .u64 ((bk m x : Nat) : Int)) wx)) := Lib.hid (fun wx hw => bucketOf wx yb m x _ _ h1.bits hx (hw.obj h1.obj id))
  have HG : Hid (∀ wx, Same w wx → Calls Tryd.prog 34 #[pb tb, .int .u64 ((bk m x : Nat) : Int)] wx (SayP (ans (xf.fnd B (bk m x))) wx)) := Lib.hid (fun wx hx' => xf.getC wx tb xO B m (bk m x) (h1.x.still hx') (bk_lt h1.bits hx))
  have HK : Hid (∀ (k : Nat) (v : Int) (wx : World), Calls Tryd.prog 111 #[.agg #[.int .u64 (k : Int), .int .i64 v]] wx fun en w' => en = .returned (.int .u64 (k : Int)) ∧ Same wx w') := Lib.hid (fun k v wx => entKey k v wx)
  have HF := Lib.hid (h1.finds x)
  have HB := Lib.hid h1
  have HO := Lib.hid (And.intro h2 h3)
  have HT := Lib.hid hT
  have HX := Lib.hid hx
  have m1 := methodE x v
  have q1 := nilE x v
  have hml := Bits.le h1.bits
  have hcnt := h1.cnt
  have HY : Hid (∀ wx, Same w wx → wx.cell? ⟨yb, 0, none⟩ = some (.int .u64 (L.length : Int)) ∧ wx.cell? ⟨yb, 1, none⟩ = some (pb tb) ∧ wx.cell? ⟨yb, 2, none⟩ = some (.int .u8 (m : Int)) ∧ yb < wx.heap.size ∧ ∀ i, wx.frozen? ⟨yb, i, none⟩ = false) := Lib.hid (fun wx hw => by
    have ho := hw.obj h1.obj id
    exact ⟨block_cell ho rfl, block_cell ho rfl, block_cell ho rfl, lt_of_heap ho, fun i => block_free ho⟩)
  clear h1 h2 h3 hT hx
  show Calls Tryd.prog 44 #[pb yb, .iface 66 (.agg #[.int .u64 (x : Int), .int .i64 v])] w _
  go_enter Tryd.func44, Tryd.ntmps44
  go_wp2_with fail
  refine (HK.out _ _ _).mono ?_
  rintro e w1 ⟨rfl, hs1⟩
  have HS1 := Lib.hid hs1
  clear hs1
  go_wp2_with fail
  refine (HBK.out _ HS1.out).mono ?_
  rintro e w2 ⟨rfl, hs2⟩
  have HS2 := Lib.hid (HS1.out.trans hs2)
  obtain ⟨y0, y1, y2, ly, yf⟩ := HY.out w2 HS2.out
  clear hs2 HBK
  go_wp2_with fail
  refine (HG.out _ HS2.out).mono ?_
  rintro e w3 ⟨rfl, hs3⟩
  have HS3 := Lib.hid (HS2.out.trans hs3)
  clear hs3 HG y0 y1 y2 ly yf
  obtain ⟨y0, y1, y2, ly, yf⟩ := HY.out w3 HS3.out
  cases hf : xf.fnd B (bk m x) with
  | none =>
    have HF0 := Lib.hid hf
    have HF2 : Hid (fnd L x = none) := Lib.hid (by rw [HF.out, hf])
    have hmk := mk8 m hml.2
    rw [show ans none = Value.nilIface from rfl]
    clear hf
    go_wp2_with fail
    obtain ⟨g, hg⟩ : ∃ g, w3.heap.size = g := ⟨_, rfl⟩
    obtain ⟨w4, hw4⟩ : ∃ w4, (((w3.setCell ⟨yb, 0, none⟩ (.int .u64 ((L.length : Int) + 1))).alloc (.cells (madeCells #[Value.nilIface] m) 73)).alloc (.cells #[.slice (some ⟨w3.heap.size, 0, none⟩) 0 m] 68)) = w4 := ⟨_, rfl⟩
    have hS34 : Only (fun k => k = yb) w3 w4 := by rw [← hw4]; exact (((Only.refl (fun k => k = yb) w3).setCell ⟨yb, 0, none⟩ _ (fun _ => rfl)).alloc _).alloc _
    have hb4 : w4.heap[g + 1]? = some (.cells #[.slice (some ⟨g, 0, none⟩) 0 m] 68 (0, 0)) := by rw [← hw4, ← hg]; exact heap_alloc_new' _ _ _ (by simp)
    have hr4 : OL 73 entv w4 (some ⟨g, 0, none⟩) 0 m [] := by
      have h0 := Go.Proofs.YtcjifjfcjimefaaDoor.heap.Own.made 73 1 (w3.setCell ⟨yb, 0, none⟩ (.int .u64 ((L.length : Int) + 1))) (madeCells #[Value.nilIface] m) 0 m (Nat.zero_le _) (by unfold maxLen; omega) (by simp [madeCells]) (by simp)
      have h1 := h0.keep (S := fun _ => False) ((Only.refl _ _).alloc (.cells #[.slice (some ⟨w3.heap.size, 0, none⟩) 0 m] 68)) (fun _ _ => id)
      rw [hw4] at h1
      exact ⟨by simpa [hg] using h1, rfl⟩
    have hy4 : w4.heap[yb]? = some (.cells #[.int .u64 ((L.length + 1 : Nat) : Int), op (some tb), .int .u8 (m : Int)] 97 (0, 0)) := by
      have h0 := setCell_heap (HS3.out.obj HB.out.obj id) 0 (.int .u64 ((L.length : Int) + 1))
      have h1 := (((Only.refl (fun _ => False) _).alloc (.cells (madeCells #[Value.nilIface] m) 73)).alloc (.cells #[.slice (some ⟨w3.heap.size, 0, none⟩) 0 m] 68)).obj h0 id
      rw [hw4] at h1
      exact h1
    have hg4 : w4.heap.size = g + 2 := by rw [← hw4, ← hg]; simp
    have HIE := Lib.hid (insertE (E := []) (o := 0) hb4 rfl hr4 List.Pairwise.nil (fun e => by have e' : g = g + 1 := e; omega) (x, v) (Nat.zero_le _))
    have HW4 := Lib.hid (And.intro hS34 (And.intro hy4 (And.intro hg4 hg)))
    rw [hw4, hg]
    clear hw4 hS34 hb4 hr4 hy4 hg4 hg hmk y0 y1 y2 ly yf
    refine HIE.out.mono ?_
    rintro e w5 ⟨a', c', rfl, hb5, hr5, ho5, hf5⟩
    have z5 := ho5.size
    have hyg : yb < g := by have := lt_of_heap HB.out.obj; have := HS3.out.size; have := HW4.out.2.2.2; omega
    have hy5 : w5.heap[yb]? = some (.cells #[.int .u64 ((L.length + 1 : Nat) : Int), op (some tb), .int .u8 (m : Int)] 97 (0, 0)) := ho5.obj HW4.out.2.1 (fun e => by
      rcases e with e | e
      · omega
      · have e' : g = yb := e; omega)
    have d0 : w5.cell? ⟨g + 1, 0, none⟩ = some (.slice a' 1 c') := block_cell hb5 rfl
    have d1 : w5.cell? ⟨yb, 1, none⟩ = some (pb tb) := block_cell hy5 rfl
    have lg := lt_of_heap hb5
    have ly := lt_of_heap hy5
    obtain ⟨w8, hw8⟩ : ∃ w8, ((w5.alloc (.cells #[.int .u64 ((bk m x : Nat) : Int), .slice a' 1 c'] 125)).alloc (.cells #[.iface 126 (.pointer (some ⟨w5.heap.size, 0, none⟩))] 85)) = w8 := ⟨_, rfl⟩
    have hs58 : Same w5 w8 := by rw [← hw8]; exact ((Only.refl _ _).alloc _).alloc _
    have h8 : Only (fun k => k = yb) w w8 := ((HS3.out.mono (fun _ _ f => f.elim)).trans HW4.out.1 (fun _ _ h => h)).trans (ho5.trans (hs58.mono (fun _ _ f => f.elim)) (fun _ _ h => h)) (fun k hk e => by
      have := HS3.out.size
      have := HW4.out.2.2.2
      rcases e with e | e
      · omega
      · have e' : g = k := e; omega)
    have hbw : w8.heap[w5.heap.size]? = some (.cells #[.int .u64 ((bk m x : Nat) : Int), .slice a' 1 c'] 125 (0, 0)) := by rw [← hw8]; exact ((Only.refl (fun _ => False) _).alloc _).obj (heap_alloc_new _ _) id
    have hR8 : RL itv w8 (some ⟨w5.heap.size + 1, 0, none⟩) 1 1 [(bk m x, ((w5.heap.size : Nat) : Int))] := by
      have hb : w8.heap[w5.heap.size + 1]? = some (.cells #[.iface 126 (.pointer (some ⟨w5.heap.size, 0, none⟩))] 85 (0, 0)) := by rw [← hw8]; exact heap_alloc_new' _ _ _ (by simp)
      exact ⟨(Go.Proofs.YtcjifjfcjimefaaDoor.heap.Own.of_block (size := 1) hb 1 1 (Nat.le_refl _) (by unfold maxLen; omega) rfl (fun u hu => by simp at hu; subst hu; rfl)).rd, rfl⟩
    have hx8 : xf.Tr w8 tb xO B m := HB.out.x.keep h8 (fun k hk e => by have e' : k = yb := e; subst e'; exact HB.out.y1.1 hk) (fun z hz b hb e => by
      obtain ⟨a0, c0, g1, g2, g3, g4⟩ := HB.out.bks z hz
      exact (HB.out.d1 _ _ (g3 b (.inl hb))).2.1 e)
    have hxl : ∀ k, xO k → k < w.heap.size := fun k hk => (xf.Tr.lt2 HB.out.x hk).2
    have hw5 : w.heap.size ≤ w5.heap.size := by have := HS3.out.size; have := HW4.out.2.2; omega
    have HIX := Lib.hid (xf.insertsC w8 tb xO B m (some ⟨w5.heap.size + 1, 0, none⟩) 1 1 [(bk m x, ((w5.heap.size : Nat) : Int))] hx8 (HT.out.keep h8 (fun k hk e => by have e' : k = yb := e; have := HB.out.y1.2; omega)) hR8 (fun k hk e => by have e' : w5.heap.size + 1 = k := hk; have := hxl k e; omega) (by simp; omega) (fun y hy => by rw [List.mem_singleton] at hy; subst hy; exact bk_lt HB.out.bits HX.out) (fun y hy => by
      rw [List.mem_singleton] at hy
      subst hy
      exact ⟨block_cell hbw rfl, fun b hb e => by have e' : b = w5.heap.size := hb; have := hxl b e; omega⟩))
    have HMORE : Hid (∀ xO' w9, xf.Tr w9 tb xO' (put B (bk m x) ((w5.heap.size : Nat) : Int)) m → Only xO w8 w9 → (∀ k, xO' k → xO k ∨ w8.heap.size ≤ k) → PutP w yb O L m x v (.returned .nilIface) w9) := Lib.hid (fun xO' w9 q1 q2 q3 => by
      obtain ⟨D', e1, e2⟩ := HB.out.more (v := v) HF0.out HX.out h8 (hs58.obj hy5 id) hbw (hr5.still hs58) hw5 (fun k hk => by
        have := HS3.out.size
        have := HW4.out.2.2
        rcases hf5 k hk with h' | h'
        · have e' : g = k := h'; omega
        · omega) (fun e => by have := hr5.1.lt _ e; omega) q1 q2 q3
      refine ⟨by rw [HF2.out]; rfl, fun k => xO' k ∨ k = yb ∨ ∃ K, D' K k, ⟨tb, xO', _, D', e1, fun k hk => hk, fun k hk => ?_⟩, (h8.mono (fun k _ e => HO.out.1 k (.inr (.inl e)))).trans q2 (fun k _ e => HO.out.1 k (.inl e)), fun k hk => ?_⟩
      · rcases hk with hk | rfl | ⟨K, hk⟩
        · exact xf.Tr.lt2 e1.x hk
        · exact ⟨e1.y1.2, lt_of_heap e1.obj⟩
        · exact (e1.d1 K k hk).2.2
      · rcases hk with hk | rfl | ⟨K, hk⟩
        · rcases q3 k hk with h' | h'
          · exact .inl (HO.out.1 k (.inl h'))
          · have := h8.size; exact .inr (by omega)
        · exact .inl (HO.out.1 k (.inr (.inl rfl)))
        · rcases e2 K k hk with h' | h'
          · exact .inl (HO.out.1 k (.inr (.inr ⟨K, h'⟩)))
          · exact .inr h')
    have HW8 := Lib.hid hw8
    clear hb5 hr5 ho5 hf5 z5 hyg hy5 hw8 hs58 h8 hbw hR8 hx8 hxl hw5 HIE
    rw [show ansE (fnd ([] : List It) (x, v).1) = Value.nilIface from rfl]
    go_wp2_with fail
    rw [HW8.out]
    refine HIX.out.mono ?_
    rintro e w9 ⟨rfl, hG⟩
    obtain ⟨xO', q1, q2, q3⟩ := hG
    have HP := Lib.hid (HMORE.out xO' w9 q1 q2 q3)
    clear q1 q2 q3 HMORE HIX d0 d1 lg ly
    go_wp2_with fail
    go_ret
    exact HP.out
  | some z =>
    have hz1 : z.1 = bk m x := by have := List.find?_some hf; simpa using this
    obtain ⟨K, u⟩ := z
    have hz1' : K = bk m x := hz1
    subst hz1'
    have HZM : Hid ((bk m x, u) ∈ B) := Lib.hid (List.mem_of_find?_eq_some hf)
    obtain ⟨a, c, g1, g2, g3, g4⟩ := HB.out.bks _ HZM.out
    have HG3 := Lib.hid g3
    obtain ⟨b, hb⟩ : ∃ b, u.toNat = b := ⟨_, rfl⟩
    have HBB := Lib.hid hb
    obtain ⟨E, hE⟩ : ∃ E, inB m (bk m x) L = E := ⟨_, rfl⟩
    have HE := Lib.hid hE
    rw [show inB m (bk m x, u).1 L = E from hE] at g1 g2
    rw [show (bk m x, u).2.toNat = b from hb] at g1 g3 g4
    have HF2 : Hid (fnd L x = fnd E x) := Lib.hid (by rw [HF.out, hf]; show fnd (inB m (bk m x) L) x = _; rw [hE])
    have HPE : Hid (inB m (bk m x) (put L x v) = put E x v) := Lib.hid (by rw [inB_put L x v HB.out.asc, hE])
    have hE2 : E.length ≤ 1000 := by
      have h1 := inB_few (m := m) (K := bk m x) (by omega) L HB.out.asc
      rw [hE] at h1
      omega
    have hea : Asc E := by rw [← hE]; exact inB_asc HB.out.asc
    have HG4 := Lib.hid g4
    have HIE := Lib.hid (insertE (o := 1) (HS3.out.obj g1 id) rfl (g2.still HS3.out) hea g4 (x, v) hE2)
    have c1 : w3.cell? ⟨b, 1, none⟩ = some (.slice a E.length c) := block_cell (HS3.out.obj g1 id) rfl
    have lb := lt_of_heap (HS3.out.obj g1 id)
    have hby : b ≠ yb := (HB.out.d1 _ _ (g3 b (.inl rfl))).2.1
    have hay : ¬ At a yb := fun e => (HB.out.d1 _ _ (g3 yb (.inr e))).2.1 rfl
    have ha := assertW b
    rw [show ans (some (bk m x, u)) = Value.iface 126 (.pointer (some ⟨u.toNat, 0, none⟩)) from rfl, hb]
    clear hf hb hE g1 g2 g3 g4 hea hz1 y0 y1 y2 ly yf
    go_wp2_with fail
    refine HIE.out.mono ?_
    rintro e w5 ⟨a', c', rfl, hb5, hr5, ho5, hf5⟩
    have hy5 := ho5.obj (HS3.out.obj HB.out.obj id) (fun e => by
      rcases e with e | e
      · exact hby e.symm
      · exact hay e)
    have hlen : (put L x v).length = if (fnd E x).isSome then L.length else L.length + 1 := by rw [inB_len HB.out.asc x v, HF2.out]
    have HFIN : Hid (∀ w9, Only (fun k => k = yb) w5 w9 → w9.heap[yb]? = some (.cells #[.int .u64 ((put L x v).length : Int), op (some tb), .int .u8 (m : Int)] 97 (0, 0)) → PutP w yb O L m x v (.returned (ansE (fnd E x))) w9) := Lib.hid (fun w9 q1 q2 => by
      have hrw : (put E (x, v).1 (x, v).2).length = (inB m (bk m x) (put L x v)).length := by rw [HPE.out]
      have hb5' : w5.heap[u.toNat]? = some (.cells #[.int .u64 ((bk m x : Nat) : Int), .slice a' (inB m (bk m x) (put L x v)).length c'] 125 (0, 0)) := by rw [HBB.out, ← hrw]; exact hb5
      have hr5' : OL 73 entv w5 a' (inB m (bk m x) (put L x v)).length c' (inB m (bk m x) (put L x v)) := by rw [HPE.out]; exact hr5
      obtain ⟨D', e1, e2⟩ := HB.out.into (v := v) HZM.out HS3.out HG3.out (by rw [HBB.out]; exact HG4.out) HX.out hb5' hr5' (by rw [HBB.out]; exact ho5) hf5 q1 q2
      have hOD : ∀ k, k = b ∨ At a k → O k := fun k hk => HO.out.1 k (.inr (.inr ⟨bk m x, HG3.out k (by rw [HBB.out]; exact hk)⟩))
      refine ⟨by rw [HF2.out], fun k => xO k ∨ k = yb ∨ ∃ K, D' K k, ⟨tb, xO, B, D', e1, fun k hk => hk, fun k hk => ?_⟩, ((HS3.out.mono (fun _ _ f => f.elim)).trans ho5 (fun k _ e => hOD k e)).trans q1 (fun k _ e => HO.out.1 k (.inr (.inl e))), fun k hk => ?_⟩
      · rcases hk with hk | rfl | ⟨K, hk⟩
        · exact xf.Tr.lt2 e1.x hk
        · exact ⟨e1.y1.2, lt_of_heap e1.obj⟩
        · exact (e1.d1 K k hk).2.2
      · rcases hk with hk | rfl | ⟨K, hk⟩
        · exact .inl (HO.out.1 k (.inl hk))
        · exact .inl (HO.out.1 k (.inr (.inl rfl)))
        · rcases e2 K k hk with h' | h'
          · exact .inl (HO.out.1 k (.inr (.inr ⟨K, h'⟩)))
          · exact .inr h')
    have y0 : w5.cell? ⟨yb, 0, none⟩ = some (.int .u64 (L.length : Int)) := block_cell hy5 rfl
    have yf : ∀ i, w5.frozen? ⟨yb, i, none⟩ = false := fun i => block_free hy5
    have ly := lt_of_heap hy5
    have HY5 := Lib.hid hy5
    have HLEN := Lib.hid hlen
    clear hb5 hr5 ho5 hf5 hy5 hlen HIE c1 lb hby hay hE2
    cases hf : fnd E (x, v).1 with
    | none =>
      have hf' : fnd E x = none := hf
      have HP := Lib.hid (HFIN.out (w5.setCell ⟨yb, 0, none⟩ (.int .u64 ((L.length : Int) + 1))) ((Only.refl (fun k => k = yb) w5).setCell ⟨yb, 0, none⟩ _ (fun _ => rfl)) (by
        rw [HLEN.out, hf']
        exact setCell_heap HY5.out 0 _))
      rw [hf'] at HP
      rw [show ansE none = Value.nilIface from rfl]
      clear hf hf' HFIN
      go_wp2_with fail
      go_ret
      exact HP.out
    | some y =>
      have hf' : fnd E x = some y := hf
      have HP := Lib.hid (HFIN.out w5 (Only.refl _ _) (by
        rw [HLEN.out, hf']
        exact HY5.out))
      rw [hf'] at HP
      rw [show ansE (some y) = Value.iface 66 (.agg #[.int .u64 (y.1 : Int), .int .i64 y.2]) from rfl]
      clear hf hf' HFIN
      go_wp2_with fail
      go_ret
      exact HP.out
end Go.Proofs.YtcjifjfcjimefaaDoor.yf
