/-
  What the proofs of this claim share, part 5 of 8: small laws and walks of the functions that it reaches.
-/
import Derived.Test.YtacjkbljokjdkaaGreatMD
namespace Go.Proofs.YtacjkbljokjdkaaGreat.ba
open Go.RowKit Go.Proofs.YtacjkbljokjdkaaGreat.base Go.Proofs.YtacjkbljokjdkaaGreat.heap Go.Proofs.YtacjkbljokjdkaaGreat.rows Go.Proofs.YtacjkbljokjdkaaGreat.bit Go.Proofs.YtacjkbljokjdkaaGreat.bs
set_option linter.unusedVariables false

theorem Arr.val {w : World} {v : Value} {d : BA} {F : Nat → Prop} (h : Arr w v d F) : ∃ t u, v = .iface t u := by
  cases h <;> exact ⟨_, _, rfl⟩
/-- a new array is handed back -/
def NewA (d : BA) (w : World) (e : Ending) (w' : World) : Prop :=
  ∃ t u F, e = .returned (.iface t u) ∧ Arr w' (.iface t u) d F ∧ Same w w' ∧ ∀ k, F k → w.heap.size ≤ k
/-- a further array stands behind the others -/
def MoreP (q : Nat) (a : Option Addr) (l : List It) (d : BA) (v : Value) (w : World) (e : Ending) (w' : World) : Prop :=
  e = .returned v ∧ ∃ a' c' y, y.d = d ∧ Sta w' q a' c' (l ++ [y]) ∧ Only (fun k => k = q ∨ At a k) w w' ∧ (∀ k, At a' k → At a k ∨ w.heap.size ≤ k) ∧ ∀ k, y.F k → w.heap.size ≤ k
section
variable {w : World} {q c : Nat} {a : Option Addr} {l : List It}
/-- a new array is kept -/
theorem madeN (h : Sta w q a c l) (hl : l.length ≤ 1000000) {d : BA} {t : TypeId} {u : Value} {F : Nat → Prop} {w1 w2 : World} (hs : Same w w1) (hA : Arr w2 (.iface t u) d F) (hs2 : Same w1 w2) (hF : ∀ k, F k → w1.heap.size ≤ k) :
    Calls Tryz.prog 31 #[.pointer (some ⟨q, 0, none⟩), .iface t u] w2 (MoreP q a l d (.tuple #[]) w) := by
  have hs3 := Same.trans hs hs2
  refine (madeA (h.still hs3) hl ⟨.iface t u, d, F⟩ t u rfl hA (fun k hk hF' => ?_)).mono ?_
  · have h1 := h.lt k hk
    have h2 := hF k hF'
    have h3 := hs.size
    omega
  · rintro e w' ⟨rfl, a', c', hst, ho, hfr⟩
    refine ⟨rfl, a', c', ⟨.iface t u, d, F⟩, rfl, hst, (hs3.mono (fun _ _ f => f.elim)).trans ho (fun _ _ h => h), fun k hk => ?_, fun k hk => Nat.le_trans hs.size (hF k hk)⟩
    exact (hfr k hk).imp id (fun h => Nat.le_trans hs3.size h)
set_option maxRecDepth 100000 in
set_option maxHeartbeats 1600000 in
theorem twoOr (h : Sta w q a c l) (hl : l.length ≤ 1000000) (i j p : Nat) (r : Nat) (d d' : BA) (F : Nat → Prop) (y : It) (hy : l[j]? = some y)
    (HC : Hid (∀ wx, Same w wx → Calls Tryz.prog 66 #[.pointer (some ⟨p, 0, none⟩), y.v] wx (NewA d' wx))) :
    Calls Tryz.prog 35 #[.pointer (some ⟨q, 0, none⟩), stv { op := 11, on := i, by_ := j }, .iface 80 (.pointer (some ⟨p, 0, none⟩)), .pointer (some ⟨r, 0, none⟩)] w (MoreP q a l d' (.tuple #[]) w) := by
  obtain ⟨t, u, hv⟩ : ∃ t u, y.v = .iface t u := (h.get hy).val
  rw [hv] at HC
  have HAT : Hid (∀ wx, Same w wx → Calls Tryz.prog 34 #[.pointer (some ⟨q, 0, none⟩), .int .i64 (j : Int)] wx (FV wx (.iface t u))) := Lib.hid (fun wx hS => by
    have := atA (h.still hS) j _ hy
    rw [hv] at this
    exact this)
  have hmth : ∀ wx, (method 250 80 (.pointer (some ⟨p, 0, none⟩)) "Or").run Tryz.prog wx = .ok (66, .pointer (some ⟨p, 0, none⟩)) wx := by intro wx; kernel_rfl
  have H := Lib.hid h
  clear h hy hv
  unfold stv
  simp only
  go_enter Tryz.func35, Tryz.ntmps35
  go_wp2_with (go_at_call 34; refine (HAT.out _ ((Only.refl _ _).alloc _)).mono ?_)
  rintro e w1 ⟨rfl, hS1⟩
  have n1 := hS1.obj (heap_alloc_new w (.cells #[.int .i64 11, .int .i64 (i : Int), .int .i64 (j : Int), .int .u64 0, .int .i64 0, .bool false] 40)) id
  have HS1 : Hid (Same w w1) := Lib.hid (Same.trans ((Only.refl _ _).alloc _) hS1)
  obtain ⟨s, hs⟩ : ∃ s, w.heap.size = s := ⟨_, rfl⟩
  rw [hs] at n1
  rw [hs]
  have c0 : w1.cell? ⟨s, 0, none⟩ = some (.int .i64 11) := block_cell n1 rfl
  clear hS1 n1 HAT
  go_wp2_with (go_at_call 66; refine (HC.out _ HS1.out).mono ?_)
  rintro e w2 ⟨t2, u2, F2, rfl, hA, hS2, hF2⟩
  have HM := Lib.hid (madeN H.out hl HS1.out hA hS2 hF2)
  clear hA hS2 hF2
  go_wp2_with (go_at_call 31; refine HM.out.mono ?_)
  rintro e w3 ⟨rfl, h3⟩
  have H3 := Lib.hid h3
  clear h3
  go_wp2_with fail
  go_end0
  exact ⟨rfl, H3.out⟩
set_option maxRecDepth 100000 in
set_option maxHeartbeats 1600000 in
theorem twoOrS (h : Sta w q a c l) (hl : l.length ≤ 1000000) (i j p : Nat) (r : Nat) (d d' : BA) (F : Nat → Prop) (y : It) (hy : l[j]? = some y)
    (HC : Hid (∀ wx, Same w wx → Calls Tryz.prog 109 #[.pointer (some ⟨p, 0, none⟩), y.v] wx (NewA d' wx))) :
    Calls Tryz.prog 35 #[.pointer (some ⟨q, 0, none⟩), stv { op := 11, on := i, by_ := j }, .iface 82 (.pointer (some ⟨p, 0, none⟩)), .pointer (some ⟨r, 0, none⟩)] w (MoreP q a l d' (.tuple #[]) w) := by
  obtain ⟨t, u, hv⟩ : ∃ t u, y.v = .iface t u := (h.get hy).val
  rw [hv] at HC
  have HAT : Hid (∀ wx, Same w wx → Calls Tryz.prog 34 #[.pointer (some ⟨q, 0, none⟩), .int .i64 (j : Int)] wx (FV wx (.iface t u))) := Lib.hid (fun wx hS => by
    have := atA (h.still hS) j _ hy
    rw [hv] at this
    exact this)
  have hmth : ∀ wx, (method 250 82 (.pointer (some ⟨p, 0, none⟩)) "Or").run Tryz.prog wx = .ok (109, .pointer (some ⟨p, 0, none⟩)) wx := by intro wx; kernel_rfl
  have H := Lib.hid h
  clear h hy hv
  unfold stv
  simp only
  go_enter Tryz.func35, Tryz.ntmps35
  go_wp2_with (go_at_call 34; refine (HAT.out _ ((Only.refl _ _).alloc _)).mono ?_)
  rintro e w1 ⟨rfl, hS1⟩
  have n1 := hS1.obj (heap_alloc_new w (.cells #[.int .i64 11, .int .i64 (i : Int), .int .i64 (j : Int), .int .u64 0, .int .i64 0, .bool false] 40)) id
  have HS1 : Hid (Same w w1) := Lib.hid (Same.trans ((Only.refl _ _).alloc _) hS1)
  obtain ⟨s, hs⟩ : ∃ s, w.heap.size = s := ⟨_, rfl⟩
  rw [hs] at n1
  rw [hs]
  have c0 : w1.cell? ⟨s, 0, none⟩ = some (.int .i64 11) := block_cell n1 rfl
  clear hS1 n1 HAT
  go_wp2_with (go_at_call 109; refine (HC.out _ HS1.out).mono ?_)
  rintro e w2 ⟨t2, u2, F2, rfl, hA, hS2, hF2⟩
  have HM := Lib.hid (madeN H.out hl HS1.out hA hS2 hF2)
  clear hA hS2 hF2
  go_wp2_with (go_at_call 31; refine HM.out.mono ?_)
  rintro e w3 ⟨rfl, h3⟩
  have H3 := Lib.hid h3
  clear h3
  go_wp2_with fail
  go_end0
  exact ⟨rfl, H3.out⟩
set_option maxRecDepth 100000 in
set_option maxHeartbeats 1600000 in
theorem twoAnd (h : Sta w q a c l) (hl : l.length ≤ 1000000) (i j p : Nat) (r : Nat) (d d' : BA) (F : Nat → Prop) (y : It) (hy : l[j]? = some y)
    (HC : Hid (∀ wx, Same w wx → Calls Tryz.prog 55 #[.pointer (some ⟨p, 0, none⟩), y.v] wx (NewA d' wx))) :
    Calls Tryz.prog 35 #[.pointer (some ⟨q, 0, none⟩), stv { op := 12, on := i, by_ := j }, .iface 80 (.pointer (some ⟨p, 0, none⟩)), .pointer (some ⟨r, 0, none⟩)] w (MoreP q a l d' (.tuple #[]) w) := by
  obtain ⟨t, u, hv⟩ : ∃ t u, y.v = .iface t u := (h.get hy).val
  rw [hv] at HC
  have HAT : Hid (∀ wx, Same w wx → Calls Tryz.prog 34 #[.pointer (some ⟨q, 0, none⟩), .int .i64 (j : Int)] wx (FV wx (.iface t u))) := Lib.hid (fun wx hS => by
    have := atA (h.still hS) j _ hy
    rw [hv] at this
    exact this)
  have hmth : ∀ wx, (method 250 80 (.pointer (some ⟨p, 0, none⟩)) "And").run Tryz.prog wx = .ok (55, .pointer (some ⟨p, 0, none⟩)) wx := by intro wx; kernel_rfl
  have H := Lib.hid h
  clear h hy hv
  unfold stv
  simp only
  go_enter Tryz.func35, Tryz.ntmps35
  go_wp2_with (go_at_call 34; refine (HAT.out _ ((Only.refl _ _).alloc _)).mono ?_)
  rintro e w1 ⟨rfl, hS1⟩
  have n1 := hS1.obj (heap_alloc_new w (.cells #[.int .i64 12, .int .i64 (i : Int), .int .i64 (j : Int), .int .u64 0, .int .i64 0, .bool false] 40)) id
  have HS1 : Hid (Same w w1) := Lib.hid (Same.trans ((Only.refl _ _).alloc _) hS1)
  obtain ⟨s, hs⟩ : ∃ s, w.heap.size = s := ⟨_, rfl⟩
  rw [hs] at n1
  rw [hs]
  have c0 : w1.cell? ⟨s, 0, none⟩ = some (.int .i64 12) := block_cell n1 rfl
  clear hS1 n1 HAT
  go_wp2_with (go_at_call 55; refine (HC.out _ HS1.out).mono ?_)
  rintro e w2 ⟨t2, u2, F2, rfl, hA, hS2, hF2⟩
  have HM := Lib.hid (madeN H.out hl HS1.out hA hS2 hF2)
  clear hA hS2 hF2
  go_wp2_with (go_at_call 31; refine HM.out.mono ?_)
  rintro e w3 ⟨rfl, h3⟩
  have H3 := Lib.hid h3
  clear h3
  go_wp2_with fail
  go_end0
  exact ⟨rfl, H3.out⟩
set_option maxRecDepth 100000 in
set_option maxHeartbeats 1600000 in
theorem twoAndS (h : Sta w q a c l) (hl : l.length ≤ 1000000) (i j p : Nat) (r : Nat) (d d' : BA) (F : Nat → Prop) (y : It) (hy : l[j]? = some y)
    (HC : Hid (∀ wx, Same w wx → Calls Tryz.prog 99 #[.pointer (some ⟨p, 0, none⟩), y.v] wx (NewA d' wx))) :
    Calls Tryz.prog 35 #[.pointer (some ⟨q, 0, none⟩), stv { op := 12, on := i, by_ := j }, .iface 82 (.pointer (some ⟨p, 0, none⟩)), .pointer (some ⟨r, 0, none⟩)] w (MoreP q a l d' (.tuple #[]) w) := by
  obtain ⟨t, u, hv⟩ : ∃ t u, y.v = .iface t u := (h.get hy).val
  rw [hv] at HC
  have HAT : Hid (∀ wx, Same w wx → Calls Tryz.prog 34 #[.pointer (some ⟨q, 0, none⟩), .int .i64 (j : Int)] wx (FV wx (.iface t u))) := Lib.hid (fun wx hS => by
    have := atA (h.still hS) j _ hy
    rw [hv] at this
    exact this)
  have hmth : ∀ wx, (method 250 82 (.pointer (some ⟨p, 0, none⟩)) "And").run Tryz.prog wx = .ok (99, .pointer (some ⟨p, 0, none⟩)) wx := by intro wx; kernel_rfl
  have H := Lib.hid h
  clear h hy hv
  unfold stv
  simp only
  go_enter Tryz.func35, Tryz.ntmps35
  go_wp2_with (go_at_call 34; refine (HAT.out _ ((Only.refl _ _).alloc _)).mono ?_)
  rintro e w1 ⟨rfl, hS1⟩
  have n1 := hS1.obj (heap_alloc_new w (.cells #[.int .i64 12, .int .i64 (i : Int), .int .i64 (j : Int), .int .u64 0, .int .i64 0, .bool false] 40)) id
  have HS1 : Hid (Same w w1) := Lib.hid (Same.trans ((Only.refl _ _).alloc _) hS1)
  obtain ⟨s, hs⟩ : ∃ s, w.heap.size = s := ⟨_, rfl⟩
  rw [hs] at n1
  rw [hs]
  have c0 : w1.cell? ⟨s, 0, none⟩ = some (.int .i64 12) := block_cell n1 rfl
  clear hS1 n1 HAT
  go_wp2_with (go_at_call 99; refine (HC.out _ HS1.out).mono ?_)
  rintro e w2 ⟨t2, u2, F2, rfl, hA, hS2, hF2⟩
  have HM := Lib.hid (madeN H.out hl HS1.out hA hS2 hF2)
  clear hA hS2 hF2
  go_wp2_with (go_at_call 31; refine HM.out.mono ?_)
  rintro e w3 ⟨rfl, h3⟩
  have H3 := Lib.hid h3
  clear h3
  go_wp2_with fail
  go_end0
  exact ⟨rfl, H3.out⟩
set_option maxRecDepth 100000 in
set_option maxHeartbeats 1600000 in
theorem twoNand (h : Sta w q a c l) (hl : l.length ≤ 1000000) (i j p : Nat) (r : Nat) (d d' : BA) (F : Nat → Prop) (y : It) (hy : l[j]? = some y)
    (HC : Hid (∀ wx, Same w wx → Calls Tryz.prog 65 #[.pointer (some ⟨p, 0, none⟩), y.v] wx (NewA d' wx))) :
    Calls Tryz.prog 35 #[.pointer (some ⟨q, 0, none⟩), stv { op := 13, on := i, by_ := j }, .iface 80 (.pointer (some ⟨p, 0, none⟩)), .pointer (some ⟨r, 0, none⟩)] w (MoreP q a l d' (.tuple #[]) w) := by
  obtain ⟨t, u, hv⟩ : ∃ t u, y.v = .iface t u := (h.get hy).val
  rw [hv] at HC
  have HAT : Hid (∀ wx, Same w wx → Calls Tryz.prog 34 #[.pointer (some ⟨q, 0, none⟩), .int .i64 (j : Int)] wx (FV wx (.iface t u))) := Lib.hid (fun wx hS => by
    have := atA (h.still hS) j _ hy
    rw [hv] at this
    exact this)
  have hmth : ∀ wx, (method 250 80 (.pointer (some ⟨p, 0, none⟩)) "Nand").run Tryz.prog wx = .ok (65, .pointer (some ⟨p, 0, none⟩)) wx := by intro wx; kernel_rfl
  have H := Lib.hid h
  clear h hy hv
  unfold stv
  simp only
  go_enter Tryz.func35, Tryz.ntmps35
  go_wp2_with (go_at_call 34; refine (HAT.out _ ((Only.refl _ _).alloc _)).mono ?_)
  rintro e w1 ⟨rfl, hS1⟩
  have n1 := hS1.obj (heap_alloc_new w (.cells #[.int .i64 13, .int .i64 (i : Int), .int .i64 (j : Int), .int .u64 0, .int .i64 0, .bool false] 40)) id
  have HS1 : Hid (Same w w1) := Lib.hid (Same.trans ((Only.refl _ _).alloc _) hS1)
  obtain ⟨s, hs⟩ : ∃ s, w.heap.size = s := ⟨_, rfl⟩
  rw [hs] at n1
  rw [hs]
  have c0 : w1.cell? ⟨s, 0, none⟩ = some (.int .i64 13) := block_cell n1 rfl
  clear hS1 n1 HAT
  go_wp2_with (go_at_call 65; refine (HC.out _ HS1.out).mono ?_)
  rintro e w2 ⟨t2, u2, F2, rfl, hA, hS2, hF2⟩
  have HM := Lib.hid (madeN H.out hl HS1.out hA hS2 hF2)
  clear hA hS2 hF2
  go_wp2_with (go_at_call 31; refine HM.out.mono ?_)
  rintro e w3 ⟨rfl, h3⟩
  have H3 := Lib.hid h3
  clear h3
  go_wp2_with fail
  go_end0
  exact ⟨rfl, H3.out⟩
set_option maxRecDepth 100000 in
set_option maxHeartbeats 1600000 in
theorem twoNandS (h : Sta w q a c l) (hl : l.length ≤ 1000000) (i j p : Nat) (r : Nat) (d d' : BA) (F : Nat → Prop) (y : It) (hy : l[j]? = some y)
    (HC : Hid (∀ wx, Same w wx → Calls Tryz.prog 108 #[.pointer (some ⟨p, 0, none⟩), y.v] wx (NewA d' wx))) :
    Calls Tryz.prog 35 #[.pointer (some ⟨q, 0, none⟩), stv { op := 13, on := i, by_ := j }, .iface 82 (.pointer (some ⟨p, 0, none⟩)), .pointer (some ⟨r, 0, none⟩)] w (MoreP q a l d' (.tuple #[]) w) := by
  obtain ⟨t, u, hv⟩ : ∃ t u, y.v = .iface t u := (h.get hy).val
  rw [hv] at HC
  have HAT : Hid (∀ wx, Same w wx → Calls Tryz.prog 34 #[.pointer (some ⟨q, 0, none⟩), .int .i64 (j : Int)] wx (FV wx (.iface t u))) := Lib.hid (fun wx hS => by
    have := atA (h.still hS) j _ hy
    rw [hv] at this
    exact this)
  have hmth : ∀ wx, (method 250 82 (.pointer (some ⟨p, 0, none⟩)) "Nand").run Tryz.prog wx = .ok (108, .pointer (some ⟨p, 0, none⟩)) wx := by intro wx; kernel_rfl
  have H := Lib.hid h
  clear h hy hv
  unfold stv
  simp only
  go_enter Tryz.func35, Tryz.ntmps35
  go_wp2_with (go_at_call 34; refine (HAT.out _ ((Only.refl _ _).alloc _)).mono ?_)
  rintro e w1 ⟨rfl, hS1⟩
  have n1 := hS1.obj (heap_alloc_new w (.cells #[.int .i64 13, .int .i64 (i : Int), .int .i64 (j : Int), .int .u64 0, .int .i64 0, .bool false] 40)) id
  have HS1 : Hid (Same w w1) := Lib.hid (Same.trans ((Only.refl _ _).alloc _) hS1)
  obtain ⟨s, hs⟩ : ∃ s, w.heap.size = s := ⟨_, rfl⟩
  rw [hs] at n1
  rw [hs]
  have c0 : w1.cell? ⟨s, 0, none⟩ = some (.int .i64 13) := block_cell n1 rfl
  clear hS1 n1 HAT
  go_wp2_with (go_at_call 108; refine (HC.out _ HS1.out).mono ?_)
  rintro e w2 ⟨t2, u2, F2, rfl, hA, hS2, hF2⟩
  have HM := Lib.hid (madeN H.out hl HS1.out hA hS2 hF2)
  clear hA hS2 hF2
  go_wp2_with (go_at_call 31; refine HM.out.mono ?_)
  rintro e w3 ⟨rfl, h3⟩
  have H3 := Lib.hid h3
  clear h3
  go_wp2_with fail
  go_end0
  exact ⟨rfl, H3.out⟩
end
end Go.Proofs.YtacjkbljokjdkaaGreat.ba
namespace Go.Proofs.YtacjkbljokjdkaaGreat.ba
open Go.RowKit Go.Proofs.YtacjkbljokjdkaaGreat.base Go.Proofs.YtacjkbljokjdkaaGreat.heap Go.Proofs.YtacjkbljokjdkaaGreat.rows Go.Proofs.YtacjkbljokjdkaaGreat.bit Go.Proofs.YtacjkbljokjdkaaGreat.bs
set_option linter.unusedVariables false
section
variable {w : World} {q c : Nat} {a : Option Addr} {l : List It}
set_option maxRecDepth 100000 in
set_option maxHeartbeats 1600000 in
theorem stepOr (h : Sta w q a c l) (hl : l.length ≤ 1000000) (i j p : Nat) (d d' : BA) (F : Nat → Prop) (hx : l[i]? = some ⟨.iface 80 (.pointer (some ⟨p, 0, none⟩)), d, F⟩) (y : It) (hy : l[j]? = some y)
    (HC : Hid (∀ wx, Same w wx → Calls Tryz.prog 66 #[.pointer (some ⟨p, 0, none⟩), y.v] wx (NewA d' wx))) :
    Calls Tryz.prog 29 #[.pointer (some ⟨q, 0, none⟩), stv { op := 11, on := i, by_ := j }] w (MoreP q a l d' (.agg #[.bool false, .int .u64 0, .slice none 0 0, .bool false]) w) := by
  have HTW : Hid (∀ wx r, Same w wx → Calls Tryz.prog 35 #[.pointer (some ⟨q, 0, none⟩), stv { op := 11, on := i, by_ := j }, .iface 80 (.pointer (some ⟨p, 0, none⟩)), .pointer (some ⟨r, 0, none⟩)] wx (MoreP q a l d' (.tuple #[]) wx)) := Lib.hid (fun wx r hS =>
    twoOr (h.still hS) hl i j p r d d' F y hy (Lib.hid (fun wy hy => HC.out wy (Same.trans hS hy))))
  have H := Lib.hid h
  have HL := Lib.hid h.lt
  clear HC
  have HAT : Hid (∀ wx, Same w wx → Calls Tryz.prog 34 #[.pointer (some ⟨q, 0, none⟩), .int .i64 (i : Int)] wx (FV wx (.iface 80 (.pointer (some ⟨p, 0, none⟩))))) := Lib.hid (fun wx hS => atA (h.still hS) i _ hx)
  have hmth : ∀ wx, (method 250 80 (.pointer (some ⟨p, 0, none⟩)) "Or").run Tryz.prog wx = .ok (66, .pointer (some ⟨p, 0, none⟩)) wx := by intro wx; kernel_rfl
  clear h hx hmth
  unfold stv at HTW ⊢
  simp only at HTW ⊢
  go_enter_defers Tryz.func29, Tryz.ntmps29
  go_wp2_with (go_at_call 34; refine (HAT.out _ ((Only.refl _ _).alloc _ |>.alloc _)).mono ?_)
  rintro e w1 ⟨rfl, hS1⟩
  obtain ⟨m1, m2, m3⟩ := step_made (w := w) (.cells #[.int .i64 (11 : Int), .int .i64 (i : Int), .int .i64 (j : Int), .int .u64 0, .int .i64 0, .bool false] 40) (.cells #[.bool false, .int .u64 0, .slice none 0 0, .bool false] 44)
  have n1 := hS1.obj m2 id
  have n2 := hS1.obj m3 id
  have HS1 : Hid (Same w w1) := Lib.hid (Same.trans m1 hS1)
  obtain ⟨s, hs⟩ : ∃ s, w.heap.size = s := ⟨_, rfl⟩
  obtain ⟨r, hr⟩ : ∃ r, w.heap.size + 1 = r := ⟨_, rfl⟩
  have HR : Hid (w.heap.size ≤ r ∧ s ≠ r ∧ w.heap.size ≤ s) := Lib.hid (by omega)
  rw [hs] at n1
  rw [hr] at n2
  rw [hr, hs]
  have c0 : w1.cell? ⟨s, 0, none⟩ = some (.int .i64 11) := block_cell n1 rfl
  have c3 : w1.cell? ⟨s, 3, none⟩ = some (.int .u64 0) := block_cell n1 rfl
  have N1 := Lib.hid n1
  have N2 := Lib.hid n2
  clear m1 m2 m3 hS1 n1 n2 HAT
  have c1 : w1.cell? ⟨s, 1, none⟩ = some (.int .i64 (i : Int)) := block_cell N1.out rfl
  have c2 : w1.cell? ⟨s, 2, none⟩ = some (.int .i64 (j : Int)) := block_cell N1.out rfl
  have c4 : w1.cell? ⟨s, 4, none⟩ = some (.int .i64 0) := block_cell N1.out rfl
  have c5 : w1.cell? ⟨s, 5, none⟩ = some (.bool false) := block_cell N1.out rfl
  go_wp2_with (go_at_call 35; refine (HTW.out _ _ HS1.out).mono ?_)
  rintro e w2 ⟨rfl, a', c', y', hd, hst, ho, hfa, hfy⟩
  have hrq : ¬ (r = q ∨ At a r) := fun h => by
    have := HL.out r (h.imp id .inl); have := HR.out.1; omega
  have N3 : Hid (w2.heap[r]? = _) := Lib.hid (ho.obj N2.out hrq)
  have hrF : ¬ Fo q a' (l ++ [y']) r := fun h => by
    have h1 := lt_of_heap N2.out
    rcases h with h | h | ⟨x, hx, h⟩
    · exact hrq (.inl h)
    · rcases hfa r h with h2 | h2
      · exact hrq (.inr h2)
      · omega
    · rcases List.mem_append.1 hx with hx | hx
      · have := HL.out r (.inr (.inr ⟨x, hx, h⟩)); have := HR.out.1; omega
      · rw [List.mem_singleton] at hx
        subst hx
        have := hfy r h; omega
  have HFIN : Hid (∀ w', Only (fun k => k = r) w2 w' → MoreP q a l d' (.agg #[.bool false, .int .u64 0, .slice none 0 0, .bool false]) w (.returned (.agg #[.bool false, .int .u64 0, .slice none 0 0, .bool false])) w') := Lib.hid (fun w' hw =>
    ⟨rfl, a', c', y', hd, hst.keep hw (fun k hk e => hrF (by rw [← e]; exact hk)), ((HS1.out.mono (fun _ _ f => f.elim)).trans ho (fun _ _ h => h)).trans hw (fun k hk e => absurd HR.out.1 (by omega)), fun k hk => (hfa k hk).imp id (fun h => Nat.le_trans HS1.out.size h), fun k hk => Nat.le_trans HS1.out.size (hfy k hk)⟩)
  have f1 : ∀ j, w2.frozen? ⟨r, j, none⟩ = false := fun j => block_free N3.out
  have d0 : w2.cell? ⟨r, 0, none⟩ = some (.bool false) := block_cell N3.out rfl
  have d1 : w2.cell? ⟨r, 1, none⟩ = some (.int .u64 0) := block_cell N3.out rfl
  have d2 : w2.cell? ⟨r, 2, none⟩ = some (.slice none 0 0) := block_cell N3.out rfl
  have d3 : w2.cell? ⟨r, 3, none⟩ = some (.bool false) := block_cell N3.out rfl
  clear hd hst ho hfa hfy hrF hrq HTW HS1 N2
  go_wp2_with fail
  refine step_end rfl (stored4 N3.out _ _ _ _) (HFIN.out _ ?_)
  repeat (first | exact Only.refl _ _ | refine Only.setCell ?_ _ _ (fun _ => rfl))
set_option maxRecDepth 100000 in
set_option maxHeartbeats 1600000 in
theorem stepOrS (h : Sta w q a c l) (hl : l.length ≤ 1000000) (i j p : Nat) (d d' : BA) (F : Nat → Prop) (hx : l[i]? = some ⟨.iface 82 (.pointer (some ⟨p, 0, none⟩)), d, F⟩) (y : It) (hy : l[j]? = some y)
    (HC : Hid (∀ wx, Same w wx → Calls Tryz.prog 109 #[.pointer (some ⟨p, 0, none⟩), y.v] wx (NewA d' wx))) :
    Calls Tryz.prog 29 #[.pointer (some ⟨q, 0, none⟩), stv { op := 11, on := i, by_ := j }] w (MoreP q a l d' (.agg #[.bool false, .int .u64 0, .slice none 0 0, .bool false]) w) := by
  have HTW : Hid (∀ wx r, Same w wx → Calls Tryz.prog 35 #[.pointer (some ⟨q, 0, none⟩), stv { op := 11, on := i, by_ := j }, .iface 82 (.pointer (some ⟨p, 0, none⟩)), .pointer (some ⟨r, 0, none⟩)] wx (MoreP q a l d' (.tuple #[]) wx)) := Lib.hid (fun wx r hS =>
    twoOrS (h.still hS) hl i j p r d d' F y hy (Lib.hid (fun wy hy => HC.out wy (Same.trans hS hy))))
  have H := Lib.hid h
  have HL := Lib.hid h.lt
  clear HC
  have HAT : Hid (∀ wx, Same w wx → Calls Tryz.prog 34 #[.pointer (some ⟨q, 0, none⟩), .int .i64 (i : Int)] wx (FV wx (.iface 82 (.pointer (some ⟨p, 0, none⟩))))) := Lib.hid (fun wx hS => atA (h.still hS) i _ hx)
  have hmth : ∀ wx, (method 250 82 (.pointer (some ⟨p, 0, none⟩)) "Or").run Tryz.prog wx = .ok (109, .pointer (some ⟨p, 0, none⟩)) wx := by intro wx; kernel_rfl
  clear h hx hmth
  unfold stv at HTW ⊢
  simp only at HTW ⊢
  go_enter_defers Tryz.func29, Tryz.ntmps29
  go_wp2_with (go_at_call 34; refine (HAT.out _ ((Only.refl _ _).alloc _ |>.alloc _)).mono ?_)
  rintro e w1 ⟨rfl, hS1⟩
  obtain ⟨m1, m2, m3⟩ := step_made (w := w) (.cells #[.int .i64 (11 : Int), .int .i64 (i : Int), .int .i64 (j : Int), .int .u64 0, .int .i64 0, .bool false] 40) (.cells #[.bool false, .int .u64 0, .slice none 0 0, .bool false] 44)
  have n1 := hS1.obj m2 id
  have n2 := hS1.obj m3 id
  have HS1 : Hid (Same w w1) := Lib.hid (Same.trans m1 hS1)
  obtain ⟨s, hs⟩ : ∃ s, w.heap.size = s := ⟨_, rfl⟩
  obtain ⟨r, hr⟩ : ∃ r, w.heap.size + 1 = r := ⟨_, rfl⟩
  have HR : Hid (w.heap.size ≤ r ∧ s ≠ r ∧ w.heap.size ≤ s) := Lib.hid (by omega)
  rw [hs] at n1
  rw [hr] at n2
  rw [hr, hs]
  have c0 : w1.cell? ⟨s, 0, none⟩ = some (.int .i64 11) := block_cell n1 rfl
  have c3 : w1.cell? ⟨s, 3, none⟩ = some (.int .u64 0) := block_cell n1 rfl
  have N1 := Lib.hid n1
  have N2 := Lib.hid n2
  clear m1 m2 m3 hS1 n1 n2 HAT
  have c1 : w1.cell? ⟨s, 1, none⟩ = some (.int .i64 (i : Int)) := block_cell N1.out rfl
  have c2 : w1.cell? ⟨s, 2, none⟩ = some (.int .i64 (j : Int)) := block_cell N1.out rfl
  have c4 : w1.cell? ⟨s, 4, none⟩ = some (.int .i64 0) := block_cell N1.out rfl
  have c5 : w1.cell? ⟨s, 5, none⟩ = some (.bool false) := block_cell N1.out rfl
  go_wp2_with (go_at_call 35; refine (HTW.out _ _ HS1.out).mono ?_)
  rintro e w2 ⟨rfl, a', c', y', hd, hst, ho, hfa, hfy⟩
  have hrq : ¬ (r = q ∨ At a r) := fun h => by
    have := HL.out r (h.imp id .inl); have := HR.out.1; omega
  have N3 : Hid (w2.heap[r]? = _) := Lib.hid (ho.obj N2.out hrq)
  have hrF : ¬ Fo q a' (l ++ [y']) r := fun h => by
    have h1 := lt_of_heap N2.out
    rcases h with h | h | ⟨x, hx, h⟩
    · exact hrq (.inl h)
    · rcases hfa r h with h2 | h2
      · exact hrq (.inr h2)
      · omega
    · rcases List.mem_append.1 hx with hx | hx
      · have := HL.out r (.inr (.inr ⟨x, hx, h⟩)); have := HR.out.1; omega
      · rw [List.mem_singleton] at hx
        subst hx
        have := hfy r h; omega
  have HFIN : Hid (∀ w', Only (fun k => k = r) w2 w' → MoreP q a l d' (.agg #[.bool false, .int .u64 0, .slice none 0 0, .bool false]) w (.returned (.agg #[.bool false, .int .u64 0, .slice none 0 0, .bool false])) w') := Lib.hid (fun w' hw =>
    ⟨rfl, a', c', y', hd, hst.keep hw (fun k hk e => hrF (by rw [← e]; exact hk)), ((HS1.out.mono (fun _ _ f => f.elim)).trans ho (fun _ _ h => h)).trans hw (fun k hk e => absurd HR.out.1 (by omega)), fun k hk => (hfa k hk).imp id (fun h => Nat.le_trans HS1.out.size h), fun k hk => Nat.le_trans HS1.out.size (hfy k hk)⟩)
  have f1 : ∀ j, w2.frozen? ⟨r, j, none⟩ = false := fun j => block_free N3.out
  have d0 : w2.cell? ⟨r, 0, none⟩ = some (.bool false) := block_cell N3.out rfl
  have d1 : w2.cell? ⟨r, 1, none⟩ = some (.int .u64 0) := block_cell N3.out rfl
  have d2 : w2.cell? ⟨r, 2, none⟩ = some (.slice none 0 0) := block_cell N3.out rfl
  have d3 : w2.cell? ⟨r, 3, none⟩ = some (.bool false) := block_cell N3.out rfl
  clear hd hst ho hfa hfy hrF hrq HTW HS1 N2
  go_wp2_with fail
  refine step_end rfl (stored4 N3.out _ _ _ _) (HFIN.out _ ?_)
  repeat (first | exact Only.refl _ _ | refine Only.setCell ?_ _ _ (fun _ => rfl))
set_option maxRecDepth 100000 in
set_option maxHeartbeats 1600000 in
theorem stepAnd (h : Sta w q a c l) (hl : l.length ≤ 1000000) (i j p : Nat) (d d' : BA) (F : Nat → Prop) (hx : l[i]? = some ⟨.iface 80 (.pointer (some ⟨p, 0, none⟩)), d, F⟩) (y : It) (hy : l[j]? = some y)
    (HC : Hid (∀ wx, Same w wx → Calls Tryz.prog 55 #[.pointer (some ⟨p, 0, none⟩), y.v] wx (NewA d' wx))) :
    Calls Tryz.prog 29 #[.pointer (some ⟨q, 0, none⟩), stv { op := 12, on := i, by_ := j }] w (MoreP q a l d' (.agg #[.bool false, .int .u64 0, .slice none 0 0, .bool false]) w) := by
  have HTW : Hid (∀ wx r, Same w wx → Calls Tryz.prog 35 #[.pointer (some ⟨q, 0, none⟩), stv { op := 12, on := i, by_ := j }, .iface 80 (.pointer (some ⟨p, 0, none⟩)), .pointer (some ⟨r, 0, none⟩)] wx (MoreP q a l d' (.tuple #[]) wx)) := Lib.hid (fun wx r hS =>
    twoAnd (h.still hS) hl i j p r d d' F y hy (Lib.hid (fun wy hy => HC.out wy (Same.trans hS hy))))
  have H := Lib.hid h
  have HL := Lib.hid h.lt
  clear HC
  have HAT : Hid (∀ wx, Same w wx → Calls Tryz.prog 34 #[.pointer (some ⟨q, 0, none⟩), .int .i64 (i : Int)] wx (FV wx (.iface 80 (.pointer (some ⟨p, 0, none⟩))))) := Lib.hid (fun wx hS => atA (h.still hS) i _ hx)
  have hmth : ∀ wx, (method 250 80 (.pointer (some ⟨p, 0, none⟩)) "And").run Tryz.prog wx = .ok (55, .pointer (some ⟨p, 0, none⟩)) wx := by intro wx; kernel_rfl
  clear h hx hmth
  unfold stv at HTW ⊢
  simp only at HTW ⊢
  go_enter_defers Tryz.func29, Tryz.ntmps29
  go_wp2_with (go_at_call 34; refine (HAT.out _ ((Only.refl _ _).alloc _ |>.alloc _)).mono ?_)
  rintro e w1 ⟨rfl, hS1⟩
  obtain ⟨m1, m2, m3⟩ := step_made (w := w) (.cells #[.int .i64 (12 : Int), .int .i64 (i : Int), .int .i64 (j : Int), .int .u64 0, .int .i64 0, .bool false] 40) (.cells #[.bool false, .int .u64 0, .slice none 0 0, .bool false] 44)
  have n1 := hS1.obj m2 id
  have n2 := hS1.obj m3 id
  have HS1 : Hid (Same w w1) := Lib.hid (Same.trans m1 hS1)
  obtain ⟨s, hs⟩ : ∃ s, w.heap.size = s := ⟨_, rfl⟩
  obtain ⟨r, hr⟩ : ∃ r, w.heap.size + 1 = r := ⟨_, rfl⟩
  have HR : Hid (w.heap.size ≤ r ∧ s ≠ r ∧ w.heap.size ≤ s) := Lib.hid (by omega)
  rw [hs] at n1
  rw [hr] at n2
  rw [hr, hs]
  have c0 : w1.cell? ⟨s, 0, none⟩ = some (.int .i64 12) := block_cell n1 rfl
  have c3 : w1.cell? ⟨s, 3, none⟩ = some (.int .u64 0) := block_cell n1 rfl
  have N1 := Lib.hid n1
  have N2 := Lib.hid n2
  clear m1 m2 m3 hS1 n1 n2 HAT
  have c1 : w1.cell? ⟨s, 1, none⟩ = some (.int .i64 (i : Int)) := block_cell N1.out rfl
  have c2 : w1.cell? ⟨s, 2, none⟩ = some (.int .i64 (j : Int)) := block_cell N1.out rfl
  have c4 : w1.cell? ⟨s, 4, none⟩ = some (.int .i64 0) := block_cell N1.out rfl
  have c5 : w1.cell? ⟨s, 5, none⟩ = some (.bool false) := block_cell N1.out rfl
  go_wp2_with (go_at_call 35; refine (HTW.out _ _ HS1.out).mono ?_)
  rintro e w2 ⟨rfl, a', c', y', hd, hst, ho, hfa, hfy⟩
  have hrq : ¬ (r = q ∨ At a r) := fun h => by
    have := HL.out r (h.imp id .inl); have := HR.out.1; omega
  have N3 : Hid (w2.heap[r]? = _) := Lib.hid (ho.obj N2.out hrq)
  have hrF : ¬ Fo q a' (l ++ [y']) r := fun h => by
    have h1 := lt_of_heap N2.out
    rcases h with h | h | ⟨x, hx, h⟩
    · exact hrq (.inl h)
    · rcases hfa r h with h2 | h2
      · exact hrq (.inr h2)
      · omega
    · rcases List.mem_append.1 hx with hx | hx
      · have := HL.out r (.inr (.inr ⟨x, hx, h⟩)); have := HR.out.1; omega
      · rw [List.mem_singleton] at hx
        subst hx
        have := hfy r h; omega
  have HFIN : Hid (∀ w', Only (fun k => k = r) w2 w' → MoreP q a l d' (.agg #[.bool false, .int .u64 0, .slice none 0 0, .bool false]) w (.returned (.agg #[.bool false, .int .u64 0, .slice none 0 0, .bool false])) w') := Lib.hid (fun w' hw =>
    ⟨rfl, a', c', y', hd, hst.keep hw (fun k hk e => hrF (by rw [← e]; exact hk)), ((HS1.out.mono (fun _ _ f => f.elim)).trans ho (fun _ _ h => h)).trans hw (fun k hk e => absurd HR.out.1 (by omega)), fun k hk => (hfa k hk).imp id (fun h => Nat.le_trans HS1.out.size h), fun k hk => Nat.le_trans HS1.out.size (hfy k hk)⟩)
  have f1 : ∀ j, w2.frozen? ⟨r, j, none⟩ = false := fun j => block_free N3.out
  have d0 : w2.cell? ⟨r, 0, none⟩ = some (.bool false) := block_cell N3.out rfl
  have d1 : w2.cell? ⟨r, 1, none⟩ = some (.int .u64 0) := block_cell N3.out rfl
  have d2 : w2.cell? ⟨r, 2, none⟩ = some (.slice none 0 0) := block_cell N3.out rfl
  have d3 : w2.cell? ⟨r, 3, none⟩ = some (.bool false) := block_cell N3.out rfl
  clear hd hst ho hfa hfy hrF hrq HTW HS1 N2
  go_wp2_with fail
  refine step_end rfl (stored4 N3.out _ _ _ _) (HFIN.out _ ?_)
  repeat (first | exact Only.refl _ _ | refine Only.setCell ?_ _ _ (fun _ => rfl))
set_option maxRecDepth 100000 in
set_option maxHeartbeats 1600000 in
theorem stepAndS (h : Sta w q a c l) (hl : l.length ≤ 1000000) (i j p : Nat) (d d' : BA) (F : Nat → Prop) (hx : l[i]? = some ⟨.iface 82 (.pointer (some ⟨p, 0, none⟩)), d, F⟩) (y : It) (hy : l[j]? = some y)
    (HC : Hid (∀ wx, Same w wx → Calls Tryz.prog 99 #[.pointer (some ⟨p, 0, none⟩), y.v] wx (NewA d' wx))) :
    Calls Tryz.prog 29 #[.pointer (some ⟨q, 0, none⟩), stv { op := 12, on := i, by_ := j }] w (MoreP q a l d' (.agg #[.bool false, .int .u64 0, .slice none 0 0, .bool false]) w) := by
  have HTW : Hid (∀ wx r, Same w wx → Calls Tryz.prog 35 #[.pointer (some ⟨q, 0, none⟩), stv { op := 12, on := i, by_ := j }, .iface 82 (.pointer (some ⟨p, 0, none⟩)), .pointer (some ⟨r, 0, none⟩)] wx (MoreP q a l d' (.tuple #[]) wx)) := Lib.hid (fun wx r hS =>
    twoAndS (h.still hS) hl i j p r d d' F y hy (Lib.hid (fun wy hy => HC.out wy (Same.trans hS hy))))
  have H := Lib.hid h
  have HL := Lib.hid h.lt
  clear HC
  have HAT : Hid (∀ wx, Same w wx → Calls Tryz.prog 34 #[.pointer (some ⟨q, 0, none⟩), .int .i64 (i : Int)] wx (FV wx (.iface 82 (.pointer (some ⟨p, 0, none⟩))))) := Lib.hid (fun wx hS => atA (h.still hS) i _ hx)
  have hmth : ∀ wx, (method 250 82 (.pointer (some ⟨p, 0, none⟩)) "And").run Tryz.prog wx = .ok (99, .pointer (some ⟨p, 0, none⟩)) wx := by intro wx; kernel_rfl
  clear h hx hmth
  unfold stv at HTW ⊢
  simp only at HTW ⊢
  go_enter_defers Tryz.func29, Tryz.ntmps29
  go_wp2_with (go_at_call 34; refine (HAT.out _ ((Only.refl _ _).alloc _ |>.alloc _)).mono ?_)
  rintro e w1 ⟨rfl, hS1⟩
  obtain ⟨m1, m2, m3⟩ := step_made (w := w) (.cells #[.int .i64 (12 : Int), .int .i64 (i : Int), .int .i64 (j : Int), .int .u64 0, .int .i64 0, .bool false] 40) (.cells #[.bool false, .int .u64 0, .slice none 0 0, .bool false] 44)
  have n1 := hS1.obj m2 id
  have n2 := hS1.obj m3 id
  have HS1 : Hid (Same w w1) := Lib.hid (Same.trans m1 hS1)
  obtain ⟨s, hs⟩ : ∃ s, w.heap.size = s := ⟨_, rfl⟩
  obtain ⟨r, hr⟩ : ∃ r, w.heap.size + 1 = r := ⟨_, rfl⟩
  have HR : Hid (w.heap.size ≤ r ∧ s ≠ r ∧ w.heap.size ≤ s) := Lib.hid (by omega)
  rw [hs] at n1
  rw [hr] at n2
  rw [hr, hs]
  have c0 : w1.cell? ⟨s, 0, none⟩ = some (.int .i64 12) := block_cell n1 rfl
  have c3 : w1.cell? ⟨s, 3, none⟩ = some (.int .u64 0) := block_cell n1 rfl
  have N1 := Lib.hid n1
  have N2 := Lib.hid n2
  clear m1 m2 m3 hS1 n1 n2 HAT
  have c1 : w1.cell? ⟨s, 1, none⟩ = some (.int .i64 (i : Int)) := block_cell N1.out rfl
  have c2 : w1.cell? ⟨s, 2, none⟩ = some (.int .i64 (j : Int)) := block_cell N1.out rfl
  have c4 : w1.cell? ⟨s, 4, none⟩ = some (.int .i64 0) := block_cell N1.out rfl
  have c5 : w1.cell? ⟨s, 5, none⟩ = some (.bool false) := block_cell N1.out rfl
  go_wp2_with (go_at_call 35; refine (HTW.out _ _ HS1.out).mono ?_)
  rintro e w2 ⟨rfl, a', c', y', hd, hst, ho, hfa, hfy⟩
  have hrq : ¬ (r = q ∨ At a r) := fun h => by
    have := HL.out r (h.imp id .inl); have := HR.out.1; omega
  have N3 : Hid (w2.heap[r]? = _) := Lib.hid (ho.obj N2.out hrq)
  have hrF : ¬ Fo q a' (l ++ [y']) r := fun h => by
    have h1 := lt_of_heap N2.out
    rcases h with h | h | ⟨x, hx, h⟩
    · exact hrq (.inl h)
    · rcases hfa r h with h2 | h2
      · exact hrq (.inr h2)
      · omega
    · rcases List.mem_append.1 hx with hx | hx
      · have := HL.out r (.inr (.inr ⟨x, hx, h⟩)); have := HR.out.1; omega
      · rw [List.mem_singleton] at hx
        subst hx
        have := hfy r h; omega
  have HFIN : Hid (∀ w', Only (fun k => k = r) w2 w' → MoreP q a l d' (.agg #[.bool false, .int .u64 0, .slice none 0 0, .bool false]) w (.returned (.agg #[.bool false, .int .u64 0, .slice none 0 0, .bool false])) w') := Lib.hid (fun w' hw =>
    ⟨rfl, a', c', y', hd, hst.keep hw (fun k hk e => hrF (by rw [← e]; exact hk)), ((HS1.out.mono (fun _ _ f => f.elim)).trans ho (fun _ _ h => h)).trans hw (fun k hk e => absurd HR.out.1 (by omega)), fun k hk => (hfa k hk).imp id (fun h => Nat.le_trans HS1.out.size h), fun k hk => Nat.le_trans HS1.out.size (hfy k hk)⟩)
  have f1 : ∀ j, w2.frozen? ⟨r, j, none⟩ = false := fun j => block_free N3.out
  have d0 : w2.cell? ⟨r, 0, none⟩ = some (.bool false) := block_cell N3.out rfl
  have d1 : w2.cell? ⟨r, 1, none⟩ = some (.int .u64 0) := block_cell N3.out rfl
  have d2 : w2.cell? ⟨r, 2, none⟩ = some (.slice none 0 0) := block_cell N3.out rfl
  have d3 : w2.cell? ⟨r, 3, none⟩ = some (.bool false) := block_cell N3.out rfl
  clear hd hst ho hfa hfy hrF hrq HTW HS1 N2
  go_wp2_with fail
  refine step_end rfl (stored4 N3.out _ _ _ _) (HFIN.out _ ?_)
  repeat (first | exact Only.refl _ _ | refine Only.setCell ?_ _ _ (fun _ => rfl))
set_option maxRecDepth 100000 in
set_option maxHeartbeats 1600000 in
theorem stepNand (h : Sta w q a c l) (hl : l.length ≤ 1000000) (i j p : Nat) (d d' : BA) (F : Nat → Prop) (hx : l[i]? = some ⟨.iface 80 (.pointer (some ⟨p, 0, none⟩)), d, F⟩) (y : It) (hy : l[j]? = some y)
    (HC : Hid (∀ wx, Same w wx → Calls Tryz.prog 65 #[.pointer (some ⟨p, 0, none⟩), y.v] wx (NewA d' wx))) :
    Calls Tryz.prog 29 #[.pointer (some ⟨q, 0, none⟩), stv { op := 13, on := i, by_ := j }] w (MoreP q a l d' (.agg #[.bool false, .int .u64 0, .slice none 0 0, .bool false]) w) := by
  have HTW : Hid (∀ wx r, Same w wx → Calls Tryz.prog 35 #[.pointer (some ⟨q, 0, none⟩), stv { op := 13, on := i, by_ := j }, .iface 80 (.pointer (some ⟨p, 0, none⟩)), .pointer (some ⟨r, 0, none⟩)] wx (MoreP q a l d' (.tuple #[]) wx)) := Lib.hid (fun wx r hS =>
    twoNand (h.still hS) hl i j p r d d' F y hy (Lib.hid (fun wy hy => HC.out wy (Same.trans hS hy))))
  have H := Lib.hid h
  have HL := Lib.hid h.lt
  clear HC
  have HAT : Hid (∀ wx, Same w wx → Calls Tryz.prog 34 #[.pointer (some ⟨q, 0, none⟩), .int .i64 (i : Int)] wx (FV wx (.iface 80 (.pointer (some ⟨p, 0, none⟩))))) := Lib.hid (fun wx hS => atA (h.still hS) i _ hx)
  have hmth : ∀ wx, (method 250 80 (.pointer (some ⟨p, 0, none⟩)) "Nand").run Tryz.prog wx = .ok (65, .pointer (some ⟨p, 0, none⟩)) wx := by intro wx; kernel_rfl
  clear h hx hmth
  unfold stv at HTW ⊢
  simp only at HTW ⊢
  go_enter_defers Tryz.func29, Tryz.ntmps29
  go_wp2_with (go_at_call 34; refine (HAT.out _ ((Only.refl _ _).alloc _ |>.alloc _)).mono ?_)
  rintro e w1 ⟨rfl, hS1⟩
  obtain ⟨m1, m2, m3⟩ := step_made (w := w) (.cells #[.int .i64 (13 : Int), .int .i64 (i : Int), .int .i64 (j : Int), .int .u64 0, .int .i64 0, .bool false] 40) (.cells #[.bool false, .int .u64 0, .slice none 0 0, .bool false] 44)
  have n1 := hS1.obj m2 id
  have n2 := hS1.obj m3 id
  have HS1 : Hid (Same w w1) := Lib.hid (Same.trans m1 hS1)
  obtain ⟨s, hs⟩ : ∃ s, w.heap.size = s := ⟨_, rfl⟩
  obtain ⟨r, hr⟩ : ∃ r, w.heap.size + 1 = r := ⟨_, rfl⟩
  have HR : Hid (w.heap.size ≤ r ∧ s ≠ r ∧ w.heap.size ≤ s) := Lib.hid (by omega)
  rw [hs] at n1
  rw [hr] at n2
  rw [hr, hs]
  have c0 : w1.cell? ⟨s, 0, none⟩ = some (.int .i64 13) := block_cell n1 rfl
  have c3 : w1.cell? ⟨s, 3, none⟩ = some (.int .u64 0) := block_cell n1 rfl
  have N1 := Lib.hid n1
  have N2 := Lib.hid n2
  clear m1 m2 m3 hS1 n1 n2 HAT
  have c1 : w1.cell? ⟨s, 1, none⟩ = some (.int .i64 (i : Int)) := block_cell N1.out rfl
  have c2 : w1.cell? ⟨s, 2, none⟩ = some (.int .i64 (j : Int)) := block_cell N1.out rfl
  have c4 : w1.cell? ⟨s, 4, none⟩ = some (.int .i64 0) := block_cell N1.out rfl
  have c5 : w1.cell? ⟨s, 5, none⟩ = some (.bool false) := block_cell N1.out rfl
  go_wp2_with (go_at_call 35; refine (HTW.out _ _ HS1.out).mono ?_)
  rintro e w2 ⟨rfl, a', c', y', hd, hst, ho, hfa, hfy⟩
  have hrq : ¬ (r = q ∨ At a r) := fun h => by
    have := HL.out r (h.imp id .inl); have := HR.out.1; omega
  have N3 : Hid (w2.heap[r]? = _) := Lib.hid (ho.obj N2.out hrq)
  have hrF : ¬ Fo q a' (l ++ [y']) r := fun h => by
    have h1 := lt_of_heap N2.out
    rcases h with h | h | ⟨x, hx, h⟩
    · exact hrq (.inl h)
    · rcases hfa r h with h2 | h2
      · exact hrq (.inr h2)
      · omega
    · rcases List.mem_append.1 hx with hx | hx
      · have := HL.out r (.inr (.inr ⟨x, hx, h⟩)); have := HR.out.1; omega
      · rw [List.mem_singleton] at hx
        subst hx
        have := hfy r h; omega
  have HFIN : Hid (∀ w', Only (fun k => k = r) w2 w' → MoreP q a l d' (.agg #[.bool false, .int .u64 0, .slice none 0 0, .bool false]) w (.returned (.agg #[.bool false, .int .u64 0, .slice none 0 0, .bool false])) w') := Lib.hid (fun w' hw =>
    ⟨rfl, a', c', y', hd, hst.keep hw (fun k hk e => hrF (by rw [← e]; exact hk)), ((HS1.out.mono (fun _ _ f => f.elim)).trans ho (fun _ _ h => h)).trans hw (fun k hk e => absurd HR.out.1 (by omega)), fun k hk => (hfa k hk).imp id (fun h => Nat.le_trans HS1.out.size h), fun k hk => Nat.le_trans HS1.out.size (hfy k hk)⟩)
  have f1 : ∀ j, w2.frozen? ⟨r, j, none⟩ = false := fun j => block_free N3.out
  have d0 : w2.cell? ⟨r, 0, none⟩ = some (.bool false) := block_cell N3.out rfl
  have d1 : w2.cell? ⟨r, 1, none⟩ = some (.int .u64 0) := block_cell N3.out rfl
  have d2 : w2.cell? ⟨r, 2, none⟩ = some (.slice none 0 0) := block_cell N3.out rfl
  have d3 : w2.cell? ⟨r, 3, none⟩ = some (.bool false) := block_cell N3.out rfl
  clear hd hst ho hfa hfy hrF hrq HTW HS1 N2
  go_wp2_with fail
  refine step_end rfl (stored4 N3.out _ _ _ _) (HFIN.out _ ?_)
  repeat (first | exact Only.refl _ _ | refine Only.setCell ?_ _ _ (fun _ => rfl))
set_option maxRecDepth 100000 in
set_option maxHeartbeats 1600000 in
theorem stepNandS (h : Sta w q a c l) (hl : l.length ≤ 1000000) (i j p : Nat) (d d' : BA) (F : Nat → Prop) (hx : l[i]? = some ⟨.iface 82 (.pointer (some ⟨p, 0, none⟩)), d, F⟩) (y : It) (hy : l[j]? = some y)
    (HC : Hid (∀ wx, Same w wx → Calls Tryz.prog 108 #[.pointer (some ⟨p, 0, none⟩), y.v] wx (NewA d' wx))) :
    Calls Tryz.prog 29 #[.pointer (some ⟨q, 0, none⟩), stv { op := 13, on := i, by_ := j }] w (MoreP q a l d' (.agg #[.bool false, .int .u64 0, .slice none 0 0, .bool false]) w) := by
  have HTW : Hid (∀ wx r, Same w wx → Calls Tryz.prog 35 #[.pointer (some ⟨q, 0, none⟩), stv { op := 13, on := i, by_ := j }, .iface 82 (.pointer (some ⟨p, 0, none⟩)), .pointer (some ⟨r, 0, none⟩)] wx (MoreP q a l d' (.tuple #[]) wx)) := Lib.hid (fun wx r hS =>
    twoNandS (h.still hS) hl i j p r d d' F y hy (Lib.hid (fun wy hy => HC.out wy (Same.trans hS hy))))
  have H := Lib.hid h
  have HL := Lib.hid h.lt
  clear HC
  have HAT : Hid (∀ wx, Same w wx → Calls Tryz.prog 34 #[.pointer (some ⟨q, 0, none⟩), .int .i64 (i : Int)] wx (FV wx (.iface 82 (.pointer (some ⟨p, 0, none⟩))))) := Lib.hid (fun wx hS => atA (h.still hS) i _ hx)
  have hmth : ∀ wx, (method 250 82 (.pointer (some ⟨p, 0, none⟩)) "Nand").run Tryz.prog wx = .ok (108, .pointer (some ⟨p, 0, none⟩)) wx := by intro wx; kernel_rfl
  clear h hx hmth
  unfold stv at HTW ⊢
  simp only at HTW ⊢
  go_enter_defers Tryz.func29, Tryz.ntmps29
  go_wp2_with (go_at_call 34; refine (HAT.out _ ((Only.refl _ _).alloc _ |>.alloc _)).mono ?_)
  rintro e w1 ⟨rfl, hS1⟩
  obtain ⟨m1, m2, m3⟩ := step_made (w := w) (.cells #[.int .i64 (13 : Int), .int .i64 (i : Int), .int .i64 (j : Int), .int .u64 0, .int .i64 0, .bool false] 40) (.cells #[.bool false, .int .u64 0, .slice none 0 0, .bool false] 44)
  have n1 := hS1.obj m2 id
  have n2 := hS1.obj m3 id
  have HS1 : Hid (Same w w1) := Lib.hid (Same.trans m1 hS1)
  obtain ⟨s, hs⟩ : ∃ s, w.heap.size = s := ⟨_, rfl⟩
  obtain ⟨r, hr⟩ : ∃ r, w.heap.size + 1 = r := ⟨_, rfl⟩
  have HR : Hid (w.heap.size ≤ r ∧ s ≠ r ∧ w.heap.size ≤ s) := Lib.hid (by omega)
  rw [hs] at n1
  rw [hr] at n2
  rw [hr, hs]
  have c0 : w1.cell? ⟨s, 0, none⟩ = some (.int .i64 13) := block_cell n1 rfl
  have c3 : w1.cell? ⟨s, 3, none⟩ = some (.int .u64 0) := block_cell n1 rfl
  have N1 := Lib.hid n1
  have N2 := Lib.hid n2
  clear m1 m2 m3 hS1 n1 n2 HAT
  have c1 : w1.cell? ⟨s, 1, none⟩ = some (.int .i64 (i : Int)) := block_cell N1.out rfl
  have c2 : w1.cell? ⟨s, 2, none⟩ = some (.int .i64 (j : Int)) := block_cell N1.out rfl
  have c4 : w1.cell? ⟨s, 4, none⟩ = some (.int .i64 0) := block_cell N1.out rfl
  have c5 : w1.cell? ⟨s, 5, none⟩ = some (.bool false) := block_cell N1.out rfl
  go_wp2_with (go_at_call 35; refine (HTW.out _ _ HS1.out).mono ?_)
  rintro e w2 ⟨rfl, a', c', y', hd, hst, ho, hfa, hfy⟩
  have hrq : ¬ (r = q ∨ At a r) := fun h => by
    have := HL.out r (h.imp id .inl); have := HR.out.1; omega
  have N3 : Hid (w2.heap[r]? = _) := Lib.hid (ho.obj N2.out hrq)
  have hrF : ¬ Fo q a' (l ++ [y']) r := fun h => by
    have h1 := lt_of_heap N2.out
    rcases h with h | h | ⟨x, hx, h⟩
    · exact hrq (.inl h)
    · rcases hfa r h with h2 | h2
      · exact hrq (.inr h2)
      · omega
    · rcases List.mem_append.1 hx with hx | hx
      · have := HL.out r (.inr (.inr ⟨x, hx, h⟩)); have := HR.out.1; omega
      · rw [List.mem_singleton] at hx
        subst hx
        have := hfy r h; omega
  have HFIN : Hid (∀ w', Only (fun k => k = r) w2 w' → MoreP q a l d' (.agg #[.bool false, .int .u64 0, .slice none 0 0, .bool false]) w (.returned (.agg #[.bool false, .int .u64 0, .slice none 0 0, .bool false])) w') := Lib.hid (fun w' hw =>
    ⟨rfl, a', c', y', hd, hst.keep hw (fun k hk e => hrF (by rw [← e]; exact hk)), ((HS1.out.mono (fun _ _ f => f.elim)).trans ho (fun _ _ h => h)).trans hw (fun k hk e => absurd HR.out.1 (by omega)), fun k hk => (hfa k hk).imp id (fun h => Nat.le_trans HS1.out.size h), fun k hk => Nat.le_trans HS1.out.size (hfy k hk)⟩)
  have f1 : ∀ j, w2.frozen? ⟨r, j, none⟩ = false := fun j => block_free N3.out
  have d0 : w2.cell? ⟨r, 0, none⟩ = some (.bool false) := block_cell N3.out rfl
  have d1 : w2.cell? ⟨r, 1, none⟩ = some (.int .u64 0) := block_cell N3.out rfl
  have d2 : w2.cell? ⟨r, 2, none⟩ = some (.slice none 0 0) := block_cell N3.out rfl
  have d3 : w2.cell? ⟨r, 3, none⟩ = some (.bool false) := block_cell N3.out rfl
  clear hd hst ho hfa hfy hrF hrq HTW HS1 N2
  go_wp2_with fail
  refine step_end rfl (stored4 N3.out _ _ _ _) (HFIN.out _ ?_)
  repeat (first | exact Only.refl _ _ | refine Only.setCell ?_ _ _ (fun _ => rfl))
end
end Go.Proofs.YtacjkbljokjdkaaGreat.ba
namespace Go.Proofs.YtacjkbljokjdkaaGreat.ba
open Go.RowKit Go.Proofs.YtacjkbljokjdkaaGreat.base Go.Proofs.YtacjkbljokjdkaaGreat.heap Go.Proofs.YtacjkbljokjdkaaGreat.rows Go.Proofs.YtacjkbljokjdkaaGreat.bit Go.Proofs.YtacjkbljokjdkaaGreat.bs
set_option linter.unusedVariables false

theorem wf_zeros (n j : Nat) : wf (List.replicate n 0) j = 0 := by
  unfold wf
  rw [List.getD_eq_getElem?_getD, List.getElem?_replicate]
  split <;> rfl
theorem rep_zeros (n : Nat) : Rep (wf (List.replicate n 0)) [] := ⟨Asc.nil, fun k => by rw [wf_zeros]; simp⟩
theorem nob_zeros (n : Nat) : NoB (List.replicate n 0) := fun k => by
  unfold bit
  rw [show (List.replicate n 0).getD (k / 64) 0 = 0 from wf_zeros n _]
  simp
theorem NewD.arr {n : Nat} {w : World} {e : Ending} {w' : World} (h : NewD (List.replicate n 0) 0 0 false w e w') : ∃ p F, e = .returned (.pointer (some ⟨p, 0, none⟩)) ∧ Arr w' (.iface 80 (.pointer (some ⟨p, 0, none⟩))) ⟨true, n, []⟩ F ∧ Same w w' ∧ ∀ k, F k → w.heap.size ≤ k := by
  obtain ⟨p, a, c, rfl, hd, hs, hf⟩ := h
  have := Arr.ofFin (w := w) hd (.inl ⟨nob_zeros n, rfl, rfl, rfl⟩) (rep_zeros n)
  rw [List.length_replicate] at this
  exact ⟨p, _, rfl, this, hs, hf⟩
set_option maxRecDepth 100000 in
set_option maxHeartbeats 1600000 in
theorem newBA (k : Nat) (hk : k ≤ 64000000) (ad : Addr) (ac : Nat) (w : World) (had : ad.spot = none) (hc : w.cell? ad = some (.bool false)) :
    Calls Tryz.prog 32 #[.int .u64 (k : Int), .slice (some ad) 1 ac] w (NewA ⟨true, (k + 63) / 64, []⟩ w) := by
  have HN := Lib.hid (newD0 k hk (some ad) 1 ac w (.inr ⟨rfl, ad, rfl, had, hc⟩))
  clear hc
  obtain ⟨n, hn⟩ : ∃ n, (k + 63) / 64 = n := ⟨_, rfl⟩
  rw [hn] at HN ⊢
  go_enter Tryz.func32, Tryz.ntmps32
  go_wp2_with fail
  refine HN.out.mono ?_
  intro e w1 hN
  obtain ⟨p, F, rfl, hA⟩ := hN.arr
  have HA := Lib.hid hA
  clear hA hN HN
  go_wp2_with fail
  go_ret
  exact ⟨_, _, F, rfl, HA.out⟩
set_option maxRecDepth 100000 in
set_option maxHeartbeats 1600000 in
theorem newSp (w : World) : Calls Tryz.prog 37 #[] w fun e w' => e = .returned (.pointer (some ⟨w.heap.size, 0, none⟩)) ∧ w' = w.alloc (.cells #[.slice none 0 0, .slice none 0 0] 94) := by
  go_enter Tryz.func37, Tryz.ntmps37
  go_wp2_with fail
  go_ret
  exact ⟨rfl, rfl⟩
theorem sp_new (w : World) : Arr (w.alloc (.cells #[.slice none 0 0, .slice none 0 0] 94)) (.iface 82 (.pointer (some ⟨w.heap.size, 0, none⟩))) ⟨false, 0, []⟩ (Fs w.heap.size none none) := by
  refine .sparse w.heap.size none 0 none 0 [] [] ⟨heap_alloc_new _ _, Own.nil _ _ _, Own.nil _ _ _, Asc.nil, by simp, id, id, fun _ h => h.elim, by simp⟩ ⟨Asc.nil, fun k => ?_⟩
  simp [wd]
set_option maxRecDepth 100000 in
set_option maxHeartbeats 1600000 in
theorem newSA (w : World) : Calls Tryz.prog 33 #[] w (NewA ⟨false, 0, []⟩ w) := by
  have HN := Lib.hid (newSp w)
  have HF : Hid (∀ w', w' = w.alloc (.cells #[.slice none 0 0, .slice none 0 0] 94) → NewA ⟨false, 0, []⟩ w (.returned (.iface 82 (.pointer (some ⟨w.heap.size, 0, none⟩)))) w') := Lib.hid (by
    rintro w' rfl
    refine ⟨_, _, _, rfl, sp_new w, (Only.refl _ _).alloc _, ?_⟩
    rintro k (rfl | h | h)
    · exact Nat.le_refl _
    · exact h.elim
    · exact h.elim)
  go_enter Tryz.func33, Tryz.ntmps33
  go_wp2_with fail
  refine HN.out.mono ?_
  rintro e w1 ⟨rfl, rfl⟩
  go_wp2_with fail
  go_ret
  exact HF.out _ rfl
theorem step_made3 {w : World} (A B C : Obj) : Same w (((w.alloc A).alloc B).alloc C) ∧ (((w.alloc A).alloc B).alloc C).heap[w.heap.size + 1]? = some B :=
  ⟨(((Only.refl _ _).alloc _).alloc _).alloc _, ((Only.refl (fun _ => False) _).alloc C).obj (heap_alloc_new' _ _ _ (by simp)) id⟩
section
variable {w : World} {q c : Nat} {a : Option Addr} {l : List It}
/-- what a step's two blocks leave of it -/
theorem more_end {w1 w2 w' : World} {d : BA} {r : Nat} {v v' : Value} {e : Ending} (HL : ∀ k, Fo q a l k → k < w.heap.size) (hS : Same w w1) (hr : w.heap.size ≤ r) (hr1 : r < w1.heap.size) (h : MoreP q a l d v w1 e w2) (ho : Only (fun k => k = r) w2 w') : MoreP q a l d v' w (.returned v') w' := by
  obtain ⟨_, a', c', y, hd, hst, ho2, hfa, hfy⟩ := h
  have hrF : ¬ Fo q a' (l ++ [y]) r := fun h => by
    rcases h with h | h | ⟨x, hx, h⟩
    · have := HL r (.inl h); omega
    · rcases hfa r h with h2 | h2
      · have := HL r (.inr (.inl h2)); omega
      · omega
    · rcases List.mem_append.1 hx with hx | hx
      · have := HL r (.inr (.inr ⟨x, hx, h⟩)); omega
      · rw [List.mem_singleton] at hx
        subst hx
        have := hfy r h; omega
  exact ⟨rfl, a', c', y, hd, hst.keep ho (fun k hk e => hrF (by rw [← e]; exact hk)), ((hS.mono (fun _ _ f => f.elim)).trans ho2 (fun _ _ h => h)).trans ho (fun k hk e => absurd hr (by omega)), fun k hk => (hfa k hk).imp id (fun h => Nat.le_trans hS.size h), fun k hk => Nat.le_trans hS.size (hfy k hk)⟩
set_option maxRecDepth 100000 in
set_option maxHeartbeats 1600000 in
theorem stepDense (h : Sta w q a c l) (hl : l.length ≤ 1000000) (k : Nat) (hk : k ≤ 64000000) :
    Calls Tryz.prog 29 #[.pointer (some ⟨q, 0, none⟩), stv { op := 1, k := k }] w (MoreP q a l ⟨true, (k + 63) / 64, []⟩ (.agg #[.bool false, .int .u64 0, .slice none 0 0, .bool false]) w) := by
  have HNB : Hid (∀ ad wx, ad.spot = none → wx.cell? ad = some (.bool false) → Calls Tryz.prog 32 #[.int .u64 (k : Int), .slice (some ad) 1 1] wx (NewA ⟨true, (k + 63) / 64, []⟩ wx)) := Lib.hid (fun ad wx h1 h2 => newBA k hk ad 1 wx h1 h2)
  have H := Lib.hid h
  have HL := Lib.hid h.lt
  obtain ⟨n, hn⟩ : ∃ n, (k + 63) / 64 = n := ⟨_, rfl⟩
  rw [hn] at HNB ⊢
  clear h
  unfold stv
  simp only
  go_enter_defers Tryz.func29, Tryz.ntmps29
  go_wp2_with (go_at_call 32; refine (HNB.out _ _ ?_ ?_).mono ?_)
  · rfl
  · exact block_cell (b := w.heap.size + 1 + 1) (heap_alloc_new' _ _ _ (by rw [World.size_alloc, World.size_alloc])) rfl
  rintro e w2 ⟨t, u, F, rfl, hA, hS2, hF2⟩
  obtain ⟨m1, m2⟩ := step_made3 (w := w) (.cells #[.int .i64 1, .int .i64 0, .int .i64 0, .int .u64 (k : Int), .int .i64 0, .bool false] 40) (.cells #[.bool false, .int .u64 0, .slice none 0 0, .bool false] 44) (.cells #[.bool false] 4)
  have HM := Lib.hid (madeN (H.out.still m1) hl (Only.refl _ _) hA hS2 hF2)
  have HSC := Lib.hid (And.intro m1 m2)
  have n2 := hS2.obj m2 id
  clear m1 m2 hA hF2 hS2
  go_wp2_with (go_at_call 31; refine HM.out.mono ?_)
  intro e w3 h3
  have hrq : ¬ (w.heap.size + 1 = q ∨ At a (w.heap.size + 1)) := fun h => by
    have := HL.out (w.heap.size + 1) (h.imp id .inl); omega
  have HO2 := h3.2
  obtain ⟨_, _, _, _, _, ho, _⟩ := HO2
  have N3 : Hid (w3.heap[w.heap.size + 1]? = _) := Lib.hid (ho.obj HSC.out.2 hrq)
  have HFIN : Hid (∀ w', Only (fun k => k = w.heap.size + 1) w3 w' → MoreP q a l ⟨true, n, []⟩ (.agg #[.bool false, .int .u64 0, .slice none 0 0, .bool false]) w (.returned (.agg #[.bool false, .int .u64 0, .slice none 0 0, .bool false])) w') := Lib.hid (fun w' hw => more_end HL.out HSC.out.1 (by omega) (lt_of_heap HSC.out.2) h3 hw)
  obtain ⟨rfl, _⟩ := h3
  clear ho hrq HM HSC n2
  obtain ⟨s, hs⟩ : ∃ s, w.heap.size = s := ⟨_, rfl⟩
  rw [hs] at N3 HFIN ⊢
  obtain ⟨r, hr⟩ : ∃ r, s + 1 = r := ⟨_, rfl⟩
  rw [hr] at N3 HFIN ⊢
  have f1 : ∀ j, w3.frozen? ⟨r, j, none⟩ = false := fun j => block_free N3.out
  have d0 : w3.cell? ⟨r, 0, none⟩ = some (.bool false) := block_cell N3.out rfl
  have d1 : w3.cell? ⟨r, 1, none⟩ = some (.int .u64 0) := block_cell N3.out rfl
  have d2 : w3.cell? ⟨r, 2, none⟩ = some (.slice none 0 0) := block_cell N3.out rfl
  have d3 : w3.cell? ⟨r, 3, none⟩ = some (.bool false) := block_cell N3.out rfl
  go_wp2_with fail
  refine step_end rfl (stored4 N3.out _ _ _ _) (HFIN.out _ ?_)
  repeat (first | exact Only.refl _ _ | refine Only.setCell ?_ _ _ (fun _ => rfl))
set_option maxRecDepth 100000 in
set_option maxHeartbeats 1600000 in
theorem stepSparse (h : Sta w q a c l) (hl : l.length ≤ 1000000) :
    Calls Tryz.prog 29 #[.pointer (some ⟨q, 0, none⟩), stv { op := 2 }] w (MoreP q a l ⟨false, 0, []⟩ (.agg #[.bool false, .int .u64 0, .slice none 0 0, .bool false]) w) := by
  have H := Lib.hid h
  have HL := Lib.hid h.lt
  clear h
  unfold stv
  simp only
  go_enter_defers Tryz.func29, Tryz.ntmps29
  go_wp2_with (go_at_call 33; refine (newSA _).mono ?_)
  rintro e w2 ⟨t, u, F, rfl, hA, hS2, hF2⟩
  obtain ⟨m1, _, m2⟩ := step_made (w := w) (.cells #[.int .i64 2, .int .i64 0, .int .i64 0, .int .u64 0, .int .i64 0, .bool false] 40) (.cells #[.bool false, .int .u64 0, .slice none 0 0, .bool false] 44)
  have HM := Lib.hid (madeN (H.out.still m1) hl (Only.refl _ _) hA hS2 hF2)
  have HSC := Lib.hid (And.intro m1 m2)
  have n2 := hS2.obj m2 id
  clear m1 m2 hA hF2 hS2
  go_wp2_with (go_at_call 31; refine HM.out.mono ?_)
  intro e w3 h3
  have hrq : ¬ (w.heap.size + 1 = q ∨ At a (w.heap.size + 1)) := fun h => by
    have := HL.out (w.heap.size + 1) (h.imp id .inl); omega
  have HO2 := h3.2
  obtain ⟨_, _, _, _, _, ho, _⟩ := HO2
  have N3 : Hid (w3.heap[w.heap.size + 1]? = _) := Lib.hid (ho.obj HSC.out.2 hrq)
  have HFIN : Hid (∀ w', Only (fun k => k = w.heap.size + 1) w3 w' → MoreP q a l ⟨false, 0, []⟩ (.agg #[.bool false, .int .u64 0, .slice none 0 0, .bool false]) w (.returned (.agg #[.bool false, .int .u64 0, .slice none 0 0, .bool false])) w') := Lib.hid (fun w' hw => more_end HL.out HSC.out.1 (by omega) (lt_of_heap HSC.out.2) h3 hw)
  obtain ⟨rfl, _⟩ := h3
  clear ho hrq HM HSC n2
  obtain ⟨s, hs⟩ : ∃ s, w.heap.size = s := ⟨_, rfl⟩
  rw [hs] at N3 HFIN ⊢
  obtain ⟨r, hr⟩ : ∃ r, s + 1 = r := ⟨_, rfl⟩
  rw [hr] at N3 HFIN ⊢
  have f1 : ∀ j, w3.frozen? ⟨r, j, none⟩ = false := fun j => block_free N3.out
  have d0 : w3.cell? ⟨r, 0, none⟩ = some (.bool false) := block_cell N3.out rfl
  have d1 : w3.cell? ⟨r, 1, none⟩ = some (.int .u64 0) := block_cell N3.out rfl
  have d2 : w3.cell? ⟨r, 2, none⟩ = some (.slice none 0 0) := block_cell N3.out rfl
  have d3 : w3.cell? ⟨r, 3, none⟩ = some (.bool false) := block_cell N3.out rfl
  go_wp2_with fail
  refine step_end rfl (stored4 N3.out _ _ _ _) (HFIN.out _ ?_)
  repeat (first | exact Only.refl _ _ | refine Only.setCell ?_ _ _ (fun _ => rfl))
end
end Go.Proofs.YtacjkbljokjdkaaGreat.ba
namespace Go.Proofs.YtacjkbljokjdkaaGreat.ba
open Go.RowKit Go.Proofs.YtacjkbljokjdkaaGreat.base Go.Proofs.YtacjkbljokjdkaaGreat.heap Go.Proofs.YtacjkbljokjdkaaGreat.rows Go.Proofs.YtacjkbljokjdkaaGreat.bit Go.Proofs.YtacjkbljokjdkaaGreat.bs
set_option linter.unusedVariables false

/-- the value of an answer whose numbers stand at na -/
def anv (an : Ans) (na : Option Addr) (nc : Nat) : Value := .agg #[.bool an.yes, .int .u64 (an.n : Int), .slice na an.nums.length nc, .bool false]
/-- what a step leaves -/
def StepP (q : Nat) (a : Option Addr) (l : List It) (s' : List BA) (an : Ans) (w : World) (e : Ending) (w' : World) : Prop :=
  ∃ na nc a' c' l', e = .returned (anv an na nc) ∧ Sta w' q a' c' l' ∧ l'.map (·.d) = s' ∧ Only (Fo q a l) w w' ∧ (∀ k, Fo q a' l' k → Fo q a l k ∨ w.heap.size ≤ k) ∧
    Own 34 1 w' na an.nums.length nc (U an.nums) ∧ ∀ k, At na k → w.heap.size ≤ k ∧ ¬ Fo q a' l' k
/-- the step t, done on the arrays s, leaves s' and is answered by an -/
def Does (s : List BA) (t : Stp) (s' : List BA) (an : Ans) : Prop :=
  ∀ (w : World) (q c : Nat) (a : Option Addr) (l : List It), Sta w q a c l → l.map (·.d) = s → l.length ≤ 1000 → Calls Tryz.prog 29 #[.pointer (some ⟨q, 0, none⟩), stv t] w (StepP q a l s' an w)
theorem own_nil (w : World) : Own 34 1 w none ([] : List Nat).length 0 (U []) := Own.nil _ _ _

theorem get_of_map {l : List It} {s : List BA} {i : Nat} {d : BA} (h : l.map (·.d) = s) (hd : s[i]? = some d) : ∃ x, l[i]? = some x ∧ x.d = d := by
  subst h
  rw [List.getElem?_map] at hd
  cases hx : l[i]? with
  | none => rw [hx] at hd; cases hd
  | some x => rw [hx] at hd; exact ⟨x, rfl, by simpa using hd⟩
theorem map_set (l : List It) (i : Nat) (y : It) : (l.set i y).map (·.d) = (l.map (·.d)).set i y.d := by
  rw [List.map_set]

theorem Arr.dn {w : World} {v : Value} {d : BA} {F : Nat → Prop} (h : Arr w v d F) (hd : d.dense = true) : ∃ p a c ws lo hi any, v = .iface 80 (.pointer (some ⟨p, 0, none⟩)) ∧ F = Ft p a ∧ d.words = ws.length ∧ Dn w p a c ws lo hi any ∧ Rep (wf ws) d.set ∧ Ends ws lo hi any := by
  cases h with
  | dense p a c ws lo hi any l h hr he => exact ⟨p, a, c, ws, lo, hi, any, rfl, rfl, rfl, h, hr, he⟩
  | sparse p ab cb ai ci P l h hr => cases hd
theorem Arr.sp {w : World} {v : Value} {d : BA} {F : Nat → Prop} (h : Arr w v d F) (hd : d.dense = false) : ∃ p ab cb ai ci P, v = .iface 82 (.pointer (some ⟨p, 0, none⟩)) ∧ F = Fs p ab ai ∧ d.words = 0 ∧ Sp w p ab cb ai ci P ∧ Rep (wd P) d.set := by
  cases h with
  | dense p a c ws lo hi any l h hr he => cases hd
  | sparse p ab cb ai ci P l h hr => exact ⟨p, ab, cb, ai, ci, P, rfl, rfl, rfl, h, hr⟩

/-- a step that only asks -/
theorem does_ask {s : List BA} {w : World} {q c : Nat} {a : Option Addr} {l : List It} (h : Sta w q a c l) (hs : l.map (·.d) = s) (an : Ans) (hn : an.nums = []) {e : Ending} {w' : World} (hp : FV w (.agg #[.bool an.yes, .int .u64 (an.n : Int), .slice none 0 0, .bool false]) e w') : StepP q a l s an w e w' := by
  obtain ⟨rfl, hS⟩ := hp
  refine ⟨none, 0, a, c, l, by unfold anv; rw [hn]; rfl, h.still hS, hs, hS.mono (fun _ _ f => f.elim), fun k hk => .inl hk, by rw [hn]; exact own_nil _, fun k hk => hk.elim⟩
/-- a step by which an array turns -/
theorem does_turn {s : List BA} {w : World} {q c : Nat} {a : Option Addr} {l : List It} (h : Sta w q a c l) (hs : l.map (·.d) = s) (an : Ans) (hn : an.nums = []) {i : Nat} {x : It} {d' : BA} (hx : l[i]? = some x) {e : Ending} {w' : World} (hp : Turn (.agg #[.bool an.yes, .int .u64 (an.n : Int), .slice none 0 0, .bool false]) x.F x.v d' w e w') : StepP q a l (s.set i d') an w e w' := by
  obtain ⟨rfl, ho, F', hA, hF'⟩ := hp
  refine ⟨none, 0, a, c, l.set i ⟨x.v, d', F'⟩, by unfold anv; rw [hn]; rfl, h.set hx rfl hF' hA ho, by rw [map_set, hs], ho.mono (fun k _ hk => .inr (.inr ⟨x, List.mem_of_getElem? hx, hk⟩)), Fo.set hx hF', by rw [hn]; exact own_nil _, fun k hk => hk.elim⟩
/-- a step that makes an array -/
theorem does_more {s : List BA} {w : World} {q c : Nat} {a : Option Addr} {l : List It} (h : Sta w q a c l) (hs : l.map (·.d) = s) (an : Ans) (hn : an.nums = []) {d : BA} {e : Ending} {w' : World} (hp : MoreP q a l d (.agg #[.bool an.yes, .int .u64 (an.n : Int), .slice none 0 0, .bool false]) w e w') : StepP q a l (s ++ [d]) an w e w' := by
  obtain ⟨rfl, a', c', y, hd, hst, ho, hfa, hfy⟩ := hp
  refine ⟨none, 0, a', c', l ++ [y], by unfold anv; rw [hn]; rfl, hst, by rw [List.map_append, hs, ← hd]; rfl, ho.mono (fun k _ hk => hk.imp id .inl), ?_, by rw [hn]; exact own_nil _, fun k hk => hk.elim⟩
  rintro k (hk | hk | ⟨x, hx, hk⟩)
  · exact .inl (.inl hk)
  · exact (hfa k hk).imp (fun h => .inr (.inl h)) id
  · rcases List.mem_append.1 hx with hx | hx
    · exact .inl (.inr (.inr ⟨x, hx, hk⟩))
    · rw [List.mem_singleton] at hx
      subst hx
      exact .inr (hfy k hk)
/-- a step that lists numbers -/
theorem does_nums {s : List BA} {w : World} {q c : Nat} {a : Option Addr} {l : List It} (h : Sta w q a c l) (hs : l.map (·.d) = s) (L : List Nat) {e : Ending} {w' : World} (hp : NumsA L w e w') : StepP q a l s { nums := L } w e w' := by
  obtain ⟨an, cn, rfl, hown, hS, hf⟩ := hp
  exact ⟨an, cn, a, c, l, rfl, h.still hS, hs, hS.mono (fun _ _ f => f.elim), fun k hk => .inl hk, hown, fun k hk => ⟨hf k hk, fun h2 => absurd (h.lt k h2) (by have := hf k hk; omega)⟩⟩

theorem does_dense (s : List BA) (k : Nat) (hk : k ≤ 64000000) : Does s { op := 1, k := k } (s ++ [⟨true, (k + 63) / 64, []⟩]) {} :=
  fun w q c a l h hs hl => (stepDense h (by omega) k hk).mono fun e w' hp => does_more h hs {} rfl hp
theorem does_sparse (s : List BA) : Does s { op := 2 } (s ++ [⟨false, 0, []⟩]) {} :=
  fun w q c a l h hs hl => (stepSparse h (by omega)).mono fun e w' hp => does_more h hs {} rfl hp
end Go.Proofs.YtacjkbljokjdkaaGreat.ba
namespace Go.Proofs.YtacjkbljokjdkaaGreat.ba
open Go.RowKit Go.Proofs.YtacjkbljokjdkaaGreat.base Go.Proofs.YtacjkbljokjdkaaGreat.heap Go.Proofs.YtacjkbljokjdkaaGreat.rows Go.Proofs.YtacjkbljokjdkaaGreat.bit Go.Proofs.YtacjkbljokjdkaaGreat.bs
set_option linter.unusedVariables false

theorem set_nums {ws l : List Nat} (h : Rep (wf ws) l) : nums ws ws.length = l := (nums_rep ws).eq h
theorem lo_le {ws : List Nat} {lo hi : Nat} {any : Bool} (h : Ends ws lo hi any) : lo ≤ hi ∧ hi ≤ 64 * ws.length := ⟨h.1, h.2.1⟩
theorem rep_bit {ws l : List Nat} (h : Rep (wf ws) l) (k : Nat) : k ∈ l ↔ bit ws k = true := h.2 k
theorem any_set {ws l : List Nat} {lo hi : Nat} {any : Bool} (h : Rep (wf ws) l) (he : Ends ws lo hi any) : (!any) = l.isEmpty := by
  cases any with
  | false =>
    cases l with
    | nil => rfl
    | cons x l => have := (rep_bit h x).1 (by simp); rw [he.2.2.1 rfl x] at this; cases this
  | true =>
    cases l with
    | nil => have := (rep_bit h lo).2 (he.2.2.2 rfl).1.1; cases this
    | cons x l => rfl

section
variable {s : List BA} {i : Nat} {d : BA} (hd : s[i]? = some d) (hdd : d.dense = true)
include hd hdd
/-- the dense array that is asked -/
theorem dense_at {w : World} {q c : Nat} {a : Option Addr} {l : List It} (h : Sta w q a c l) (hs : l.map (·.d) = s) : ∃ p ab cb ws lo hi any, l[i]? = some ⟨.iface 80 (.pointer (some ⟨p, 0, none⟩)), d, Ft p ab⟩ ∧ d.words = ws.length ∧ Dn w p ab cb ws lo hi any ∧ Rep (wf ws) d.set ∧ Ends ws lo hi any := by
  obtain ⟨x, hx, rfl⟩ := get_of_map hs hd
  obtain ⟨v, d, F⟩ := x
  obtain ⟨p, ab, cb, ws, lo, hi, any, rfl, rfl, h1, h2, h3, h4⟩ := (h.get hx).dn hdd
  exact ⟨p, ab, cb, ws, lo, hi, any, hx, h1, h2, h3, h4⟩
theorem does_countD : Does s { op := 10, on := i } s { n := d.set.length } := by
  intro w q c a l h hs hl
  obtain ⟨p, ab, cb, ws, lo, hi, any, hx, h1, h2, h3, h4⟩ := dense_at hd hdd h hs
  refine (stepCount h i p d _ hx d.set.length ?_ (Lib.hid (fun wx hS => (countD (h2.still hS)).mono ?_))).mono fun e w' hp => does_ask h hs { n := d.set.length } rfl hp
  · rw [← set_nums h3]
    have := nums_len ws ws.length
    have := h2.sm
    omega
  · rintro e w' ⟨rfl, rfl⟩
    rw [set_nums h3]
    exact ⟨rfl, Only.refl _ _⟩
theorem does_capD : Does s { op := 9, on := i } s { n := 64 * d.words } := by
  intro w q c a l h hs hl
  obtain ⟨p, ab, cb, ws, lo, hi, any, hx, h1, h2, h3, h4⟩ := dense_at hd hdd h hs
  refine (stepCap h i p d _ hx (64 * d.words) (Lib.hid (fun wx hS => (capD (h2.still hS)).mono ?_))).mono fun e w' hp => does_ask h hs { n := 64 * d.words } rfl hp
  rintro e w' ⟨rfl, rfl⟩
  rw [h1]
  exact ⟨rfl, Only.refl _ _⟩
theorem does_emptyD : Does s { op := 15, on := i } s { yes := d.set.isEmpty } := by
  intro w q c a l h hs hl
  obtain ⟨p, ab, cb, ws, lo, hi, any, hx, h1, h2, h3, h4⟩ := dense_at hd hdd h hs
  refine (stepEmpty h i p d _ hx d.set.isEmpty (Lib.hid (fun wx hS => (emptyD (h2.still hS)).mono ?_))).mono fun e w' hp => does_ask h hs { yes := d.set.isEmpty } rfl hp
  rintro e w' ⟨rfl, rfl⟩
  rw [← any_set h3 h4]
  exact ⟨rfl, Only.refl _ _⟩
theorem does_numsD : Does s { op := 14, on := i } s { nums := d.set } := by
  intro w q c a l h hs hl
  obtain ⟨p, ab, cb, ws, lo, hi, any, hx, h1, h2, h3, h4⟩ := dense_at hd hdd h hs
  refine (stepNums h i p d _ hx d.set (Lib.hid (fun wx hS => ?_))).mono fun e w' hp => does_nums h hs d.set hp
  have := numsD (h2.still hS) h4.1 h4.2.1
  rw [set_nums h3] at this
  exact this
theorem does_setD (k : Nat) (hk : k < 64 * d.words) : Does s { op := 3, on := i, k := k } (s.set i { d with set := put d.set k }) { yes := true } := by
  intro w q c a l h hs hl
  obtain ⟨p, ab, cb, ws, lo, hi, any, hx, h1, h2, h3, h4⟩ := dense_at hd hdd h hs
  rw [h1] at hk
  refine (stepSet h i p d _ hx k { d with set := put d.set k } (Lib.hid (fun wx hS => (setD (h2.still hS) h4.1 k hk).mono ?_))).mono fun e w' hp => does_turn h hs { yes := true } rfl hx hp
  rintro e w' ⟨rfl, ho, lo', hi', hD, hf, ht⟩
  refine ⟨rfl, ho, Ft p ab, ?_, fun k hk => .inl hk⟩
  have hj : k / 64 < ws.length := by omega
  have hrep : Rep (wf (ws.set (k / 64) (ws.getD (k / 64) 0 ||| 2 ^ (k % 64)))) (put d.set k) := (rep_put h3 (put_asc h3.1 k) (fun x => put_mem)).congr (fun j => by
    unfold wf
    rw [List.getD_eq_getElem?_getD (l := List.set _ _ _), List.getElem?_set]
    by_cases e : j = k / 64
    · subst e; simp [hj]
    · have e' : ¬ k / 64 = j := fun h => e h.symm
      simp only [e, e', if_false]
      rw [List.getD_eq_getElem?_getD])
  have := Arr.dense p ab cb _ lo' hi' true _ hD hrep ?_
  · rw [List.length_set] at this
    have e : ({ d with set := put d.set k } : BA) = ⟨true, ws.length, put d.set k⟩ := by rw [← h1, ← hdd]
    rw [e]; exact this
  · have hb : ∀ j, bit (ws.set (k / 64) (ws.getD (k / 64) 0 ||| 2 ^ (k % 64))) j = true ↔ j = k ∨ bit ws j = true := fun j => by
      rw [← rep_bit hrep, put_mem, rep_bit h3]
    unfold Ends
    rw [List.length_set]
    cases any with
    | false =>
      obtain ⟨rfl, rfl⟩ := hf rfl
      have hnb := h4.2.2.1 rfl
      refine ⟨Nat.le_refl _, by omega, fun e => (by cases e), fun _ => ⟨⟨(hb _).2 (.inl rfl), fun j hj => ?_⟩, ⟨(hb _).2 (.inl rfl), fun j hj => ?_⟩⟩⟩
      · rcases (hb j).1 hj with rfl | h5
        · exact Nat.le_refl _
        · rw [hnb j] at h5; cases h5
      · rcases (hb j).1 hj with rfl | h5
        · exact Nat.le_refl _
        · rw [hnb j] at h5; cases h5
    | true =>
      obtain ⟨rfl, rfl⟩ := ht rfl
      obtain ⟨⟨l1, l2⟩, ⟨r1, r2⟩⟩ := h4.2.2.2 rfl
      have h5 := h4.1
      have h6 := h4.2.1
      refine ⟨by omega, by omega, fun e => (by cases e), fun _ => ⟨⟨?_, fun j hj => ?_⟩, ⟨?_, fun j hj => ?_⟩⟩⟩
      · rcases Nat.le_total lo k with h7 | h7
        · rw [Nat.min_eq_left h7]; exact (hb _).2 (.inr l1)
        · rw [Nat.min_eq_right h7]; exact (hb _).2 (.inl rfl)
      · rcases (hb j).1 hj with rfl | h8
        · omega
        · have := l2 j h8; omega
      · rcases Nat.le_total hi k with h7 | h7
        · rw [Nat.max_eq_right h7]; exact (hb _).2 (.inl rfl)
        · rw [Nat.max_eq_left h7]; exact (hb _).2 (.inr r1)
      · rcases (hb j).1 hj with rfl | h8
        · omega
        · have := r2 j h8; omega
end
end Go.Proofs.YtacjkbljokjdkaaGreat.ba
namespace Go.Proofs.YtacjkbljokjdkaaGreat.ba
open Go.RowKit Go.Proofs.YtacjkbljokjdkaaGreat.base Go.Proofs.YtacjkbljokjdkaaGreat.heap Go.Proofs.YtacjkbljokjdkaaGreat.rows Go.Proofs.YtacjkbljokjdkaaGreat.bit Go.Proofs.YtacjkbljokjdkaaGreat.bs
set_option linter.unusedVariables false
theorem wf_tab (f : Nat → Nat) (n j : Nat) : wf (tab f n n) j = if j < n then f j else 0 := by
  unfold wf; rw [tab_get]; simp
theorem ResD.arr {ws l : List Nat} (hr : Rep (wf ws) l) {w w' : World} {e : Ending} (h : ResD ws w e w') : NewA ⟨true, ws.length, l⟩ w e w' := by
  obtain ⟨p, a, c, lo, hi, any, rfl, hd, hf, hs, hn⟩ := h
  exact ⟨_, _, _, rfl, Arr.ofFin (w := w) hd hf hr, hs, hn⟩
/-- an array of one kind is asked for -/
theorem isDense (p : Nat) (wx : World) : (Instr.typeAssert (.iface 80 (.pointer (some ⟨p, 0, none⟩))) 57 80 true).run Tryz.prog wx = .ok (.tuple #[.pointer (some ⟨p, 0, none⟩), .bool true]) wx := by kernel_rfl
theorem notDense (p : Nat) (wx : World) : (Instr.typeAssert (.iface 82 (.pointer (some ⟨p, 0, none⟩))) 57 80 true).run Tryz.prog wx = .ok (.tuple #[.pointer none, .bool false]) wx := by kernel_rfl
theorem isSparse (p : Nat) (wx : World) : (Instr.typeAssert (.iface 82 (.pointer (some ⟨p, 0, none⟩))) 57 82 true).run Tryz.prog wx = .ok (.tuple #[.pointer (some ⟨p, 0, none⟩), .bool true]) wx := by kernel_rfl
theorem notSparse (p : Nat) (wx : World) : (Instr.typeAssert (.iface 80 (.pointer (some ⟨p, 0, none⟩))) 57 82 true).run Tryz.prog wx = .ok (.tuple #[.pointer none, .bool false]) wx := by kernel_rfl
theorem asDense (p : Nat) (wx : World) : (Instr.typeAssert (.iface 80 (.pointer (some ⟨p, 0, none⟩))) 57 80 false).run Tryz.prog wx = .ok (.pointer (some ⟨p, 0, none⟩)) wx := by kernel_rfl
theorem asSparse (p : Nat) (wx : World) : (Instr.typeAssert (.iface 82 (.pointer (some ⟨p, 0, none⟩))) 57 82 false).run Tryz.prog wx = .ok (.pointer (some ⟨p, 0, none⟩)) wx := by kernel_rfl
section
variable {w : World} {p1 c1 lo1 hi1 p2 c2 lo2 hi2 : Nat} {a1 a2 : Option Addr} {ws1 ws2 l1 l2 : List Nat} {any1 any2 : Bool}
set_option maxRecDepth 100000 in
set_option maxHeartbeats 1600000 in
theorem nandD (h1 : Dn w p1 a1 c1 ws1 lo1 hi1 any1) (h2 : Dn w p2 a2 c2 ws2 lo2 hi2 any2) (hle : ws1.length ≤ ws2.length) (r1 : Rep (wf ws1) l1) (r2 : Rep (wf ws2) l2) :
    Calls Tryz.prog 65 #[.pointer (some ⟨p1, 0, none⟩), .iface 80 (.pointer (some ⟨p2, 0, none⟩))] w (NewA ⟨true, ws1.length, nandL l1 l2⟩ w) := by
  have HN := Lib.hid (nandDD h1 h2 hle)
  have HF : Hid (∀ e w', ResD (tab (fun j => nandW (ws1.getD j 0) (ws2.getD j 0)) ws1.length ws1.length) w e w' → NewA ⟨true, ws1.length, nandL l1 l2⟩ w e w') := Lib.hid (fun e w' h => by
    have hs := nandL_spec r1.1 l2
    have hr : Rep (wf (tab (fun j => nandW (ws1.getD j 0) (ws2.getD j 0)) ws1.length ws1.length)) (nandL l1 l2) := (rep_nand (fun j => h1.ok.at j) (fun j => h2.ok.at j) r1 r2 hs.1 hs.2).congr (fun j => by
      rw [wf_tab]
      split
      · rfl
      · rw [show ws1.getD j 0 = 0 by rw [List.getD_eq_getElem?_getD, List.getElem?_eq_none (by omega)]; rfl]
        unfold nandW; simp)
    have := h.arr hr
    rw [tab_len] at this
    exact this)
  have hta := isDense p2
  clear h1 h2 hle r1 r2
  go_enter Tryz.func65, Tryz.ntmps65
  go_wp2_with fail
  refine HN.out.mono ?_
  intro e w1 hR
  have HR := Lib.hid (HF.out _ _ hR)
  obtain ⟨p, a, c, lo, hi, any, rfl, _⟩ := hR
  clear HN HF
  go_wp2_with fail
  go_ret
  exact HR.out
end
theorem does_nandD {s : List BA} {i j : Nat} {d e : BA} (hd : s[i]? = some d) (hdd : d.dense = true) (he : s[j]? = some e) (hed : e.dense = true) (hle : d.words ≤ e.words) : Does s { op := 13, on := i, by_ := j } (s ++ [⟨true, d.words, nandL d.set e.set⟩]) {} := by
  intro w q c a l h hs hl
  obtain ⟨p, ab, cb, ws, lo, hi, any, hx, h1, h2, h3, h4⟩ := dense_at hd hdd h hs
  obtain ⟨p', ab', cb', ws', lo', hi', any', hx', h1', h2', h3', h4'⟩ := dense_at he hed h hs
  refine (stepNand h (by omega) i j p d ⟨true, d.words, nandL d.set e.set⟩ _ hx _ hx' (Lib.hid (fun wx hS => ?_))).mono fun e w' hp => does_more h hs {} rfl hp
  rw [h1]
  exact nandD (h2.still hS) (h2'.still hS) (by omega) h3 h3'
end Go.Proofs.YtacjkbljokjdkaaGreat.ba
