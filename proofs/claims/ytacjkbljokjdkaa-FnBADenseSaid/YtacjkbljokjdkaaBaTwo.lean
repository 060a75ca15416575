/-
  arrays.two: what two arrays make.
-/
import Derived.Test.YtacjkbljokjdkaaBaAsk
namespace Go.Proofs.Ytacjkbljokjdkaa.ba
open Go.RowKit Go.Proofs.Ytacjkbljokjdkaa.base Go.Proofs.Ytacjkbljokjdkaa.heap Go.Proofs.Ytacjkbljokjdkaa.rows Go.Proofs.Ytacjkbljokjdkaa.bit Go.Proofs.Ytacjkbljokjdkaa.bs
set_option linter.unusedVariables false

theorem Arr.val {w : World} {v : Value} {d : BA} {F : Nat → Prop} (h : Arr w v d F) : ∃ t u, v = .iface t u := by
  cases h <;> exact ⟨_, _, rfl⟩
/-- a new array is handed back -/
def NewA (d : BA) (w : World) (e : Ending) (w' : World) : Prop :=
  ∃ t u F, e = .returned (.iface t u) ∧ Arr w' (.iface t u) d F ∧ Same w w' ∧ ∀ k, F k → w.heap.size ≤ k
/-- a further array stands behind the others -/
def MoreP (q : Nat) (a : Option Addr) (l : List It) (d : BA) (v : Value) (w : World) (e : Ending) (w' : World) : Prop :=
  e = .returned v ∧ ∃ a' c' y, y.d = d ∧ Sta w' q a' c' (l ++ [y]) ∧ Only (fun k => k = q ∨ At a k) w w' ∧ (∀ k, At a' k → At a k ∨ w.heap.size ≤ k) ∧ ∀ k, y.F k → w.heap.size ≤ k
section
variable {w : World} {q c : Nat} {a : Option Addr} {l : List It}
/-- a new array is kept -/
theorem madeN (h : Sta w q a c l) (hl : l.length ≤ 1000000) {d : BA} {t : TypeId} {u : Value} {F : Nat → Prop} {w1 w2 : World} (hs : Same w w1) (hA : Arr w2 (.iface t u) d F) (hs2 : Same w1 w2) (hF : ∀ k, F k → w1.heap.size ≤ k) :
    Calls Try.prog 26 #[.pointer (some ⟨q, 0, none⟩), .iface t u] w2 (MoreP q a l d (.tuple #[]) w) := by
  have hs3 := Same.trans hs hs2
  refine (madeA (h.still hs3) hl ⟨.iface t u, d, F⟩ t u rfl hA (fun k hk hF' => ?_)).mono ?_
  · have h1 := h.lt k hk
    have h2 := hF k hF'
    have h3 := hs.size
    omega
  · rintro e w' ⟨rfl, a', c', hst, ho, hfr⟩
    refine ⟨rfl, a', c', ⟨.iface t u, d, F⟩, rfl, hst, (hs3.mono (fun _ _ f => f.elim)).trans ho (fun _ _ h => h), fun k hk => ?_, fun k hk => Nat.le_trans hs.size (hF k hk)⟩
    exact (hfr k hk).imp id (fun h => Nat.le_trans hs3.size h)
set_option maxRecDepth 100000 in
set_option maxHeartbeats 1600000 in
theorem twoOr (h : Sta w q a c l) (hl : l.length ≤ 1000000) (i j p : Nat) (r : Nat) (d d' : BA) (F : Nat → Prop) (y : It) (hy : l[j]? = some y)
    (HC : Hid (∀ wx, Same w wx → Calls Try.prog 61 #[.pointer (some ⟨p, 0, none⟩), y.v] wx (NewA d' wx))) :
    Calls Try.prog 30 #[.pointer (some ⟨q, 0, none⟩), stv { op := 11, on := i, by_ := j }, .iface 85 (.pointer (some ⟨p, 0, none⟩)), .pointer (some ⟨r, 0, none⟩)] w (MoreP q a l d' (.tuple #[]) w) := by
  obtain ⟨t, u, hv⟩ : ∃ t u, y.v = .iface t u := (h.get hy).val
  rw [hv] at HC
  have HAT : Hid (∀ wx, Same w wx → Calls Try.prog 29 #[.pointer (some ⟨q, 0, none⟩), .int .i64 (j : Int)] wx (FV wx (.iface t u))) := Lib.hid (fun wx hS => by
    have := atA (h.still hS) j _ hy
    rw [hv] at this
    exact this)
  have hmth : ∀ wx, (method 255 85 (.pointer (some ⟨p, 0, none⟩)) "Or").run Try.prog wx = .ok (61, .pointer (some ⟨p, 0, none⟩)) wx := by intro wx; kernel_rfl
  have H := Lib.hid h
  clear h hy hv
  unfold stv
  simp only
  go_enter Try.func30, Try.ntmps30
  go_wp2_with (go_at_call 29; refine (HAT.out _ ((Only.refl _ _).alloc _)).mono ?_)
  rintro e w1 ⟨rfl, hS1⟩
  have n1 := hS1.obj (heap_alloc_new w (.cells #[.int .i64 11, .int .i64 (i : Int), .int .i64 (j : Int), .int .u64 0, .int .i64 0, .bool false] 27)) id
  have HS1 : Hid (Same w w1) := Lib.hid (Same.trans ((Only.refl _ _).alloc _) hS1)
  obtain ⟨s, hs⟩ : ∃ s, w.heap.size = s := ⟨_, rfl⟩
  rw [hs] at n1
  rw [hs]
  have c0 : w1.cell? ⟨s, 0, none⟩ = some (.int .i64 11) := block_cell n1 rfl
  clear hS1 n1 HAT
  go_wp2_with (go_at_call 61; refine (HC.out _ HS1.out).mono ?_)
  rintro e w2 ⟨t2, u2, F2, rfl, hA, hS2, hF2⟩
  have HM := Lib.hid (madeN H.out hl HS1.out hA hS2 hF2)
  clear hA hS2 hF2
  go_wp2_with (go_at_call 26; refine HM.out.mono ?_)
  rintro e w3 ⟨rfl, h3⟩
  have H3 := Lib.hid h3
  clear h3
  go_wp2_with fail
  go_end0
  exact ⟨rfl, H3.out⟩
set_option maxRecDepth 100000 in
set_option maxHeartbeats 1600000 in
theorem twoOrS (h : Sta w q a c l) (hl : l.length ≤ 1000000) (i j p : Nat) (r : Nat) (d d' : BA) (F : Nat → Prop) (y : It) (hy : l[j]? = some y)
    (HC : Hid (∀ wx, Same w wx → Calls Try.prog 104 #[.pointer (some ⟨p, 0, none⟩), y.v] wx (NewA d' wx))) :
    Calls Try.prog 30 #[.pointer (some ⟨q, 0, none⟩), stv { op := 11, on := i, by_ := j }, .iface 87 (.pointer (some ⟨p, 0, none⟩)), .pointer (some ⟨r, 0, none⟩)] w (MoreP q a l d' (.tuple #[]) w) := by
  obtain ⟨t, u, hv⟩ : ∃ t u, y.v = .iface t u := (h.get hy).val
  rw [hv] at HC
  have HAT : Hid (∀ wx, Same w wx → Calls Try.prog 29 #[.pointer (some ⟨q, 0, none⟩), .int .i64 (j : Int)] wx (FV wx (.iface t u))) := Lib.hid (fun wx hS => by
    have := atA (h.still hS) j _ hy
    rw [hv] at this
    exact this)
  have hmth : ∀ wx, (method 255 87 (.pointer (some ⟨p, 0, none⟩)) "Or").run Try.prog wx = .ok (104, .pointer (some ⟨p, 0, none⟩)) wx := by intro wx; kernel_rfl
  have H := Lib.hid h
  clear h hy hv
  unfold stv
  simp only
  go_enter Try.func30, Try.ntmps30
  go_wp2_with (go_at_call 29; refine (HAT.out _ ((Only.refl _ _).alloc _)).mono ?_)
  rintro e w1 ⟨rfl, hS1⟩
  have n1 := hS1.obj (heap_alloc_new w (.cells #[.int .i64 11, .int .i64 (i : Int), .int .i64 (j : Int), .int .u64 0, .int .i64 0, .bool false] 27)) id
  have HS1 : Hid (Same w w1) := Lib.hid (Same.trans ((Only.refl _ _).alloc _) hS1)
  obtain ⟨s, hs⟩ : ∃ s, w.heap.size = s := ⟨_, rfl⟩
  rw [hs] at n1
  rw [hs]
  have c0 : w1.cell? ⟨s, 0, none⟩ = some (.int .i64 11) := block_cell n1 rfl
  clear hS1 n1 HAT
  go_wp2_with (go_at_call 104; refine (HC.out _ HS1.out).mono ?_)
  rintro e w2 ⟨t2, u2, F2, rfl, hA, hS2, hF2⟩
  have HM := Lib.hid (madeN H.out hl HS1.out hA hS2 hF2)
  clear hA hS2 hF2
  go_wp2_with (go_at_call 26; refine HM.out.mono ?_)
  rintro e w3 ⟨rfl, h3⟩
  have H3 := Lib.hid h3
  clear h3
  go_wp2_with fail
  go_end0
  exact ⟨rfl, H3.out⟩
set_option maxRecDepth 100000 in
set_option maxHeartbeats 1600000 in
theorem twoAnd (h : Sta w q a c l) (hl : l.length ≤ 1000000) (i j p : Nat) (r : Nat) (d d' : BA) (F : Nat → Prop) (y : It) (hy : l[j]? = some y)
    (HC : Hid (∀ wx, Same w wx → Calls Try.prog 50 #[.pointer (some ⟨p, 0, none⟩), y.v] wx (NewA d' wx))) :
    Calls Try.prog 30 #[.pointer (some ⟨q, 0, none⟩), stv { op := 12, on := i, by_ := j }, .iface 85 (.pointer (some ⟨p, 0, none⟩)), .pointer (some ⟨r, 0, none⟩)] w (MoreP q a l d' (.tuple #[]) w) := by
  obtain ⟨t, u, hv⟩ : ∃ t u, y.v = .iface t u := (h.get hy).val
  rw [hv] at HC
  have HAT : Hid (∀ wx, Same w wx → Calls Try.prog 29 #[.pointer (some ⟨q, 0, none⟩), .int .i64 (j : Int)] wx (FV wx (.iface t u))) := Lib.hid (fun wx hS => by
    have := atA (h.still hS) j _ hy
    rw [hv] at this
    exact this)
  have hmth : ∀ wx, (method 255 85 (.pointer (some ⟨p, 0, none⟩)) "And").run Try.prog wx = .ok (50, .pointer (some ⟨p, 0, none⟩)) wx := by intro wx; kernel_rfl
  have H := Lib.hid h
  clear h hy hv
  unfold stv
  simp only
  go_enter Try.func30, Try.ntmps30
  go_wp2_with (go_at_call 29; refine (HAT.out _ ((Only.refl _ _).alloc _)).mono ?_)
  rintro e w1 ⟨rfl, hS1⟩
  have n1 := hS1.obj (heap_alloc_new w (.cells #[.int .i64 12, .int .i64 (i : Int), .int .i64 (j : Int), .int .u64 0, .int .i64 0, .bool false] 27)) id
  have HS1 : Hid (Same w w1) := Lib.hid (Same.trans ((Only.refl _ _).alloc _) hS1)
  obtain ⟨s, hs⟩ : ∃ s, w.heap.size = s := ⟨_, rfl⟩
  rw [hs] at n1
  rw [hs]
  have c0 : w1.cell? ⟨s, 0, none⟩ = some (.int .i64 12) := block_cell n1 rfl
  clear hS1 n1 HAT
  go_wp2_with (go_at_call 50; refine (HC.out _ HS1.out).mono ?_)
  rintro e w2 ⟨t2, u2, F2, rfl, hA, hS2, hF2⟩
  have HM := Lib.hid (madeN H.out hl HS1.out hA hS2 hF2)
  clear hA hS2 hF2
  go_wp2_with (go_at_call 26; refine HM.out.mono ?_)
  rintro e w3 ⟨rfl, h3⟩
  have H3 := Lib.hid h3
  clear h3
  go_wp2_with fail
  go_end0
  exact ⟨rfl, H3.out⟩
set_option maxRecDepth 100000 in
set_option maxHeartbeats 1600000 in
theorem twoAndS (h : Sta w q a c l) (hl : l.length ≤ 1000000) (i j p : Nat) (r : Nat) (d d' : BA) (F : Nat → Prop) (y : It) (hy : l[j]? = some y)
    (HC : Hid (∀ wx, Same w wx → Calls Try.prog 94 #[.pointer (some ⟨p, 0, none⟩), y.v] wx (NewA d' wx))) :
    Calls Try.prog 30 #[.pointer (some ⟨q, 0, none⟩), stv { op := 12, on := i, by_ := j }, .iface 87 (.pointer (some ⟨p, 0, none⟩)), .pointer (some ⟨r, 0, none⟩)] w (MoreP q a l d' (.tuple #[]) w) := by
  obtain ⟨t, u, hv⟩ : ∃ t u, y.v = .iface t u := (h.get hy).val
  rw [hv] at HC
  have HAT : Hid (∀ wx, Same w wx → Calls Try.prog 29 #[.pointer (some ⟨q, 0, none⟩), .int .i64 (j : Int)] wx (FV wx (.iface t u))) := Lib.hid (fun wx hS => by
    have := atA (h.still hS) j _ hy
    rw [hv] at this
    exact this)
  have hmth : ∀ wx, (method 255 87 (.pointer (some ⟨p, 0, none⟩)) "And").run Try.prog wx = .ok (94, .pointer (some ⟨p, 0, none⟩)) wx := by intro wx; kernel_rfl
  have H := Lib.hid h
  clear h hy hv
  unfold stv
  simp only
  go_enter Try.func30, Try.ntmps30
  go_wp2_with (go_at_call 29; refine (HAT.out _ ((Only.refl _ _).alloc _)).mono ?_)
  rintro e w1 ⟨rfl, hS1⟩
  have n1 := hS1.obj (heap_alloc_new w (.cells #[.int .i64 12, .int .i64 (i : Int), .int .i64 (j : Int), .int .u64 0, .int .i64 0, .bool false] 27)) id
  have HS1 : Hid (Same w w1) := Lib.hid (Same.trans ((Only.refl _ _).alloc _) hS1)
  obtain ⟨s, hs⟩ : ∃ s, w.heap.size = s := ⟨_, rfl⟩
  rw [hs] at n1
  rw [hs]
  have c0 : w1.cell? ⟨s, 0, none⟩ = some (.int .i64 12) := block_cell n1 rfl
  clear hS1 n1 HAT
  go_wp2_with (go_at_call 94; refine (HC.out _ HS1.out).mono ?_)
  rintro e w2 ⟨t2, u2, F2, rfl, hA, hS2, hF2⟩
  have HM := Lib.hid (madeN H.out hl HS1.out hA hS2 hF2)
  clear hA hS2 hF2
  go_wp2_with (go_at_call 26; refine HM.out.mono ?_)
  rintro e w3 ⟨rfl, h3⟩
  have H3 := Lib.hid h3
  clear h3
  go_wp2_with fail
  go_end0
  exact ⟨rfl, H3.out⟩
set_option maxRecDepth 100000 in
set_option maxHeartbeats 1600000 in
theorem twoNand (h : Sta w q a c l) (hl : l.length ≤ 1000000) (i j p : Nat) (r : Nat) (d d' : BA) (F : Nat → Prop) (y : It) (hy : l[j]? = some y)
    (HC : Hid (∀ wx, Same w wx → Calls Try.prog 60 #[.pointer (some ⟨p, 0, none⟩), y.v] wx (NewA d' wx))) :
    Calls Try.prog 30 #[.pointer (some ⟨q, 0, none⟩), stv { op := 13, on := i, by_ := j }, .iface 85 (.pointer (some ⟨p, 0, none⟩)), .pointer (some ⟨r, 0, none⟩)] w (MoreP q a l d' (.tuple #[]) w) := by
  obtain ⟨t, u, hv⟩ : ∃ t u, y.v = .iface t u := (h.get hy).val
  rw [hv] at HC
  have HAT : Hid (∀ wx, Same w wx → Calls Try.prog 29 #[.pointer (some ⟨q, 0, none⟩), .int .i64 (j : Int)] wx (FV wx (.iface t u))) := Lib.hid (fun wx hS => by
    have := atA (h.still hS) j _ hy
    rw [hv] at this
    exact this)
  have hmth : ∀ wx, (method 255 85 (.pointer (some ⟨p, 0, none⟩)) "Nand").run Try.prog wx = .ok (60, .pointer (some ⟨p, 0, none⟩)) wx := by intro wx; kernel_rfl
  have H := Lib.hid h
  clear h hy hv
  unfold stv
  simp only
  go_enter Try.func30, Try.ntmps30
  go_wp2_with (go_at_call 29; refine (HAT.out _ ((Only.refl _ _).alloc _)).mono ?_)
  rintro e w1 ⟨rfl, hS1⟩
  have n1 := hS1.obj (heap_alloc_new w (.cells #[.int .i64 13, .int .i64 (i : Int), .int .i64 (j : Int), .int .u64 0, .int .i64 0, .bool false] 27)) id
  have HS1 : Hid (Same w w1) := Lib.hid (Same.trans ((Only.refl _ _).alloc _) hS1)
  obtain ⟨s, hs⟩ : ∃ s, w.heap.size = s := ⟨_, rfl⟩
  rw [hs] at n1
  rw [hs]
  have c0 : w1.cell? ⟨s, 0, none⟩ = some (.int .i64 13) := block_cell n1 rfl
  clear hS1 n1 HAT
  go_wp2_with (go_at_call 60; refine (HC.out _ HS1.out).mono ?_)
  rintro e w2 ⟨t2, u2, F2, rfl, hA, hS2, hF2⟩
  have HM := Lib.hid (madeN H.out hl HS1.out hA hS2 hF2)
  clear hA hS2 hF2
  go_wp2_with (go_at_call 26; refine HM.out.mono ?_)
  rintro e w3 ⟨rfl, h3⟩
  have H3 := Lib.hid h3
  clear h3
  go_wp2_with fail
  go_end0
  exact ⟨rfl, H3.out⟩
set_option maxRecDepth 100000 in
set_option maxHeartbeats 1600000 in
theorem twoNandS (h : Sta w q a c l) (hl : l.length ≤ 1000000) (i j p : Nat) (r : Nat) (d d' : BA) (F : Nat → Prop) (y : It) (hy : l[j]? = some y)
    (HC : Hid (∀ wx, Same w wx → Calls Try.prog 103 #[.pointer (some ⟨p, 0, none⟩), y.v] wx (NewA d' wx))) :
    Calls Try.prog 30 #[.pointer (some ⟨q, 0, none⟩), stv { op := 13, on := i, by_ := j }, .iface 87 (.pointer (some ⟨p, 0, none⟩)), .pointer (some ⟨r, 0, none⟩)] w (MoreP q a l d' (.tuple #[]) w) := by
  obtain ⟨t, u, hv⟩ : ∃ t u, y.v = .iface t u := (h.get hy).val
  rw [hv] at HC
  have HAT : Hid (∀ wx, Same w wx → Calls Try.prog 29 #[.pointer (some ⟨q, 0, none⟩), .int .i64 (j : Int)] wx (FV wx (.iface t u))) := Lib.hid (fun wx hS => by
    have := atA (h.still hS) j _ hy
    rw [hv] at this
    exact this)
  have hmth : ∀ wx, (method 255 87 (.pointer (some ⟨p, 0, none⟩)) "Nand").run Try.prog wx = .ok (103, .pointer (some ⟨p, 0, none⟩)) wx := by intro wx; kernel_rfl
  have H := Lib.hid h
  clear h hy hv
  unfold stv
  simp only
  go_enter Try.func30, Try.ntmps30
  go_wp2_with (go_at_call 29; refine (HAT.out _ ((Only.refl _ _).alloc _)).mono ?_)
  rintro e w1 ⟨rfl, hS1⟩
  have n1 := hS1.obj (heap_alloc_new w (.cells #[.int .i64 13, .int .i64 (i : Int), .int .i64 (j : Int), .int .u64 0, .int .i64 0, .bool false] 27)) id
  have HS1 : Hid (Same w w1) := Lib.hid (Same.trans ((Only.refl _ _).alloc _) hS1)
  obtain ⟨s, hs⟩ : ∃ s, w.heap.size = s := ⟨_, rfl⟩
  rw [hs] at n1
  rw [hs]
  have c0 : w1.cell? ⟨s, 0, none⟩ = some (.int .i64 13) := block_cell n1 rfl
  clear hS1 n1 HAT
  go_wp2_with (go_at_call 103; refine (HC.out _ HS1.out).mono ?_)
  rintro e w2 ⟨t2, u2, F2, rfl, hA, hS2, hF2⟩
  have HM := Lib.hid (madeN H.out hl HS1.out hA hS2 hF2)
  clear hA hS2 hF2
  go_wp2_with (go_at_call 26; refine HM.out.mono ?_)
  rintro e w3 ⟨rfl, h3⟩
  have H3 := Lib.hid h3
  clear h3
  go_wp2_with fail
  go_end0
  exact ⟨rfl, H3.out⟩
end
end Go.Proofs.Ytacjkbljokjdkaa.ba
