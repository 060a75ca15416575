/-
  The hash of a piece of data: the four numbers hang on the bytes alone. What they are is left open.
-/
import Derived.Test.YtpiajkabikbdnaaBlLaw
namespace Go.Proofs.Ytpiajkabikbdnaa.bs
open Go.RowKit Go.Proofs.Ytpiajkabikbdnaa.base Go.Proofs.Ytpiajkabikbdnaa.heap Go.Proofs.Ytpiajkabikbdnaa.bit
set_option linter.unusedVariables false

set_option maxHeartbeats 800000 in
theorem fmix_at (x : Int) : ∃ y : Int, ∀ w, Calls Try.prog 75 #[.int .u64 x] w fun e w' => e = .returned (.int .u64 y) ∧ w' = w := by
  apply Exists.intro
  intro w
  go_enter Try.func75, Try.ntmps75
  go_wp2
  go_ret
  exact ⟨rfl, rfl⟩
theorem fmix : ∃ f : Int → Int, ∀ x w, Calls Try.prog 75 #[.int .u64 x] w fun e w' => e = .returned (.int .u64 (f x)) ∧ w' = w := Classical.skolem.1 fmix_at

set_option maxHeartbeats 800000 in
theorem rot_31_at (x : Int) : ∃ y : Int, ∀ w, Calls Try.prog 74 #[.int .u64 x, .int .i64 31] w fun e w' => e = .returned (.int .u64 y) ∧ w' = w := by
  apply Exists.intro
  intro w
  have hb : bits .and .u64 31 63 = 31 := by decide
  go_enter Try.func74, Try.ntmps74
  go_wp2
  go_ret
  exact ⟨rfl, rfl⟩
theorem rot_31 : ∃ f : Int → Int, ∀ x w, Calls Try.prog 74 #[.int .u64 x, .int .i64 31] w fun e w' => e = .returned (.int .u64 (f x)) ∧ w' = w := Classical.skolem.1 rot_31_at

set_option maxHeartbeats 800000 in
theorem rot_27_at (x : Int) : ∃ y : Int, ∀ w, Calls Try.prog 74 #[.int .u64 x, .int .i64 27] w fun e w' => e = .returned (.int .u64 y) ∧ w' = w := by
  apply Exists.intro
  intro w
  have hb : bits .and .u64 27 63 = 27 := by decide
  go_enter Try.func74, Try.ntmps74
  go_wp2
  go_ret
  exact ⟨rfl, rfl⟩
theorem rot_27 : ∃ f : Int → Int, ∀ x w, Calls Try.prog 74 #[.int .u64 x, .int .i64 27] w fun e w' => e = .returned (.int .u64 (f x)) ∧ w' = w := Classical.skolem.1 rot_27_at

set_option maxHeartbeats 800000 in
theorem rot_33_at (x : Int) : ∃ y : Int, ∀ w, Calls Try.prog 74 #[.int .u64 x, .int .i64 33] w fun e w' => e = .returned (.int .u64 y) ∧ w' = w := by
  apply Exists.intro
  intro w
  have hb : bits .and .u64 33 63 = 33 := by decide
  go_enter Try.func74, Try.ntmps74
  go_wp2
  go_ret
  exact ⟨rfl, rfl⟩
theorem rot_33 : ∃ f : Int → Int, ∀ x w, Calls Try.prog 74 #[.int .u64 x, .int .i64 33] w fun e w' => e = .returned (.int .u64 (f x)) ∧ w' = w := Classical.skolem.1 rot_33_at

/-- a slice of bytes that is read -/
def By (l : List Nat) : List Value := l.map fun n : Nat => Value.int .u8 (n : Int)
def RY (w : World) (a : Option Addr) (n cap : Nat) (l : List Nat) : Prop := Rd 1 w a n cap (By l) ∧ l.length = n
theorem By_get (l : List Nat) (k : Nat) (hk : k < l.length) : (By l)[k]? = some (.int .u8 (l.getD k 0 : Nat)) := by simp [By, hk]
theorem RY.at {w : World} {a : Option Addr} {n cap : Nat} {l : List Nat} (h : RY w a n cap l) (h0 : 0 < n) :
    ∃ b off, a = some ⟨b, off, none⟩ ∧ b < w.heap.size ∧ ∀ i, i < n → w.cell? ⟨b, off + i, none⟩ = some (.int .u8 (l.getD i 0 : Nat)) := by
  obtain ⟨b, off, ha, hb, hc⟩ := h.1.cells h0
  exact ⟨b, off, ha, hb, fun i hi => hc i _ (By_get l i (by rw [h.2]; exact hi))⟩
theorem RY.keep {w w' : World} {a : Option Addr} {n cap : Nat} {l : List Nat} {S : Nat → Prop} (h : RY w a n cap l) (ho : Only S w w') (hn : ∀ k, At a k → ¬ S k) : RY w' a n cap l := ⟨h.1.keep ho hn, h.2⟩

set_option maxRecDepth 100000 in
set_option maxHeartbeats 1600000 in
theorem le64_at (l : List Nat) : ∃ y : Int, ∀ (w : World) (a : Option Addr) (n cap : Nat), 8 ≤ n → RY w a n cap l → Calls Try.prog 70 #[.agg #[], .slice a n cap] w fun e w' => e = .returned (.int .u64 y) ∧ Same w w' := by
  apply Exists.intro
  intro w a n cap hn h
  obtain ⟨b, off, rfl, hb, hc⟩ := h.at (by omega)
  have hbd := h.1.bound
  have n0 : 0 < n := by omega
  have i0 : (0 : Int) < (n : Int) := by omega
  have n1 : 1 < n := by omega
  have i1 : (1 : Int) < (n : Int) := by omega
  have n2 : 2 < n := by omega
  have i2 : (2 : Int) < (n : Int) := by omega
  have n3 : 3 < n := by omega
  have i3 : (3 : Int) < (n : Int) := by omega
  have n4 : 4 < n := by omega
  have i4 : (4 : Int) < (n : Int) := by omega
  have n5 : 5 < n := by omega
  have i5 : (5 : Int) < (n : Int) := by omega
  have n6 : 6 < n := by omega
  have i6 : (6 : Int) < (n : Int) := by omega
  have n7 : 7 < n := by omega
  have i7 : (7 : Int) < (n : Int) := by omega
  have c0 : w.cell? ⟨b, off, none⟩ = some (.int .u8 (l.getD 0 0 : Nat)) := hc 0 (by omega)
  have c1 := hc 1 (by omega)
  have c2 := hc 2 (by omega)
  have c3 := hc 3 (by omega)
  have c4 := hc 4 (by omega)
  have c5 := hc 5 (by omega)
  have c6 := hc 6 (by omega)
  have c7 := hc 7 (by omega)
  clear h hc
  go_enter Try.func70, Try.ntmps70
  go_wp2_with fail
  go_quiet (fail)
  go_wp2
  go_ret
  exact ⟨rfl, ((Only.refl _ w).alloc _).drewN _⟩
set_option maxRecDepth 100000 in
set_option maxHeartbeats 1600000 in
theorem le32_at (l : List Nat) : ∃ y : Int, ∀ (w : World) (a : Option Addr) (n cap : Nat), 4 ≤ n → RY w a n cap l → Calls Try.prog 71 #[.agg #[], .slice a n cap] w fun e w' => e = .returned (.int .u32 y) ∧ Same w w' := by
  apply Exists.intro
  intro w a n cap hn h
  obtain ⟨b, off, rfl, hb, hc⟩ := h.at (by omega)
  have hbd := h.1.bound
  have n0 : 0 < n := by omega
  have i0 : (0 : Int) < (n : Int) := by omega
  have n1 : 1 < n := by omega
  have i1 : (1 : Int) < (n : Int) := by omega
  have n2 : 2 < n := by omega
  have i2 : (2 : Int) < (n : Int) := by omega
  have n3 : 3 < n := by omega
  have i3 : (3 : Int) < (n : Int) := by omega
  have c0 : w.cell? ⟨b, off, none⟩ = some (.int .u8 (l.getD 0 0 : Nat)) := hc 0 (by omega)
  have c1 := hc 1 (by omega)
  have c2 := hc 2 (by omega)
  have c3 := hc 3 (by omega)
  clear h hc
  go_enter Try.func71, Try.ntmps71
  go_wp2_with fail
  go_quiet (fail)
  go_wp2
  go_ret
  exact ⟨rfl, ((Only.refl _ w).alloc _).drewN _⟩

/-- the number of a block of bytes -/
theorem le64 : ∃ f : List Nat → Int, ∀ l w a n cap, 8 ≤ n → RY w a n cap l → Calls Try.prog 70 #[.agg #[], .slice a n cap] w fun e w' => e = .returned (.int .u64 (f l)) ∧ Same w w' := Classical.skolem.1 le64_at
theorem le32 : ∃ f : List Nat → Int, ∀ l w a n cap, 4 ≤ n → RY w a n cap l → Calls Try.prog 71 #[.agg #[], .slice a n cap] w fun e w' => e = .returned (.int .u32 (f l)) ∧ Same w w' := Classical.skolem.1 le32_at

/-- the running hash in memory -/
def D (w : World) (p : Nat) (h : Int × Int) : Prop := w.heap[p]? = some (.cells #[.int .u64 h.1, .int .u64 h.2] 95 (0, 0))
theorem D.cells {w : World} {p : Nat} {h : Int × Int} (d : D w p h) : w.cell? ⟨p, 0, none⟩ = some (.int .u64 h.1) ∧ w.cell? ⟨p, 1, none⟩ = some (.int .u64 h.2) ∧ w.frozen? ⟨p, 0, none⟩ = false ∧ w.frozen? ⟨p, 1, none⟩ = false :=
  ⟨block_cell d rfl, block_cell d rfl, block_free d, block_free d⟩
theorem D.keep {w w' : World} {p : Nat} {h : Int × Int} (d : D w p h) (ho : Same w w') : D w' p h := still ho d
theorem D.put {w : World} {p : Nat} {h : Int × Int} (d : D w p h) (x y : Int) : D ((w.setCell ⟨p, 0, none⟩ (.int .u64 x)).setCell ⟨p, 1, none⟩ (.int .u64 y)) p (x, y) := setCell_heap (setCell_heap d 0 _) 1 _
theorem D.only {w : World} {p : Nat} (x y : Value) : Only (fun k => k = p) w ((w.setCell ⟨p, 0, none⟩ x).setCell ⟨p, 1, none⟩ y) := ((Only.refl (fun k => k = p) w).setCell _ _ (fun _ => rfl)).setCell _ _ (fun _ => rfl)
def ND (p : Nat) (h : Int × Int) (w : World) (e : Ending) (w' : World) : Prop := e = .returned (.tuple #[]) ∧ D w' p h ∧ Only (fun k => k = p) w w'

set_option maxRecDepth 100000 in
set_option maxHeartbeats 1600000 in
theorem bmixw_at (x : Int × Int × Int × Int) : ∃ g : Int × Int, ∀ (w : World) (p : Nat), D w p (x.1, x.2.1) → Calls Try.prog 72 #[.pointer (some ⟨p, 0, none⟩), .int .u64 x.2.2.1, .int .u64 x.2.2.2] w (ND p g w) := by
  obtain ⟨x1, x2, k1, k2⟩ := x
  obtain ⟨R31, h31⟩ := rot_31
  obtain ⟨R27, h27⟩ := rot_27
  obtain ⟨R33, h33⟩ := rot_33
  have H31 := Lib.hid h31
  clear h31
  have H27 := Lib.hid h27
  clear h27
  have H33 := Lib.hid h33
  clear h33
  apply Exists.intro
  intro w p d
  obtain ⟨c0, c1, f0, f1⟩ := d.cells
  have HD := Lib.hid d
  clear d
  go_enter Try.func72, Try.ntmps72
  go_wp2_with fail
  go_quiet (fail)
  go_wp2_with (first | ((with_reducible refine (H31.out _ _).mono ?_); rintro e w' ⟨rfl, rfl⟩) | ((with_reducible refine (H27.out _ _).mono ?_); rintro e w' ⟨rfl, rfl⟩) | ((with_reducible refine (H33.out _ _).mono ?_); rintro e w' ⟨rfl, rfl⟩))
  go_end0
  exact ⟨rfl, D.put (w := w.drewN _) HD.out _ _, Only.trans ((Only.refl (fun k => k = p) w).drewN _) (D.only _ _) (fun _ _ h => h)⟩
/-- two numbers are returned -/
def Ret2 (y1 y2 : Int) (w : World) (e : Ending) (w' : World) : Prop := e = .returned (.tuple #[.int .u64 y1, .int .u64 y2]) ∧ Same w w'
/-- what is said of sum128 at a tail of t bytes -/
def SumAt (pad : Bool) (t : Nat) : Prop := ∀ x : (Int × Int) × Int × List Nat, ∃ y1 y2 : Int, ∀ (w : World) (p : Nat) (a : Option Addr) (cap : Nat), D w p x.1 → RY w a t cap x.2.2 →
  Calls Try.prog 69 #[.pointer (some ⟨p, 0, none⟩), .bool pad, .int .u64 x.2.1, .slice a t cap] w (Ret2 y1 y2 w)
end Go.Proofs.Ytpiajkabikbdnaa.bs
