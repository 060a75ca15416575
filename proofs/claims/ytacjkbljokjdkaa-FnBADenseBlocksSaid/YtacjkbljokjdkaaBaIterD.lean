/-
  The iterator of a dense bit array.
-/
import Derived.Test.YtacjkbljokjdkaaBaDoesD
import Derived.Test.YtacjkbljokjdkaaBaWord
namespace Go.Proofs.Ytacjkbljokjdkaa.ba
open Go.RowKit Go.Proofs.Ytacjkbljokjdkaa.base Go.Proofs.Ytacjkbljokjdkaa.heap Go.Proofs.Ytacjkbljokjdkaa.rows Go.Proofs.Ytacjkbljokjdkaa.bit Go.Proofs.Ytacjkbljokjdkaa.bs
set_option linter.unusedVariables false
/-- the object of a dense array's iterator -/
def dObj (i : Int) (st p : Nat) : Obj := .cells #[.int .i64 i, .int .u64 (st : Int), .pointer (some ⟨p, 0, none⟩)] 135
theorem blocksD {w : World} {p c lo hi : Nat} {a : Option Addr} {ws : List Nat} {any : Bool} (h : Dn w p a c ws lo hi any) (hlo : lo ≤ hi) (hhi : hi ≤ 64 * ws.length) : Calls Try.prog 51 #[.pointer (some ⟨p, 0, none⟩)] w fun e w' => e = .returned (.iface 118 (.pointer (some ⟨w.heap.size, 0, none⟩))) ∧ w' = w.alloc (dObj (((lo / 64 : Nat) : Int) - 1) (hi / 64) p) := by
  obtain ⟨b, ha, hb, hne, e0, e1, e2, e3, hf, hc, hfb⟩ := h.facts
  have hws := h.sm
  have HI1 := Lib.hid (indexW hi (by unfold Lt64; omega) w)
  have HI2 := Lib.hid (indexW lo (by unfold Lt64; omega) w)
  obtain ⟨y, hy⟩ : ∃ y, lo / 64 = y := ⟨_, rfl⟩
  rw [hy] at HI2 ⊢
  have k1 : IntKind.i64.wrap (y : Int) = (y : Int) := IntWalk.i64_in _ (by omega)
  have k2 : IntKind.i64.wrap ((y : Int) - 1) = (y : Int) - 1 := IntWalk.i64_in _ (by omega)
  generalize hi / 64 = z at *
  generalize lo % 64 = r1 at *
  generalize hi % 64 = r2 at *
  clear hy hws hf hc hfb h hlo hhi ha hb hne
  have HN : Hid (Calls Try.prog 67 #[.pointer (some ⟨p, 0, none⟩)] w fun e w' => e = .returned (.pointer (some ⟨w.heap.size, 0, none⟩)) ∧ w' = w.alloc (dObj ((y : Int) - 1) z p)) := Lib.hid (by
    go_enter Try.func67, Try.ntmps67
    go_wp2_with (go_at_call 33; refine HI1.out.mono ?_)
    rintro e w1 ⟨rfl, rfl⟩
    go_wp2_with (go_at_call 33; refine HI2.out.mono ?_)
    rintro e w1 ⟨rfl, rfl⟩
    go_wp2_with fail
    go_ret
    exact ⟨rfl, rfl⟩)
  clear HI1 HI2 k1 k2
  go_enter Try.func51, Try.ntmps51
  go_wp2_with (go_at_call 67; refine HN.out.mono ?_)
  rintro e w1 ⟨rfl, rfl⟩
  go_wp2_with fail
  go_ret
  exact ⟨rfl, rfl⟩
theorem nextD {w : World} {g p j n : Nat} {i : Int} (h : w.heap[g]? = some (dObj i n p)) (hij : i + 1 = (j : Int)) (hj : j ≤ 1000000) (hn : n ≤ 1000000) :
    Calls Try.prog 124 #[.pointer (some ⟨g, 0, none⟩)] w fun e w' => e = .returned (.bool (decide (j ≤ n))) ∧ w'.heap[g]? = some (dObj j n p) ∧ Only (fun k => k = g) w w' := by
  have c0 : w.cell? ⟨g, 0, none⟩ = some (.int .i64 i) := block_cell h rfl
  have f0 : w.frozen? ⟨g, 0, none⟩ = false := block_free h
  have ew : IntKind.i64.wrap (i + 1) = (j : Int) := by rw [IntWalk.i64_in _ (by omega)]; exact hij
  have HW : Hid ((w.setCell ⟨g, 0, none⟩ (.int .i64 (j : Int))).heap[g]? = some (dObj j n p) ∧ Only (fun k => k = g) w (w.setCell ⟨g, 0, none⟩ (.int .i64 (j : Int)))) := Lib.hid (by
    have h1 : Only (fun k => k = g) w (w.setCell ⟨g, 0, none⟩ (.int .i64 (j : Int))) := (Only.refl _ _).setCell _ _ (fun _ => rfl)
    exact ⟨setCell_heap h 0 (.int .i64 (j : Int)), h1⟩)
  have hd : decide (j ≤ n) = decide ((j : Int) ≤ (n : Int)) := by simp
  rw [hd]
  have ej : IntKind.u64.wrap (j : Int) = (j : Int) := by rw [IntKind.wrap_u64]; omega
  clear h hij
  go_enter Try.func124, Try.ntmps124
  go_wp2_with fail
  obtain ⟨W1, hW1⟩ : ∃ W1, W1 = w.setCell ⟨g, 0, none⟩ (.int .i64 (j : Int)) := ⟨_, rfl⟩
  rw [← hW1] at HW ⊢
  have d0 : W1.cell? ⟨g, 0, none⟩ = some (.int .i64 (j : Int)) := block_cell HW.out.1 rfl
  have d1 : W1.cell? ⟨g, 1, none⟩ = some (.int .u64 (n : Int)) := block_cell HW.out.1 rfl
  clear hW1 c0 f0
  go_quiet (fail)
  go_wp2_with fail
  go_ret
  exact ⟨rfl, HW.out.1, HW.out.2.drewN _⟩
theorem valueD {w : World} {g p j st : Nat} {a : Option Addr} {c lo hi : Nat} {ws : List Nat} {any : Bool} (h : w.heap[g]? = some (dObj j st p)) (hp : Dn w p a c ws lo hi any) (hj : j < ws.length) :
    Calls Try.prog 125 #[.pointer (some ⟨g, 0, none⟩)] w fun e w' => e = .returned (.tuple #[.int .u64 (j : Int), .int .u64 ((ws.getD j 0 : Nat) : Int)]) ∧ Same w w' := by
  have c0 : w.cell? ⟨g, 0, none⟩ = some (.int .i64 (j : Int)) := block_cell h rfl
  have c2 : w.cell? ⟨g, 2, none⟩ = some (.pointer (some ⟨p, 0, none⟩)) := block_cell h rfl
  obtain ⟨b, ha, hb, hne, e0, e1, e2, e3, hf, hc, hfb⟩ := hp.facts
  have d0 := hc j hj
  have hws := hp.sm
  generalize ws.getD j 0 = x2 at *
  obtain ⟨n, hn⟩ : ∃ n, ws.length = n := ⟨_, rfl⟩
  rw [hn] at hj e0 hws
  have k2 : (j : Int) < (n : Int) := by omega
  have k3 : (0 : Int) ≤ (j : Int) := by omega
  have ej : IntKind.u64.wrap (j : Int) = (j : Int) := by rw [IntKind.wrap_u64]; omega
  clear hc hp h hn hf hfb e1 e2 e3 hne hb
  go_enter Try.func125, Try.ntmps125
  go_wp2_with fail
  go_quiet (fail)
  go_wp2_with fail
  go_ret2
  exact ⟨rfl, (Only.refl _ _).drewN _⟩
end Go.Proofs.Ytacjkbljokjdkaa.ba
