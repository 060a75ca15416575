/-
  newBitArray; copy of a dense bit array.
-/
import Derived.Test.YtacjkbljokjdkaaBaDn2
namespace Go.Proofs.Ytacjkbljokjdkaa.ba
open Go.RowKit Go.Proofs.Ytacjkbljokjdkaa.base Go.Proofs.Ytacjkbljokjdkaa.heap Go.Proofs.Ytacjkbljokjdkaa.rows Go.Proofs.Ytacjkbljokjdkaa.bit Go.Proofs.Ytacjkbljokjdkaa.bs
set_option linter.unusedVariables false

/-- a new dense bit array is handed back -/
def NewD (ws : List Nat) (lo hi : Nat) (any : Bool) (w : World) (e : Ending) (w' : World) : Prop :=
  ∃ p a c, e = .returned (.pointer (some ⟨p, 0, none⟩)) ∧ Dn w' p a c ws lo hi any ∧ Same w w' ∧ ∀ k, Ft p a k → w.heap.size ≤ k
theorem U_zeros (n : Nat) : (madeCells #[Value.int .u64 0] n).toList = U (List.replicate n 0) := by
  have := made_one (.int .u64 0) rfl n
  rw [Nat.mul_one] at this
  rw [show U (List.replicate n 0) = List.replicate n (Value.int .u64 0) by simp [U]]
  exact this
theorem dn_made {w : World} {p g n lo hi : Nat} {any : Bool} (h1 : w.heap[p]? = some (.cells #[.slice (some ⟨g, 0, none⟩) n n, .int .u64 (lo : Int), .int .u64 (hi : Int), .bool any] 95 (0, 0))) (h2 : w.heap[g]? = some (.cells (madeCells #[.int .u64 0] n) 79 (0, 0))) (hn : n ≤ 1000000) (hne : g ≠ p) :
    Dn w p (some ⟨g, 0, none⟩) n (List.replicate n 0) lo hi any := by
  refine ⟨by rw [List.length_replicate]; exact h1, ?_, Ok.zeros n, (by simp), hne, by rw [List.length_replicate]; exact hn⟩
  rw [List.length_replicate]
  have := Own.of_block (e := 79) (size := 1) h2 n n (Nat.le_refl _) (by unfold maxLen; omega) (by simp [madeCells]) (by rw [U_zeros]; intro u hu; exact U_one _ u (List.mem_of_mem_take hu))
  rw [U_zeros, List.take_of_length_le (by rw [U_len, List.length_replicate]; omega)] at this
  exact this

theorem new_old (w : World) (A B : Obj) : ((w.alloc A).alloc B).heap[w.heap.size]? = some A := by
  show ((w.heap.push A).push B)[w.heap.size]? = _
  rw [Array.getElem?_push, if_neg (by simp), Array.getElem?_push, if_pos rfl]
theorem new_foot (w : World) : ∀ k, Ft (w.heap.size + 1) (some ⟨w.heap.size, 0, none⟩) k → w.heap.size ≤ k := by
  rintro k (rfl | h)
  · omega
  · have : w.heap.size = k := h
    omega
set_option maxRecDepth 100000 in
set_option maxHeartbeats 1600000 in
theorem newD0 (size : Nat) (hsz : size ≤ 64000000) (aa : Option Addr) (m ac : Nat) (w : World) (hm : m = 0 ∨ (m = 1 ∧ ∃ ad, aa = some ad ∧ ad.spot = none ∧ w.cell? ad = some (.bool false))) :
    Calls Try.prog 31 #[.int .u64 (size : Int), .slice aa m ac] w (NewD (List.replicate ((size + 63) / 64) 0) 0 0 false w) := by
  have HIW : Hid (∀ wx, Calls Try.prog 33 #[.int .u64 (size : Int)] wx fun e w' => e = .returned (.tuple #[.int .u64 ((size / 64 : Nat) : Int), .int .u64 ((size % 64 : Nat) : Int)]) ∧ w' = wx) := Lib.hid (fun wx => indexW size (by unfold Lt64; omega) wx)
  obtain ⟨n, HN⟩ : ∃ n, Hid ((size + 63) / 64 = n) := ⟨_, Lib.hid rfl⟩
  rw [HN.out]
  have hn : n ≤ 1000000 := by have := HN.out; omega
  have hmk := make_eq (P := Try.prog) (e := 79) (size := 1) (t := 93) (z := .int .u64 0) (bytes := 8) .u64 .u64 Try.underlying93 (by kernel_rfl) n (by omega) (by omega)
  have HS : Hid (size % 64 = 0 → size / 64 = n) := Lib.hid (fun h => by have := HN.out; omega)
  have HS2 : Hid (¬ size % 64 = 0 → size / 64 + 1 = n) := Lib.hid (fun h => by have := HN.out; omega)
  have hq : size / 64 ≤ 1000000 := by omega
  have HM := Lib.hid hm
  clear hm
  generalize size / 64 = q at *
  generalize size % 64 = r at *
  go_enter Try.func31, Try.ntmps31
  go_wp2_with fail
  refine (HIW.out _).mono ?_
  rintro e w1 ⟨rfl, rfl⟩
  go_upto_if 15 with fail
  go_cut [5] (fun v wx => v = .int .u64 (n : Int) ∧ wx = w1)
  case first =>
    by_cases hr : r = 0
    · have hq2 := HS.out hr
      subst hr
      subst hq2
      go_wp2_with fail
      go_meet
      exact ⟨rfl, rfl⟩
    · have hq2 := HS2.out hr
      have hr' : (0 : Int) < (r : Int) := by omega
      subst hq2
      have h5 : IntKind.u64.wrap ((q : Int) + 1) = (q : Int) + 1 := by rw [IntKind.wrap_u64]; omega
      go_wp2_with fail
      go_meet
      exact ⟨by go_num, rfl⟩
  case rest =>
    obtain ⟨rfl, rfl⟩ := hcut
    rcases HM.out with rfl | ⟨rfl, ad, rfl, hsp, hcell⟩
    · go_wp2_with fail
      go_ret
      exact ⟨wc.heap.size + 1, _, n, rfl, dn_made (heap_alloc_new' _ _ _ (by simp)) (new_old wc _ _) hn (by omega), ((Only.refl _ _).alloc _).alloc _, new_foot wc⟩
    · obtain ⟨ab, ao, sp⟩ := ad
      have : sp = none := hsp
      subst this
      have hab : ab < wc.heap.size := World.block_lt_of_cell? wc _ hcell
      go_wp2_with fail
      go_ret
      exact ⟨wc.heap.size + 1, _, n, rfl, dn_made (heap_alloc_new' _ _ _ (by simp)) (new_old wc _ _) hn (by omega), ((Only.refl _ _).alloc _).alloc _, new_foot wc⟩
end Go.Proofs.Ytacjkbljokjdkaa.ba
