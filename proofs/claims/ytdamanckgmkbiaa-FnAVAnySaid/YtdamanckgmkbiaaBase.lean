/-
  What the walks share: a slice of integers that came in; small laws on worlds.
-/
import Derived.Test.YtdamanckgmkbiaaProg
import Derived.WalkKit
import Derived.ProofKit
import Derived.OpenShut
import Derived.Below
import Derived.Deep.QuietTactic
import Derived.BigQuiet
import Derived.Lib.Hide
namespace Go.Proofs.Ytdamanckgmkbiaa.base
open Go.ChangeShapes Go.WideShapes Go.ChangeAt Go.RowKit

/-- a slice of integers that came in: it is nil; or it leads to a row of 'cap' cells, the numbers 'zs' (the first 'len' are its elements) -/
def IsRow (k : IntKind) (w : World) (a : Option Addr) (len cap : Nat) (zs : List Int) : Prop :=
  (a = none ∧ len = 0 ∧ cap = 0 ∧ zs = []) ∨
  ∃ x, a = some x ∧ len ≤ cap ∧ cap ≤ maxLen ∧ zs.length = cap ∧ (∀ i, i < zs.length → w.cell? (x.add i) = some (.int k (zs.getD i 0))) ∧ ∀ n ∈ zs, (Lit.int k n).wf = true

/-- where it has an element: its block, its place, its cells -/
theorem IsRow.cells {k : IntKind} {w : World} {a : Option Addr} {len cap : Nat} {zs : List Int} (h : IsRow k w a len cap zs) (h0 : 0 < len) :
    ∃ b off, a = some ⟨b, off, none⟩ ∧ len ≤ zs.length ∧ b < w.heap.size ∧ ∀ i, i < zs.length → w.cell? ⟨b, off + i, none⟩ = some (.int k (zs.getD i 0)) := by
  rcases h with ⟨_, rfl, _, _⟩ | ⟨x, rfl, hl, hm, hz, hc, hw⟩
  · omega
  · obtain ⟨b, off, spot⟩ := x
    have h1 := hc 0 (by omega)
    have hs : spot = none := by simpa [Addr.add] using World.cell?_spot h1
    subst hs
    have h2 : w.cell? ⟨b, off, none⟩ = some (.int k (zs.getD 0 0)) := by simpa [Addr.add] using h1
    exact ⟨b, off, rfl, by omega, World.block_lt_of_cell? w _ h2, fun i hi => by have := hc i hi; rwa [Addr.add_lit] at this⟩

theorem IsRow.le {k : IntKind} {w : World} {a : Option Addr} {len cap : Nat} {zs : List Int} (h : IsRow k w a len cap zs) : len ≤ cap ∧ cap ≤ 9223372036854775807 ∧ len ≤ zs.length := by
  rcases h with ⟨_, rfl, rfl, rfl⟩ | ⟨x, rfl, hl, hm, hz, _, _⟩
  · simp
  · unfold maxLen at hm; omega

theorem IsRow.wf {k : IntKind} {w : World} {a : Option Addr} {len cap : Nat} {zs : List Int} (h : IsRow k w a len cap zs) (h0 : (Lit.int k 0).wf = true) (i : Nat) : (Lit.int k (zs.getD i 0)).wf = true := by
  rcases h with ⟨_, _, _, rfl⟩ | ⟨x, rfl, hl, hm, hz, _, hw⟩
  · simpa using h0
  · by_cases hi : i < zs.length
    · rw [show zs.getD i 0 = zs[i] from by simp [hi]]; exact hw _ (List.getElem_mem hi)
    · rw [show zs.getD i 0 = 0 from by simp [Nat.le_of_not_lt hi]]; exact h0

theorem wf_u8 {n : Int} (h : (Lit.int .u8 n).wf = true) : 0 ≤ n ∧ n < 256 := by
  have : 0 ≤ n ∧ n ≤ 255 := by simpa [Lit.wf, IntKind.min, IntKind.max, IntKind.signed, IntKind.bits] using h
  omega
theorem wf_u16 {n : Int} (h : (Lit.int .u16 n).wf = true) : 0 ≤ n ∧ n < 65536 := by
  have : 0 ≤ n ∧ n ≤ 65535 := by simpa [Lit.wf, IntKind.min, IntKind.max, IntKind.signed, IntKind.bits] using h
  omega
theorem wf_u32 {n : Int} (h : (Lit.int .u32 n).wf = true) : 0 ≤ n ∧ n < 4294967296 := by
  have : 0 ≤ n ∧ n ≤ 4294967295 := by simpa [Lit.wf, IntKind.min, IntKind.max, IntKind.signed, IntKind.bits] using h
  omega
theorem wf_u64 {n : Int} (h : (Lit.int .u64 n).wf = true) : 0 ≤ n ∧ n < 18446744073709551616 := by
  have : 0 ≤ n ∧ n ≤ 18446744073709551615 := by simpa [Lit.wf, IntKind.min, IntKind.max, IntKind.signed, IntKind.bits] using h
  omega
theorem wf_i64 {n : Int} (h : (Lit.int .i64 n).wf = true) : -9223372036854775808 ≤ n ∧ n ≤ 9223372036854775807 := by
  simpa [Lit.wf, IntKind.min, IntKind.max, IntKind.signed, IntKind.bits] using h

theorem ret_int {k : IntKind} {a b : Int} (h : a = b) : Ending.returned (.int k a) = .returned (.int k b) := by rw [h]

theorem below_drewN {B : Nat} {a w : World} (h : Below B a w) (n : Nat) : Below B a (w.drewN n) := ⟨h.os, h.tape, h.output, h.size, h.block⟩

/-- a parameter of type t that can be read in the world W -/
def Reads (P : Program) (W : World) (t : TypeId) (v : Value) : Prop :=
  ∃ (base : Nat) (H : Type) (enc : TypeId × Value → H) (d : DataW H) (ps : List MemPlace), Value.okWide P W .any base t v ∧ DataW.Trod enc P W 0 (fun _ => true) true t v d ps

section reads
variable {P : Program} {W : World} {t e : TypeId} {k : IntKind} {v : Value}
theorem Reads.int (h : Reads P W t v) (ht : P.underlying t = some (.int k)) : ∃ n, v = .int k n ∧ (Lit.int k n).wf = true := by
  obtain ⟨base, H, enc, d, ps, hv, hd⟩ := h
  obtain ⟨n, rfl, _, _, hw⟩ := open_int ht hv hd
  exact ⟨n, rfl, hw⟩
theorem Reads.bool (h : Reads P W t v) (ht : P.underlying t = some .bool) : ∃ b, v = .bool b := by
  obtain ⟨base, H, enc, d, ps, hv, hd⟩ := h
  obtain ⟨b, rfl, _, _⟩ := open_bool ht hv hd
  exact ⟨b, rfl⟩
theorem row_of {H : Type} {enc : TypeId × Value → H} {fuel : Nat} {a : Option Addr} {len cap : Nat} {x : DataW H × List MemPlace} (ht : P.underlying t = some (.slice e)) (he : P.underlying e = some (.int k)) (hc : P.cellsOf e = 1)
    (hf : DataW.trod enc P W 0 (fun _ => true) true fuel t [.slice a len cap] = some x) : ∃ zs, IsRow k W a len cap zs := by
  rcases open_ints ht he hc hf with ⟨hcs, _⟩ | ⟨x, l, c, zs, hcs, _, hl, hm, hz, _, hcell, hwz⟩
  · simp at hcs
    obtain ⟨rfl, rfl, rfl⟩ := hcs
    exact ⟨[], .inl ⟨rfl, rfl, rfl, rfl⟩⟩
  · simp at hcs
    obtain ⟨rfl, rfl, rfl⟩ := hcs
    exact ⟨zs, .inr ⟨_, rfl, hl, hm, by simpa using hz, hcell, hwz⟩⟩
theorem Reads.ints (h : Reads P W t v) (ht : P.underlying t = some (.slice e)) (he : P.underlying e = some (.int k)) (hc : P.cellsOf e = 1) : ∃ a len cap zs, v = .slice a len cap ∧ IsRow k W a len cap zs := by
  obtain ⟨base, H, enc, d, ps, hv, fuel, hf⟩ := h
  obtain ⟨a, len, cap, rfl⟩ := okWide_slice ht hv
  obtain ⟨zs, hz⟩ := row_of ht he hc (by simpa [Value.cells] using hf)
  exact ⟨a, len, cap, zs, rfl, hz⟩
end reads
end Go.Proofs.Ytdamanckgmkbiaa.base
