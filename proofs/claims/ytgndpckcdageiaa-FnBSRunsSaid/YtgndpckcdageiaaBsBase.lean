/-
  Bitsets in memory: what stands for a bitset, for the plain Bits of the thin package, for a list of truth values.
-/
import Derived.Test.YtgndpckcdageiaaBase
import Derived.Test.YtgndpckcdageiaaHeap
import Derived.Test.YtgndpckcdageiaaBit
import Derived.RegionTactic
import Derived.ChangeAlike
import Derived.Deep.Light
namespace Go.Proofs.Ytgndpckcdageiaa.bs
open Go.RowKit Go.Proofs.Ytgndpckcdageiaa.base Go.Proofs.Ytgndpckcdageiaa.heap Go.Proofs.Ytgndpckcdageiaa.bit
set_option linter.unusedVariables false

theorem slWord : SliceOf Try.prog 56 60 1 8 := SliceOf.mk (z := .int .u64 0) Try.underlying56 (by kernel_rfl) rfl
theorem slUint : SliceOf Try.prog 23 22 1 8 := SliceOf.mk (z := .int .u64 0) Try.underlying23 (by kernel_rfl) rfl
theorem slBool : SliceOf Try.prog 29 4 1 1 := SliceOf.mk (z := .bool false) Try.underlying29 (by kernel_rfl) rfl

/-- numbers, truth values as cells -/
def U (l : List Nat) : List Value := l.map fun n : Nat => Value.int .u64 (n : Int)
def B (l : List Bool) : List Value := l.map Value.bool
theorem U_one (l : List Nat) : ∀ u ∈ U l, u.oneCell' = true := fun u hu => by obtain ⟨_, _, rfl⟩ := List.mem_map.1 hu; rfl
theorem B_one (l : List Bool) : ∀ u ∈ B l, u.oneCell' = true := fun u hu => by obtain ⟨_, _, rfl⟩ := List.mem_map.1 hu; rfl
theorem U_get (l : List Nat) (k : Nat) (hk : k < l.length) : (U l)[k]? = some (.int .u64 (l.getD k 0 : Nat)) := by simp [U, hk]
theorem B_get (l : List Bool) (k : Nat) (hk : k < l.length) : (B l)[k]? = some (.bool (l.getD k false)) := by simp [B, hk]
theorem U_len (l : List Nat) : (U l).length = l.length := by simp [U]
theorem B_len (l : List Bool) : (B l).length = l.length := by simp [B]
theorem U_set (l : List Nat) (k x : Nat) : (U l).set k (.int .u64 (x : Int)) = U (l.set k x) := by simp [U, List.map_set]
theorem B_set (l : List Bool) (k : Nat) (x : Bool) : (B l).set k (.bool x) = B (l.set k x) := by simp [B, List.map_set]
theorem U_app (l r : List Nat) : U l ++ U r = U (l ++ r) := by simp [U]
theorem B_app (l r : List Bool) : B l ++ B r = B (l ++ r) := by simp [B]
theorem U_take (l : List Nat) (n : Nat) : (U l).take n = U (l.take n) := by simp [U, List.map_take]
theorem B_take (l : List Bool) (n : Nat) : (B l).take n = B (l.take n) := by simp [B, List.map_take]
theorem U_drop (l : List Nat) (n : Nat) : (U l).drop n = U (l.drop n) := by simp [U, List.map_drop]
theorem B_drop (l : List Bool) (n : Nat) : (B l).drop n = B (l.drop n) := by simp [B, List.map_drop]

/-- a slice of numbers, of truth values that is read -/
def RU (w : World) (a : Option Addr) (n cap : Nat) (l : List Nat) : Prop := Rd 1 w a n cap (U l) ∧ l.length = n
def RB (w : World) (a : Option Addr) (n cap : Nat) (l : List Bool) : Prop := Rd 1 w a n cap (B l) ∧ l.length = n
theorem RU.at {w : World} {a : Option Addr} {n cap : Nat} {l : List Nat} (h : RU w a n cap l) (h0 : 0 < n) :
    ∃ b off, a = some ⟨b, off, none⟩ ∧ b < w.heap.size ∧ ∀ i, i < n → w.cell? ⟨b, off + i, none⟩ = some (.int .u64 (l.getD i 0 : Nat)) := by
  obtain ⟨b, off, rfl, hb, hc⟩ := h.1.cells h0
  exact ⟨b, off, rfl, hb, fun i hi => hc i _ (U_get l i (by rw [h.2]; exact hi))⟩
theorem RB.at {w : World} {a : Option Addr} {n cap : Nat} {l : List Bool} (h : RB w a n cap l) (h0 : 0 < n) :
    ∃ b off, a = some ⟨b, off, none⟩ ∧ b < w.heap.size ∧ ∀ i, i < n → w.cell? ⟨b, off + i, none⟩ = some (.bool (l.getD i false)) := by
  obtain ⟨b, off, rfl, hb, hc⟩ := h.1.cells h0
  exact ⟨b, off, rfl, hb, fun i hi => hc i _ (B_get l i (by rw [h.2]; exact hi))⟩
theorem RU.keep {w w' : World} {a : Option Addr} {n cap : Nat} {l : List Nat} {S : Nat → Prop} (h : RU w a n cap l) (ho : Only S w w') (hn : ∀ k, At a k → ¬ S k) : RU w' a n cap l := ⟨h.1.keep ho hn, h.2⟩
theorem RB.keep {w w' : World} {a : Option Addr} {n cap : Nat} {l : List Bool} {S : Nat → Prop} (h : RB w a n cap l) (ho : Only S w w') (hn : ∀ k, At a k → ¬ S k) : RB w' a n cap l := ⟨h.1.keep ho hn, h.2⟩
theorem RU.of_heap {w w' : World} {a : Option Addr} {n cap : Nat} {l : List Nat} (h : RU w a n cap l) (he : w'.heap = w.heap) : RU w' a n cap l := ⟨h.1.of_heap he, h.2⟩
theorem RB.of_heap {w w' : World} {a : Option Addr} {n cap : Nat} {l : List Bool} (h : RB w a n cap l) (he : w'.heap = w.heap) : RB w' a n cap l := ⟨h.1.of_heap he, h.2⟩

/-- a bitset in memory: its struct's block p, its length n, its words' row -/
structure O where
  p : Nat
  n : Nat
  a : Option Addr
  m : Nat
  cap : Nat
  ws : List Nat
structure O.ok (o : O) (w : World) : Prop where
  obj : w.heap[o.p]? = Option.some (Obj.cells #[Value.int .u64 (o.n : Int), Value.slice o.a o.m o.cap] 58 (0, 0))
  own : Own 60 1 w o.a o.m o.cap (U o.ws)
  len : o.ws.length = o.m
  fits : Ok o.ws
  apart : ¬ At o.a o.p
  made : o.a ≠ none
def O.foot (o : O) (k : Nat) : Prop := k = o.p ∨ At o.a k
def O.ptr (o : O) : Value := .pointer (some ⟨o.p, 0, none⟩)
/-- it stands for these bits, and has no others -/
structure O.rep (o : O) (b : List Bool) : Prop where
  len : o.n = b.length
  fit : o.m = (b.length + 63) / 64
  bits : ∀ i, bit o.ws i = b.getD i false
theorem O.rep.room {o : O} {b : List Bool} (h : o.rep b) : b.length ≤ 64 * o.m := by have := h.fit; omega

theorem O.ok.lt {o : O} {w : World} (h : o.ok w) : ∀ k, o.foot k → k < w.heap.size := by
  rintro k (rfl | hk)
  · exact lt_of_heap h.obj
  · exact h.own.lt k hk
theorem O.ok.keep {o : O} {w w' : World} {S : Nat → Prop} (h : o.ok w) (ho : Only S w w') (hn : ∀ k, o.foot k → ¬ S k) : o.ok w' :=
  ⟨ho.obj h.obj (hn _ (.inl rfl)), h.own.keep ho (fun k hk => hn k (.inr hk)), h.len, h.fits, h.apart, h.made⟩
theorem O.ok.of_heap {o : O} {w w' : World} (h : o.ok w) (he : w'.heap = w.heap) : o.ok w' := ⟨by rw [he]; exact h.obj, h.own.of_heap he, h.len, h.fits, h.apart, h.made⟩
theorem O.ok.cells {o : O} {w : World} (h : o.ok w) :
    w.cell? ⟨o.p, 0, none⟩ = some (.int .u64 (o.n : Int)) ∧ w.cell? ⟨o.p, 1, none⟩ = some (.slice o.a o.m o.cap) ∧
    w.frozen? ⟨o.p, 0, none⟩ = false ∧ w.frozen? ⟨o.p, 1, none⟩ = false := by
  refine ⟨?_, ?_, ?_, ?_⟩
  · rw [cell_of_row w o.p 0 _ _ _ h.obj]; rfl
  · rw [cell_of_row w o.p 1 _ _ _ h.obj]; rfl
  · simp [World.frozen?, h.obj]
  · simp [World.frozen?, h.obj]
/-- the words' row: an address at its head -/
theorem O.ok.row {o : O} {w : World} (h : o.ok w) : ∃ b, o.a = some ⟨b, 0, none⟩ ∧ b < w.heap.size ∧ b ≠ o.p ∧
    (∀ i, i < o.m → w.cell? ⟨b, i, none⟩ = some (.int .u64 (o.ws.getD i 0 : Nat))) ∧ ∀ i, w.frozen? ⟨b, i, none⟩ = false := by
  rcases h.own.alt with ⟨ha, _⟩ | ⟨b, cur, ha, hb, hs, ht⟩
  · exact absurd ha h.made
  · refine ⟨b, ha, lt_of_heap hb, fun e => h.apart (by rw [ha, e]; exact rfl), fun i hi => ?_, fun i => h.own.frozen ha i⟩
    obtain ⟨b', hb', _, hc⟩ := h.own.at (by omega)
    rw [ha] at hb'
    cases hb'
    have := hc i _ (U_get o.ws i (by rw [h.len]; exact hi))
    simpa using this

/-- all that a walk asks of a bitset -/
theorem O.ok.facts {o : O} {w : World} (h : o.ok w) : ∃ b, o.a = some ⟨b, 0, none⟩ ∧ o.p < w.heap.size ∧ b < w.heap.size ∧ b ≠ o.p ∧
    w.cell? ⟨o.p, 0, none⟩ = some (.int .u64 (o.n : Int)) ∧ w.cell? ⟨o.p, 1, none⟩ = some (.slice (some ⟨b, 0, none⟩) o.m o.cap) ∧
    w.frozen? ⟨o.p, 0, none⟩ = false ∧ w.frozen? ⟨o.p, 1, none⟩ = false ∧
    (∀ i, i < o.m → w.cell? ⟨b, i, none⟩ = some (.int .u64 (o.ws.getD i 0 : Nat))) ∧ (∀ i, w.frozen? ⟨b, i, none⟩ = false) ∧ o.m ≤ o.cap ∧ o.cap ≤ 9223372036854775807 := by
  obtain ⟨b, ha, hb, hne, hc, hf⟩ := h.row
  obtain ⟨c0, c1, f0, f1⟩ := h.cells
  rw [ha] at c1
  exact ⟨b, ha, lt_of_heap h.obj, hb, hne, c0, c1, f0, f1, hc, hf, h.own.bound.1, h.own.bound.2⟩

/-- the bitset of a returned pointer is new -/
def New (b : List Bool) (w : World) (e : Ending) (w' : World) : Prop :=
  ∃ o : O, e = .returned o.ptr ∧ o.ok w' ∧ o.rep b ∧ Only (fun _ => False) w w' ∧ ∀ k, o.foot k → w.heap.size ≤ k
/-- the bitset o stands for other bits now; nothing else has changed -/
def Upd (o : O) (b : List Bool) (w : World) (w' : World) : Prop :=
  ∃ o' : O, o'.p = o.p ∧ o'.ok w' ∧ o'.rep b ∧ Only o.foot w w' ∧ ∀ k, o'.foot k → o.foot k ∨ w.heap.size ≤ k

/-- plain Bits: the length, and a list of the places of the bits that are set -/
def BV (w : World) (v : Value) (b : List Bool) : Prop := ∃ a m cap, v = .agg #[.int .u64 (b.length : Int), .slice a m cap] ∧ RU w a m cap (ones b)
def RetBits (b : List Bool) (w : World) (e : Ending) (w' : World) : Prop := ∃ a m cap, e = .returned (.agg #[.int .u64 (b.length : Int), .slice a m cap]) ∧ RU w' a m cap (ones b) ∧ Only (fun _ => False) w w' ∧ ∀ k, At a k → w.heap.size ≤ k ∧ k < w'.heap.size
def RetBools (b : List Bool) (w : World) (e : Ending) (w' : World) : Prop := ∃ a cap, e = .returned (.slice a b.length cap) ∧ RB w' a b.length cap b ∧ Only (fun _ => False) w w' ∧ ∀ k, At a k → w.heap.size ≤ k
def RetNums (l : List Nat) (w : World) (e : Ending) (w' : World) : Prop := ∃ a cap, e = .returned (.slice a l.length cap) ∧ RU w' a l.length cap l ∧ Only (fun _ => False) w w' ∧ ∀ k, At a k → w.heap.size ≤ k
def RetV (v : Value) (w : World) (e : Ending) (w' : World) : Prop := e = .returned v ∧ Only (fun _ => False) w w'
def Quiet (v : Value) (w : World) (e : Ending) (w' : World) : Prop := ∃ n, e = .returned v ∧ w' = w.drewN n
theorem BV.keep {w w' : World} {v : Value} {b : List Bool} (h : BV w v b) (ho : Only (fun _ => False) w w') : BV w' v b := by
  obtain ⟨a, m, cap, rfl, hr⟩ := h
  exact ⟨a, m, cap, rfl, hr.keep ho (fun _ _ => id)⟩

/-! ### numbers -/
theorem pow_nat (k : Nat) (hk : k < 64) : (2 : Int) ^ k % 18446744073709551616 = ((2 ^ k : Nat) : Int) := by
  have h := lt64_pow hk
  unfold Lt64 at h
  have e : (2 : Int) ^ k = ((2 ^ k : Nat) : Int) := by push_cast; rfl
  rw [e]
  generalize 2 ^ k = y at *
  omega
theorem or_nat {a b : Nat} (ha : Lt64 a) (hb : Lt64 b) : bits .or .u64 (a : Int) (b : Int) = ((a ||| b : Nat) : Int) := u64_or_nat a b ha hb
theorem and_nat {a b : Nat} (ha : Lt64 a) (hb : Lt64 b) : bits .and .u64 (a : Int) (b : Int) = ((a &&& b : Nat) : Int) := u64_and_nat a b ha hb
theorem xor_nat {a b : Nat} (ha : Lt64 a) (hb : Lt64 b) : bits .xor .u64 (a : Int) (b : Int) = ((a ^^^ b : Nat) : Int) := u64_xor_nat a b ha hb
theorem mask63 {i : Nat} (hi : Lt64 i) : bits .and .u64 (i : Int) 63 = ((i % 64 : Nat) : Int) := by
  have h : bits .and .u64 (i : Int) ((63 : Nat) : Int) = ((i &&& 63 : Nat) : Int) := and_nat hi (by unfold Lt64; omega)
  rw [nat_mask6] at h
  exact h
theorem test_bit {x k : Nat} (hx : Lt64 x) (hk : k < 64) : (!(bits .and .u64 (x : Int) (2 ^ k % 18446744073709551616) == 0)) = x.testBit k := by
  rw [pow_nat k hk, and_nat hx (lt64_pow hk)]
  have h := and_pow x k
  cases ht : x.testBit k
  · have h0 : x &&& 2 ^ k = 0 := by rw [h]; exact ht
    rw [h0]; rfl
  · have h0 : ¬ x &&& 2 ^ k = 0 := by rw [h, ht]; simp
    generalize x &&& 2 ^ k = y at *
    have : (((y : Nat) : Int) == 0) = false := by rw [beq_eq_false_iff_ne]; omega
    rw [this]; rfl
theorem or_pow {x k : Nat} (hx : Lt64 x) (hk : k < 64) : bits .or .u64 (x : Int) (2 ^ k % 18446744073709551616) = ((x ||| 2 ^ k : Nat) : Int) := by
  rw [pow_nat k hk]; exact or_nat hx (lt64_pow hk)
theorem mask_to {x r : Nat} (hx : Lt64 x) (hr : r < 64) : bits .and .u64 (x : Int) (IntKind.u64.wrap (IntKind.u64.wrap (2 ^ (r + 1)) - 1)) = ((x % 2 ^ (r + 1) : Nat) : Int) := by
  have e : IntKind.u64.wrap (IntKind.u64.wrap (2 ^ (r + 1)) - 1) = ((2 ^ (r + 1) - 1 : Nat) : Int) := by
    have h1 : (2 : Int) ^ (r + 1) = ((2 ^ (r + 1) : Nat) : Int) := by rw [Int.natCast_pow]; rfl
    rw [h1, IntKind.wrap_u64, IntKind.wrap_u64]
    have hp : 0 < 2 ^ (r + 1) := Nat.two_pow_pos _
    have hle : 2 ^ (r + 1) ≤ 2 ^ 64 := Nat.pow_le_pow_right (by omega) (by omega)
    have h64 : (2 : Nat) ^ 64 = 18446744073709551616 := by decide
    rw [h64] at hle
    generalize 2 ^ (r + 1) = y at *
    omega
  have hm : Lt64 (2 ^ (r + 1) - 1) := by
    have hp : 0 < 2 ^ (r + 1) := Nat.two_pow_pos _
    have hle : 2 ^ (r + 1) ≤ 2 ^ 64 := Nat.pow_le_pow_right (by omega) (by omega)
    unfold Lt64
    have h64 : (2 : Nat) ^ 64 = 18446744073709551616 := by decide
    rw [h64] at hle
    omega
  rw [e, and_nat hx hm, Nat.and_two_pow_sub_one_eq_mod]
end Go.Proofs.Ytgndpckcdageiaa.bs
