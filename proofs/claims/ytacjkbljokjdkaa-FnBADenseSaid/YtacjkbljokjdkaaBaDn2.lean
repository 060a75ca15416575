/-
  The dense bit array: ToNums, GetBit, Reset, ClearBit.
-/
import Derived.Test.YtacjkbljokjdkaaBaDn1
import Derived.Deep.RegionHeld3
namespace Go.Proofs.Ytacjkbljokjdkaa.ba
open Go.RowKit Go.Proofs.Ytacjkbljokjdkaa.base Go.Proofs.Ytacjkbljokjdkaa.heap Go.Proofs.Ytacjkbljokjdkaa.rows Go.Proofs.Ytacjkbljokjdkaa.bit Go.Proofs.Ytacjkbljokjdkaa.bs
set_option linter.unusedVariables false
theorem make0_eq {P : Program} {e size : Nat} {t : Nat} {z : Value} {bytes : Nat} (kl kc : IntKind) (ht : P.underlying t = some (.slice e)) (h' : (P.info? e).map (fun i => (i.zero, i.size, i.bytes)) = some (some z, size, bytes)) (k : Nat)
    (hb : bytes * k ≤ 281474976710656) (hk : k ≤ 9223372036854775807) (w : World) :
    (Instr.makeSlice t (.int kl 0) (.int kc (k : Int))).run P w = .ok (.slice (some ⟨w.heap.size, 0, none⟩) 0 k) (w.alloc (.cells (madeCells z.cells (k * size)) e)) := by
  obtain ⟨i, hi, h1, h2, h3⟩ := info_parts h'
  have h := run_make (P := P) w t e i z ht hi h1 kl kc 0 (k : Int) (by omega) (by omega) (by rw [h3]; have : ((bytes * k : Nat) : Int) = (bytes : Int) * (k : Int) := Int.natCast_mul _ _; omega) (by omega)
  rw [h2, Int.toNat_natCast] at h
  exact h
theorem heap2_a (w : World) (A B : Obj) : ((w.alloc A).alloc B).drew.heap[w.heap.size]? = some A := by
  show ((w.heap.push A).push B)[w.heap.size]? = _
  rw [Array.getElem?_push, if_neg (by simp), Array.getElem?_push, if_pos rfl]
theorem heap2_b (w : World) (A B : Obj) : ((w.alloc A).alloc B).drew.heap[w.heap.size + 1]? = some B := by
  show ((w.heap.push A).push B)[w.heap.size + 1]? = _
  rw [Array.getElem?_push, if_pos (by simp)]
theorem nv_made {w : World} {vb g k : Nat} (h1 : w.heap[vb]? = some (.cells #[.slice (some ⟨g, 0, none⟩) 0 k] 23 (0, 0))) (h2 : w.heap[g]? = some (.cells (madeCells #[.int .u64 0] k) 24 (0, 0))) (hk : k ≤ 1000000000) (hn : g ≠ vb) : NV w vb (some ⟨g, 0, none⟩) k [] := by
  refine ⟨h1, ?_, hn⟩
  have := Own.of_block (e := 24) (size := 1) h2 0 k (Nat.zero_le _) (by unfold maxLen; omega) (by simp [madeCells]) (by simp)
  simpa [U] using this

/-- a list of numbers is handed back: it is new -/
def NumsP (L : List Nat) (w : World) (e : Ending) (w' : World) : Prop :=
  ∃ a cap, e = .returned (.slice a L.length cap) ∧ Own 24 1 w' a L.length cap (U L) ∧ Same w w' ∧ ∀ k, At a k → w.heap.size ≤ k
section
variable {w : World} {p c lo hi : Nat} {a : Option Addr} {ws : List Nat} {any : Bool}
set_option maxRecDepth 100000 in
set_option maxHeartbeats 1600000 in
theorem numsD (h : Dn w p a c ws lo hi any) (hlh : lo ≤ hi) (hhi : hi ≤ 64 * ws.length) : Calls Try.prog 64 #[.pointer (some ⟨p, 0, none⟩)] w (NumsP (nums ws ws.length) w) := by
  obtain ⟨b, ha, hb, hbp, c0, c1, c2, c3, hf, hc, hfb⟩ := h.facts
  have hsm := h.sm
  have hbd := h.row.bound
  have H := Lib.hid h
  obtain ⟨n, HN⟩ : ∃ n, Hid (ws.length = n) := ⟨_, Lib.hid rfl⟩
  rw [HN.out] at c0 hsm hhi hbd
  rw [HN.out]
  have hq : (lo : Int) / 4 = ((lo / 4 : Nat) : Int) := by omega
  have hs : IntKind.u64.wrap ((hi : Int) - ((lo / 4 : Nat) : Int)) = ((hi - lo / 4 : Nat) : Int) := by rw [IntKind.wrap_u64]; omega
  have hq2 : IntKind.u64.wrap ((lo / 4 : Nat) : Int) = ((lo / 4 : Nat) : Int) := by rw [IntKind.wrap_u64]; omega
  obtain ⟨q, HQ⟩ : ∃ q, Hid (lo / 4 = q) := ⟨_, Lib.hid rfl⟩
  obtain ⟨m, HM⟩ : ∃ m, Hid (hi - q = m) := ⟨_, Lib.hid rfl⟩
  rw [HQ.out] at hq hs hq2
  rw [HM.out] at hs
  have hm : m ≤ 64000000 := by have := HM.out; omega
  have hmk := make0_eq (P := Try.prog) (e := 24) (size := 1) (t := 23) (z := .int .u64 0) (bytes := 8) .i64 .u64 Try.underlying23 (by kernel_rfl) m (by omega) (by omega)
  clear h hc hf hfb
  go_enter Try.func64, Try.ntmps64
  go_upto_region 1 with fail
  go_cut [3] (fun t wx => ∃ vb : Nat, t = .pointer (some ⟨vb, 0, none⟩) ∧ Hid (∃ g, NV wx vb (some ⟨g, 0, none⟩) m [] ∧ Same w wx ∧ w.heap.size ≤ g ∧ w.heap.size ≤ vb))
  case first =>
    subst ha
    have n1 := World.new_ne w _ c1
    have n2 := World.new_ne w _ c2
    go_region_held3 (fun w' => w'.cell? ⟨p, 1, none⟩ = some (.int .u64 (lo : Int)) ∧ w'.cell? ⟨p, 2, none⟩ = some (.int .u64 (hi : Int))) (go_keep) (fail)
    all_goals
      go_wp2_with fail
      go_meet
      first
        | exact ⟨_, rfl, Lib.hid ⟨_, nv_made (heap2_b _ _ _) (heap2_a _ _ _) (by omega) (by omega), (((Only.refl _ _).alloc _).alloc _).drew, by omega, by omega⟩⟩
        | exact ⟨_, rfl, Lib.hid ⟨_, nv_made (heap2_a _ _ _) (heap2_b _ _ _) (by omega) (by omega), (((Only.refl _ _).alloc _).alloc _).drew, by omega, by omega⟩⟩
  case rest =>
    obtain ⟨vb, rfl, hcc⟩ := hcut
    obtain ⟨g, hnv, hsw, hg, hvb⟩ := hcc.out
    obtain ⟨w2, hw2⟩ : ∃ w2, w2 = wc := ⟨_, rfl⟩
    rw [← hw2] at hnv hsw ⊢
    have HI0 : Hid (NVs w2 w2 vb (some ⟨g, 0, none⟩) (some ⟨g, 0, none⟩) m (nums ws 0)) := Lib.hid ⟨hnv, Only.refl _ _, fun k hk => .inl hk⟩
    have HW2 : Hid (Same w w2 ∧ w.heap.size ≤ g ∧ w.heap.size ≤ vb) := Lib.hid ⟨hsw, hg, hvb⟩
    have d0 : w2.cell? ⟨p, 0, none⟩ = some (.slice (some ⟨b, 0, none⟩) n c) := (hsw.cell (World.block_lt_of_cell? w _ c0) id).trans c0
    clear hcc hnv hsw hg hvb hw2 hmk hq hs hq2 c1 c2 c3 c0
    go_wp2_with fail
    clear d0
    go_loopw [22] (fun i wr => ∃ (k : Nat) (a' : Option Addr) (cap' : Nat), k ≤ n ∧ i = .int .i64 (k : Int) ∧ Hid (NVs w2 wr vb (some ⟨g, 0, none⟩) a' cap' (nums ws k))) (fun i _ => n - (intOf i).toNat)
    case atStart => exact ⟨0, _, _, Nat.zero_le _, rfl, HI0⟩
    case round =>
      clear HI0
      obtain ⟨k, a', cap', hk, rfl, HI⟩ := hrel
      have HSF : Hid (∀ j, Ft p a j → ¬ NV.foot vb (some ⟨g, 0, none⟩) j) := Lib.hid (fun j hj hf => by
        have h1 := H.out.lt j hj
        have h2 := HW2.out
        rcases hf with e | e
        · omega
        · have : g = j := e
          omega)
      by_cases hkn : k < n
      · have hkn' : (k : Int) < (n : Int) := by omega
        obtain ⟨b', ha', _, _, _, _, _, _, _, hcw, _⟩ := ((H.out.still HW2.out.1).keep HI.out.only HSF.out).facts
        rw [ha] at ha'
        cases ha'
        have e0 := hcw k (by rw [HN.out]; exact hkn)
        have hln : (nums ws k).length < 1000000000 := by have := nums_len ws k; omega
        have h64 : IntKind.u64.wrap (k : Int) = (k : Int) := by rw [IntKind.wrap_u64]; omega
        have h65 : IntKind.u64.wrap ((k : Int) * 64) = ((64 * k : Nat) : Int) := by rw [IntKind.wrap_u64]; omega
        have HT : Hid (Calls Try.prog 80 #[.int .u64 ((ws.getD k 0 : Nat) : Int), .int .u64 ((64 * k : Nat) : Int), .pointer (some ⟨vb, 0, none⟩)] wr fun e w' => e = .returned (.tuple #[]) ∧ ∃ a2 cap2, NVs wr w' vb a' a2 cap2 (nums ws (k + 1))) := Lib.hid (by
          rw [nums_succ]
          exact toNumsW _ (64 * k) vb a' cap' (nums ws k) wr (H.out.ok.at k) (by omega) hln HI.out.nv)
        generalize ws.getD k 0 = x at *
        generalize 64 * k = k64 at *
        clear hcw hln
        go_wp2_with fail
        refine HT.out.mono ?_
        rintro e w3 ⟨rfl, a2, cap2, hn3⟩
        have HI3 : Hid (NVs w2 w3 vb (some ⟨g, 0, none⟩) a2 cap2 (nums ws (k + 1))) := Lib.hid (HI.out.trans hn3)
        clear hn3 HT
        go_wp2_with fail
        go_roundw
        case rel => exact ⟨k + 1, a2, cap2, by omega, by go_num, HI3⟩
        case measure => simp [intOf]; omega
      · have hkn' : ¬ (k : Int) < (n : Int) := by omega
        obtain rfl : k = n := by omega
        have e0 : wr.cell? ⟨vb, 0, none⟩ = some (.slice a' (nums ws k).length cap') := block_cell HI.out.nv.obj rfl
        go_wp2_with fail
        go_ret
        refine ⟨a', cap', rfl, HI.out.nv.row, new_only HW2.out.1 HI.out.only (fun j hf => ?_), fun j hj => ?_⟩
        · have h2 := HW2.out
          rcases hf with e | e
          · omega
          · have : g = j := e
            omega
        · have h2 := HW2.out
          rcases HI.out.fresh j hj with e | e
          · have : g = j := e
            omega
          · have := h2.1.size; omega
end
end Go.Proofs.Ytacjkbljokjdkaa.ba
