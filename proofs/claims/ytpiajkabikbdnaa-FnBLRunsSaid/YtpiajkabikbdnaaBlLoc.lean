/-
  The locations of a piece of data: location, Locations; Add, Test, TestAndAdd of a filter.
-/
import Derived.Test.YtpiajkabikbdnaaMur2
import Derived.Deep.RegionWith
namespace Go.Proofs.Ytpiajkabikbdnaa.bs
open Go.RowKit Go.Proofs.Ytpiajkabikbdnaa.base Go.Proofs.Ytpiajkabikbdnaa.heap Go.Proofs.Ytpiajkabikbdnaa.bit
set_option linter.unusedVariables false

/-- the i-th location of four numbers, as a number below 2^64 -/
def hAt (y : Int × Int × Int × Int) (i : Nat) : Int := match i with | 0 => y.1 | 1 => y.2.1 | 2 => y.2.2.1 | _ => y.2.2.2
def locI (y : Int × Int × Int × Int) (i : Nat) : Int := (hAt y (i % 2) + (i : Int) * hAt y (2 + (i + i % 2) % 4 / 2)) % 18446744073709551616
def loc (y : Int × Int × Int × Int) (i : Nat) : Nat := (locI y i).toNat
theorem loc_lt (y : Int × Int × Int × Int) (i : Nat) : Lt64 (loc y i) := by unfold Lt64 loc locI; omega
theorem loc_eq (y : Int × Int × Int × Int) (i : Nat) : ((loc y i : Nat) : Int) = IntKind.u64.wrap (hAt y (i % 2) + IntKind.u64.wrap ((i : Int) * hAt y (2 + (i + i % 2) % 4 / 2))) := by
  rw [IntKind.wrap_u64, IntKind.wrap_u64]
  unfold loc locI
  generalize (i : Int) * hAt y (2 + (i + i % 2) % 4 / 2) = z
  omega
theorem locs_ok (y : Int × Int × Int × Int) (k : Nat) : Ok ((List.range k).map (loc y)) := by
  intro x hx
  obtain ⟨i, _, rfl⟩ := List.mem_map.1 hx
  exact loc_lt y i

set_option maxRecDepth 100000 in
set_option maxHeartbeats 1600000 in
theorem bl_location (y : Int × Int × Int × Int) (i : Nat) (hi : i ≤ 1048576) (w : World) : Calls Try.prog 54 #[H4 y, .int .u64 (i : Int)] w (FV w (.int .u64 ((loc y i : Nat) : Int))) := by
  rw [loc_eq]
  unfold H4
  obtain ⟨W, hW, hS, hB, hk⟩ := newBlock w #[.int .u64 y.1, .int .u64 y.2.1, .int .u64 y.2.2.1, .int .u64 y.2.2.2] 83
  have e1 : W.cell? ⟨w.heap.size, i % 2, none⟩ = some (.int .u64 (hAt y (i % 2))) := by
    rcases (show i % 2 = 0 ∨ i % 2 = 1 by omega) with h | h <;> rw [h] <;> exact block_cell hB rfl
  have e2 : W.cell? ⟨w.heap.size, 2 + (i + i % 2) % 4 / 2, none⟩ = some (.int .u64 (hAt y (2 + (i + i % 2) % 4 / 2))) := by
    rcases (show (i + i % 2) % 4 / 2 = 0 ∨ (i + i % 2) % 4 / 2 = 1 by omega) with h | h <;> rw [h] <;> exact block_cell hB rfl
  have b1 : i % 2 < 4 := by omega
  have b2 : 2 + (i + i % 2) % 4 / 2 < 4 := by omega
  have i0 : (0 : Int) ≤ (i : Int) := by omega
  have i1 : (i : Int) ≤ 1048576 := by omega
  go_enter Try.func54, Try.ntmps54
  go_wp2_with fail
  rw [← hW]
  have HS := Lib.hid hS
  clear hW hS hB hk
  have w1 : IntKind.u64.wrap ((i : Int) + (i : Int) % 2) = (i : Int) + (i : Int) % 2 := by rw [IntKind.wrap_u64]; omega
  have w2 : IntKind.u64.wrap (2 + ((i : Int) + (i : Int) % 2) % 4 / 2) = 2 + ((i : Int) + (i : Int) % 2) % 4 / 2 := by rw [IntKind.wrap_u64]; omega
  have p1 : (0 : Int) ≤ (i : Int) + (i : Int) % 2 := by omega
  have p2 : (0 : Int) ≤ ((i : Int) + (i : Int) % 2) % 4 := by omega
  have p3 : (0 : Int) ≤ 2 + ((i : Int) + (i : Int) % 2) % 4 / 2 := by omega
  have p4 : 2 + ((i : Int) + (i : Int) % 2) % 4 / 2 < 4 := by omega
  have p5 : (i : Int) % 2 < 4 := by omega
  have p6 : (0 : Int) ≤ (i : Int) % 2 := by omega
  have t1 : ((i : Int) % 2).toNat = i % 2 := by omega
  have t2 : (2 + ((i : Int) + (i : Int) % 2) % 4 / 2).toNat = 2 + (i + i % 2) % 4 / 2 := by omega
  go_quiet (fail)
  go_wp2
  go_ret
  exact ⟨rfl, HS.out.drewN _⟩

set_option maxRecDepth 100000 in
set_option maxHeartbeats 1600000 in
theorem bl_flocation (f : F) (y : Int × Int × Int × Int) (i : Nat) (hi : i ≤ 1048576) (w : World) (h : f.ok w) (hM : 0 < f.M) (hM2 : f.M ≤ 1048576) :
    Calls Try.prog 56 #[f.ptr, H4 y, .int .u64 (i : Int)] w (FV w (.int .u64 ((loc y i % f.M : Nat) : Int))) := by
  have H : Hid (∀ wx, Same w wx → f.ok wx) := Lib.hid (fun wx hx => h.keep hx (fun _ _ => id))
  have HL : Hid (∀ w0 wx, Same w0 wx → Calls Try.prog 54 #[H4 y, .int .u64 (i : Int)] wx (FV w0 (.int .u64 ((loc y i : Nat) : Int)))) := Lib.hid (fun w0 wx hx => (bl_location y i hi wx).mono fun e w' ⟨he, hO⟩ => ⟨he, Same.trans hx hO⟩)
  have HV : Hid (((loc y i : Nat) : Int) % (f.M : Int) = ((loc y i % f.M : Nat) : Int)) := Lib.hid (by omega)
  have hMi : (0 : Int) < (f.M : Int) := by omega
  have hM1 : (1 : Int) ≤ (f.M : Int) := by omega
  have hMne : ((f.M : Int) == 0) = false := by simp; omega
  have hMne' : ¬ (f.M : Int) = 0 := by omega
  clear h
  unfold F.ptr
  obtain ⟨y0, y1, y2, y3⟩ := y
  simp only [H4] at HL ⊢
  generalize loc (y0, y1, y2, y3) i = x at *
  go_enter Try.func56, Try.ntmps56
  go_wp2_with fail
  obtain ⟨W, hW, hS, hB, hk⟩ := newBlock w #[.int .u64 y0, .int .u64 y1, .int .u64 y2, .int .u64 y3] 83
  rw [← hW]
  have HK : Hid (∀ wx, Same W wx → wx.cell? ⟨w.heap.size, 0, none⟩ = some (.int .u64 y0) ∧ wx.cell? ⟨w.heap.size, 1, none⟩ = some (.int .u64 y1) ∧ wx.cell? ⟨w.heap.size, 2, none⟩ = some (.int .u64 y2) ∧ wx.cell? ⟨w.heap.size, 3, none⟩ = some (.int .u64 y3) ∧ wx.cell? ⟨f.p, 0, none⟩ = some (.int .u64 (f.M : Int))) := Lib.hid (fun wx hx =>
    ⟨block_cell (still hx hB) rfl, block_cell (still hx hB) rfl, block_cell (still hx hB) rfl, block_cell (still hx hB) rfl, (H.out wx (Same.trans hS hx)).cells.1⟩)
  obtain ⟨d0, d1, d2, d3, d4⟩ := HK.out W (Only.refl _ _)
  have HS := Lib.hid hS
  clear hW hS hB hk
  go_region_with ((go_at_call 54; (with_reducible refine (HL.out W _ (by first | exact Only.refl _ W | exact (Only.refl _ W).drew | exact (Only.refl _ W).drewN _)).mono ?_); rintro e w1 ⟨rfl, hO1⟩; obtain ⟨d0', d1', d2', d3', d4'⟩ := HK.out w1 hO1))
  all_goals
    rw [HV.out]
    go_wp2
    go_ret
    exact ⟨rfl, Same.trans HS.out hO1⟩

theorem make_words_u (k : Nat) (hk : k ≤ 1099511627776) (w : World) : (Instr.makeSlice 23 (.int .u64 (k : Int)) (.int .u64 (k : Int))).run Try.prog w =
    .ok (.slice (some ⟨w.heap.size, 0, none⟩) k k) (w.alloc (.cells (zs k) 59)) := by
  obtain ⟨ht, i, z, hi, hz, hsize, hby, hzs⟩ := slWord
  have hz' : i.zero = some (.int .u64 0) := by
    have h : (Try.prog.info? 59).map (fun i => (i.zero, i.size, i.bytes)) = some (some (.int .u64 0), 1, 8) := by kernel_rfl
    rw [hi] at h
    simpa using (by simpa using h : i.zero = some (.int .u64 0) ∧ _).1
  have h := run_make (P := Try.prog) w 23 59 i (.int .u64 0) ht hi hz' .u64 .u64 (k : Int) (k : Int) (by omega) (Int.le_refl _) (by rw [hby]; omega) (by omega)
  rw [hsize, Int.toNat_natCast, Nat.mul_one] at h
  exact h

/-- the first i of k locations are written -/
def locsTo (y : Int × Int × Int × Int) (k i : Nat) : List Nat := (List.range k).map fun j => if j < i then loc y j else 0
theorem locsTo_zero (y : Int × Int × Int × Int) (k : Nat) : locsTo y k 0 = List.replicate k 0 := by
  apply List.ext_getElem?
  intro i
  simp only [locsTo, List.getElem?_map, List.getElem?_replicate]
  by_cases h : i < k
  · rw [List.getElem?_range h]; simp [h]
  · rw [List.getElem?_eq_none (by simpa using Nat.le_of_not_lt h)]; simp [h]
theorem locsTo_all (y : Int × Int × Int × Int) (k : Nat) : locsTo y k k = (List.range k).map (loc y) := by
  unfold locsTo
  apply List.map_congr_left
  intro j hj
  rw [if_pos (List.mem_range.1 hj)]
theorem locsTo_succ (y : Int × Int × Int × Int) (k i : Nat) (hi : i < k) : locsTo y k (i + 1) = (locsTo y k i).set i (loc y i) := by
  apply List.ext_getElem?
  intro j
  simp only [locsTo, List.getElem?_map, List.getElem?_set, List.length_map, List.length_range]
  by_cases h : j < k
  · rw [List.getElem?_range h]
    by_cases e : i = j
    · subst e; simp [h]
    · simp [e]; split <;> split <;> first | rfl | omega
  · rw [List.getElem?_eq_none (by simpa using Nat.le_of_not_lt h)]
    have : ¬ i = j := by omega
    simp [this]
theorem locsTo_len (y : Int × Int × Int × Int) (k i : Nat) : (locsTo y k i).length = k := by simp [locsTo]

/-- k numbers are returned, from the world w0 on -/
def FNums (w0 : World) (n : Nat) (l : List Nat) (e : Ending) (w' : World) : Prop := ∃ a cap, e = .returned (.slice a n cap) ∧ RU w' a n cap l ∧ Same w0 w' ∧ ∀ j, At a j → w0.heap.size ≤ j

set_option maxRecDepth 100000 in
set_option maxHeartbeats 1600000 in
theorem bl_locations (f : List Nat → Int × Int × Int × Int) (hf : ∀ l w a n cap, n ≤ 1048576 → RY w a n cap l → Calls Try.prog 53 #[.slice a n cap] w (FV w (H4 (f l))))
    (l : List Nat) (a : Option Addr) (n cap K : Nat) (w : World) (h : RY w a n cap l) (hn : n ≤ 1048576) (hK : K ≤ 1048576) :
    Calls Try.prog 36 #[.slice a n cap, .int .u64 (K : Int)] w (FNums w K ((List.range K).map (loc (f l)))) := by
  have HF : Hid (∀ wx, Same w wx → Calls Try.prog 53 #[.slice a n cap] wx (FV wx (H4 (f l)))) := Lib.hid (fun wx hx => hf l wx a n cap hn (h.keep hx (fun _ _ => id)))
  clear hf h
  have hmk := fun w => make_words_u K (by omega) w
  go_enter Try.func36, Try.ntmps36
  go_wp2_with fail
  clear hmk
  obtain ⟨W0, hW0, hS0, hB0, hk0⟩ : ∃ W0, W0 = w.alloc (.cells (zs K) 59) ∧ Same w W0 ∧ W0.heap[w.heap.size]? = some (.cells (zs K) 59 (0, 0)) ∧ W0.heap.size = w.heap.size + 1 := ⟨_, rfl, (Only.refl _ w).alloc _, heap_alloc_new w _, by simp⟩
  rw [← hW0]
  have hown : Own 59 1 W0 (some ⟨w.heap.size, 0, none⟩) K K (U (locsTo (f l) K 0)) := by
    have := Own.of_block (size := 1) hB0 K K (Nat.le_refl _) (by unfold maxLen; omega) (by rw [zs_size]; omega) (by rw [zs_list]; intro u hu; exact U_one _ u (List.mem_of_mem_take hu))
    rwa [zs_list, List.take_of_length_le (by simp [U]), ← locsTo_zero (f l)] at this
  refine (HF.out W0 hS0).mono ?_
  rintro e w1 ⟨rfl, hO1⟩
  have HOWN1 := Lib.hid (hown.keep hO1 (fun _ _ => id))
  have hz1 : w.heap.size < w1.heap.size := by have := hO1.size; omega
  have HO1 := Lib.hid (Same.trans hS0 hO1)
  clear hW0 hS0 hB0 hk0 hown hO1 HF
  generalize f l = y at *
  have HL : Hid (∀ (i : Nat) wx, i ≤ 1048576 → Calls Try.prog 54 #[H4 y, .int .u64 (i : Int)] wx (FV wx (.int .u64 ((loc y i : Nat) : Int)))) := Lib.hid (fun i wx hi => bl_location y i hi wx)
  unfold H4 at *
  go_wp2_with fail
  obtain ⟨W, hW, hS, hB, hk⟩ := newBlock w1 #[.int .u64 y.1, .int .u64 y.2.1, .int .u64 y.2.2.1, .int .u64 y.2.2.2] 83
  rw [← hW]
  have HOWN := Lib.hid (HOWN1.out.keep hS (fun _ _ => id))
  have HS := Lib.hid (Same.trans HO1.out hS)
  have HB := Lib.hid hB
  clear hW hS hB HOWN1 HO1
  go_loopw [7] (fun i wr => ∃ k : Nat, k ≤ K ∧ i = .int .u64 (k : Int) ∧ Own 59 1 wr (some ⟨w.heap.size, 0, none⟩) K K (U (locsTo y K k)) ∧ wr.heap[w1.heap.size]? = some (.cells #[.int .u64 y.1, .int .u64 y.2.1, .int .u64 y.2.2.1, .int .u64 y.2.2.2] 83 (0, 0)) ∧ Same w wr) (fun i _ => K - (intOf i).toNat)
  case atStart => exact ⟨0, Nat.zero_le _, rfl, HOWN.out, HB.out, HS.out⟩
  case round =>
    obtain ⟨k, hk, rfl, hown, hbox, hO⟩ := hrel
    have HOW := Lib.hid hown
    have HBX := Lib.hid hbox
    have HO := Lib.hid hO
    clear hown hbox hO
    by_cases hlt : k < K
    · have hlt' : (k : Int) < (K : Int) := by omega
      obtain ⟨b0, b1, b2, b3⟩ : wr.cell? ⟨w1.heap.size, 0, none⟩ = some (.int .u64 y.1) ∧ wr.cell? ⟨w1.heap.size, 1, none⟩ = some (.int .u64 y.2.1) ∧ wr.cell? ⟨w1.heap.size, 2, none⟩ = some (.int .u64 y.2.2.1) ∧ wr.cell? ⟨w1.heap.size, 3, none⟩ = some (.int .u64 y.2.2.2) :=
        ⟨block_cell HBX.out rfl, block_cell HBX.out rfl, block_cell HBX.out rfl, block_cell HBX.out rfl⟩
      go_wp2_with fail
      refine (HL.out k wr (by omega)).mono ?_
      rintro e w2 ⟨rfl, hO2⟩
      have HOW2 := Lib.hid (HOW.out.keep hO2 (fun _ _ => id))
      have HBX2 := Lib.hid (still hO2 HBX.out)
      have HO2 := Lib.hid (Same.trans HO.out hO2)
      have HX : Hid (locsTo y K (k + 1) = (locsTo y K k).set k (loc y k)) := Lib.hid (locsTo_succ y K k hlt)
      obtain ⟨bb, hbb, hbl, hbc⟩ := HOW2.out.at (by omega)
      cases hbb
      have cs : w2.cell? ⟨w.heap.size, k, none⟩ = some (.int .u64 ((locsTo y K k).getD k 0 : Nat)) := by
        have := hbc k _ (U_get _ k (by rw [locsTo_len]; exact hlt))
        simpa using this
      have fs := HOW2.out.frozen rfl k
      have hlen2 : (w.heap.size : Nat) ≠ w1.heap.size := by omega
      clear hbc hO2
      go_wp2_with fail
      go_roundw
      case rel =>
        refine ⟨k + 1, by omega, by go_num, ?_, ?_, HO2.out.setCell _ _ (fun h => absurd h (by simp))⟩
        · rw [HX.out, ← U_set]
          exact HOW2.out.set rfl k _ rfl (by omega)
        · rw [Below.heap_setCell _ _ _ _ (by exact hlen2.symm)]; exact HBX2.out
      case measure => simp [intOf]; omega
    · obtain rfl : k = K := by omega
      have HE : Hid (FNums w k ((List.range k).map (loc y)) (.returned (.slice (some ⟨w.heap.size, 0, none⟩) k k)) wr) := Lib.hid (by
        have hx := HOW.out.rd
        rw [locsTo_all] at hx
        exact ⟨some ⟨w.heap.size, 0, none⟩, k, rfl, ⟨hx, by rw [List.length_map, List.length_range]⟩, HO.out, fun j hj => Nat.le_of_eq (show w.heap.size = j from hj)⟩)
      go_wp2_with fail
      go_ret
      exact HE.out

/-- the bits at all locations are set, too -/
def putAll (b : List Bool) (ls : List Nat) : List Bool := ls.foldl (fun d x => d.set (x % b.length) true) b
theorem foldl_len (M : Nat) (ls : List Nat) : ∀ d : List Bool, (ls.foldl (fun d x => d.set (x % M) true) d).length = d.length := by
  induction ls with
  | nil => intro d; rfl
  | cons x xs ih => intro d; rw [List.foldl_cons, ih, List.length_set]
theorem putAll_len (b : List Bool) (ls : List Nat) : (putAll b ls).length = b.length := foldl_len b.length ls b
theorem putAll_take (b : List Bool) (ls : List Nat) (k : Nat) (hk : k < ls.length) : putAll b (ls.take (k + 1)) = (putAll b (ls.take k)).set (ls.getD k 0 % b.length) true := by
  unfold putAll
  rw [List.take_succ_eq_append_getElem hk, List.foldl_append]
  simp [hk]
theorem getD_setb (d : List Bool) (k j : Nat) (x : Bool) : (d.set k x).getD j false = if k = j ∧ j < d.length then x else d.getD j false := by
  simp only [List.getD_eq_getElem?_getD, List.getElem?_set]
  by_cases h : k = j
  · subst h
    by_cases h2 : k < d.length
    · simp [h2]
    · simp [h2]
  · simp [h]
end Go.Proofs.Ytpiajkabikbdnaa.bs
