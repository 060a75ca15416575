/-
  FnBAMeetMixed: the walk. A dense array is told to intersect with a sparse one of no greater capacity exactly if all of that one's bits are set in it.
-/
import Derived.Test.YtacjkbljokjdkaaGreatZBaMeetM
import Derived.Test.YtacjkbljokjdkaaGreatZBaAndM
import Derived.Deep.RegionLaw
import Derived.Deep.RegionHeld3
namespace Go.Proofs.YtacjkbljokjdkaaGreat.walkFnBAMeetMixed
open Go.RowKit Go.Proofs.YtacjkbljokjdkaaGreat.base Go.Proofs.YtacjkbljokjdkaaGreat.heap Go.Proofs.YtacjkbljokjdkaaGreat.rows Go.Proofs.YtacjkbljokjdkaaGreat.bit Go.Proofs.YtacjkbljokjdkaaGreat.bs Go.Proofs.YtacjkbljokjdkaaGreat.ba
set_option linter.unusedVariables false
set_option maxRecDepth 100000 in
theorem askDS (s1 s2 : Nat) (hs1 : s1 < 65536) (a b : Option Addr) (n ca m cb : Nat) (l1 l2 : List Nat) (w : World) (h1 : RL uv w a n ca l1) (h2 : RL uv w b m cb l2) :
    Calls Tryz.prog 13 #[.int .i64 8, .bool true, .bool false, .bool false, .agg #[.int .u16 (s1 : Int), .int .u16 (s2 : Int)], .slice a n ca, .slice b m cb, .func (Fn.func 14) #[] #[], .func (Fn.func 15) #[] #[]] w (FV w (.bool true)) := by
  obtain ⟨m1, hm1⟩ : ∃ m1, 1 + s1 % 512 = m1 := ⟨_, rfl⟩
  obtain ⟨q1, hq1⟩ : ∃ q1, (m1 + 63) / 64 = q1 := ⟨_, rfl⟩
  have M1 : MadeC true s1 0 a n ca l1 m1 q1 := by have := madeCD (s := s1) (on := 0) (a := a) (n := n) (c := ca) (l := l1) hs1 (by omega); rw [hm1, hq1] at this; exact this
  have hA2 : (l1.take 40).length ≤ 40 := by rw [List.length_take]; omega
  have hB := madeS_len false 0 (l2.take 40)
  have hB2 : (l2.take 40).length ≤ 40 := by rw [List.length_take]; omega
  exact baAskG1 8 true false s1 s2 a b n ca m cb l1 l2 _ _ 14 15 m1 q1 0 0 (decide (∀ k ∈ madeS false 0 (l2.take 40), k ∈ madeS true q1 (l1.take 40))) (decide (capL (madeS false 0 (l2.take 40)) ≤ 64 * q1)) w (fun _ _ => rfl) (fun _ _ => rfl)
    h1 h2 rfl rfl M1 (madeCS (by omega)) (fitsLonger q1 _ _ (madeS_lt60 _ _ _) (by omega) (by omega)) (isWithin (madeS_asc _ _ _) (by omega))
    (fun hf => runs_ask1 (.inl ⟨rfl, by omega, hq1, by omega⟩) (.inr ⟨rfl, rfl, rfl⟩) hA2 hB2
      (does_meetDS (s := [⟨true, q1, madeS true q1 (l1.take 40)⟩, ⟨false, 0, madeS false 0 (l2.take 40)⟩]) (i := 0) (j := 1) rfl rfl rfl rfl (capL_room (madeS_asc _ _ _) (by simpa using hf))))
/-- a small list is handed back -/
def SmP (W0 wx : World) (L : List Nat) (e : Ending) (w' : World) : Prop := ∃ a c, e = .returned (.slice a L.length c) ∧ Hid (OU w' a L.length c L) ∧ Same W0 w' ∧ Same wx w'
set_option maxRecDepth 100000 in
set_option maxHeartbeats 3200000 in
theorem main (s1 s2 : Nat) (hs1 : s1 < 65536) (a b : Option Addr) (n ca m cb : Nat) (l1 l2 : List Nat) (w : World) (h1 : RL uv w a n ca l1) (h2 : RL uv w b m cb l2) :
    Calls Tryz.prog 4 #[.agg #[.int .u16 (s1 : Int), .int .u16 (s2 : Int)], .slice a n ca, .slice b m cb] w (FV w (.bool true)) := by
  have hb1 := h1.bound
  have hb2 := h2.bound
  have HS : Hid (∀ A, Same w (w.alloc A)) := Lib.hid (fun A => (Only.refl _ _).alloc _)
  have H1 := Lib.hid h1
  have H2 := Lib.hid h2
  clear h1 h2
  by_cases hn : (2147483647 : Int) < (n : Int)
  · go_enter Tryz.func4, Tryz.ntmps4
    go_wp2_with fail
    go_ret
    exact ⟨rfl, HS.out _⟩
  by_cases hm : (2147483647 : Int) < (m : Int)
  · go_enter Tryz.func4, Tryz.ntmps4
    go_wp2_with fail
    go_ret
    exact ⟨rfl, HS.out _⟩
  have HB2 : Hid (∀ wx, Same w wx → Calls Tryz.prog 10 #[.slice b m cb] wx (PutP (l2.map (· % 2000)) none wx)) := Lib.hid (fun wx hS => baSmallW (H2.out.still hS) (by omega))
  obtain ⟨L2, HL2⟩ : ∃ L, Hid (l2.map (· % 2000) = L) := ⟨_, Lib.hid rfl⟩
  rw [HL2.out] at HB2
  have HT : Hid (∀ wx b' d', Same w wx → OU wx b' L2.length d' L2 → Calls Tryz.prog 13 #[.int .i64 8, .bool true, .bool false, .bool false, .agg #[.int .u16 (s1 : Int), .int .u16 (s2 : Int)], .slice a n ca, .slice b' L2.length d', .func (Fn.func 14) #[] #[], .func (Fn.func 15) #[] #[]] wx (FV wx (.bool true))) := Lib.hid (fun wx b' d' g1 g2 =>
    askDS s1 s2 hs1 a b' n ca _ d' l1 L2 wx (H1.out.still g1) g2.rl)
  clear HL2 H1 H2
  go_enter Tryz.func4, Tryz.ntmps4
  go_wp2_with fail
  have HS0 := Lib.hid (HS.out (.cells #[.int .u16 (s1 : Int), .int .u16 (s2 : Int)] 23))
  have ho := heap_alloc_new w (.cells #[.int .u16 (s1 : Int), .int .u16 (s2 : Int)] 23)
  have HOB := Lib.hid ho
  obtain ⟨W0, hW0⟩ : ∃ W0, W0 = w.alloc (.cells #[.int .u16 (s1 : Int), .int .u16 (s2 : Int)] 23) := ⟨_, rfl⟩
  obtain ⟨g, hg⟩ : ∃ g, w.heap.size = g := ⟨_, rfl⟩
  rw [← hW0] at HS0 HOB ⊢
  rw [hg] at HOB ⊢
  clear hW0 hg ho
  have c0 : W0.cell? ⟨g, 0, none⟩ = some (.int .u16 (s1 : Int)) := block_cell HOB.out rfl
  have c1 : W0.cell? ⟨g, 1, none⟩ = some (.int .u16 (s2 : Int)) := block_cell HOB.out rfl
  have HK : Hid (∀ wx, Same W0 wx → wx.cell? ⟨g, 0, none⟩ = some (.int .u16 (s1 : Int)) ∧ wx.cell? ⟨g, 1, none⟩ = some (.int .u16 (s2 : Int))) := Lib.hid (fun wx hS => ⟨block_cell (hS.obj HOB.out id) rfl, block_cell (hS.obj HOB.out id) rfl⟩)
  have HC2 : Hid (∀ wx, Same W0 wx → Calls Tryz.prog 10 #[.slice b m cb] wx (SmP W0 wx L2)) := Lib.hid (fun wx hS => (HB2.out wx (Same.trans HS0.out hS)).mono fun e w' ⟨a', c', h1, h2, h3, _⟩ => ⟨a', c', h1, Lib.hid h2, Same.trans hS h3, h3⟩)
  have HC3 : Hid (∀ w2 b' d', Hid (OU w2 b' L2.length d' L2) → Same W0 w2 → Calls Tryz.prog 13 #[.int .i64 8, .bool true, .bool false, .bool false, .agg #[.int .u16 (s1 : Int), .int .u16 (s2 : Int)], .slice a n ca, .slice b' L2.length d', .func (Fn.func 14) #[] #[], .func (Fn.func 15) #[] #[]] w2 (fun e w' => e = .returned (.bool true) ∧ Same W0 w')) := Lib.hid (fun w2 b' d' g3 g4 => (HT.out w2 b' d' (Same.trans HS0.out g4) g3.out).mono fun e w' h => ⟨h.1, Same.trans g4 h.2⟩)
  clear HB2 HT HOB
  go_region_held3 (fun w' => w'.cell? ⟨g, 0, none⟩ = some (.int .u16 (s1 : Int)) ∧ w'.cell? ⟨g, 1, none⟩ = some (.int .u16 (s2 : Int))) (first | exact HK.out _ (Only.drew (Only.refl _ _)) | exact HK.out _ (by assumption)) (first
    | ((go_at_call 10; (with_reducible refine (HC2.out _ (by exact (Only.refl _ W0).drew)).mono ?_); rintro e w2 ⟨a2, c2, rfl, hO2, hS2, hT2⟩))
    | ((go_at_call 13; (with_reducible refine (HC3.out w2 a2 c2 hO2 hS2).mono ?_); rintro e w3 ⟨rfl, hS3⟩)))
  all_goals
    have HS3 := Lib.hid (Same.trans HS0.out hS3)
    clear hS3
    go_wp2_with fail
    go_ret
    exact ⟨rfl, HS3.out⟩
theorem walk (W : World) (v0 v1 v2 : Value) (r0 : Reads Tryz.prog W 23 v0) (r1 : Reads Tryz.prog W 24 v1) (r2 : Reads Tryz.prog W 24 v2) :
    Calls Tryz.prog 4 #[v0, v1, v2] W fun e w' => e = .returned (.bool true) ∧ Below W.heap.size W w' := by
  obtain ⟨s1, s2, rfl, w1, w2⟩ := reads_pair r0 Tryz.underlying23 Tryz.underlying22 (by kernel_rfl) (by kernel_rfl)
  obtain ⟨a, n, ca, l1, rfl, h1, _⟩ := reads_nums r1 Tryz.underlying24 Tryz.underlying34 (by kernel_rfl) (fun n h => (wf_u64 h).1)
  obtain ⟨b, m, cb, l2, rfl, h2, _⟩ := reads_nums r2 Tryz.underlying24 Tryz.underlying34 (by kernel_rfl) (fun n h => (wf_u64 h).1)
  have b1 := wf_u16 w1
  have b2 := wf_u16 w2
  obtain ⟨t1, rfl⟩ : ∃ t : Nat, s1 = (t : Int) := ⟨s1.toNat, by omega⟩
  obtain ⟨t2, rfl⟩ : ∃ t : Nat, s2 = (t : Int) := ⟨s2.toNat, by omega⟩
  exact (main t1 t2 (by omega) a b n ca m cb l1 l2 W h1 h2).mono fun e w' ⟨he, hS⟩ => ⟨he, Only.below hS (Nat.le_refl _) (fun _ _ => id)⟩
end Go.Proofs.YtacjkbljokjdkaaGreat.walkFnBAMeetMixed
