/-
  FnBAAndMixed: the walk. What a dense and a sparse array make by And, in either order, has the bits of both.
-/
import Derived.Test.YtacjkbljokjdkaaGreatZBaAndM
import Derived.Deep.RegionLaw
import Derived.Deep.RegionHeld3
namespace Go.Proofs.YtacjkbljokjdkaaGreat.walkFnBAAndMixed
open Go.RowKit Go.Proofs.YtacjkbljokjdkaaGreat.base Go.Proofs.YtacjkbljokjdkaaGreat.heap Go.Proofs.YtacjkbljokjdkaaGreat.rows Go.Proofs.YtacjkbljokjdkaaGreat.bit Go.Proofs.YtacjkbljokjdkaaGreat.bs Go.Proofs.YtacjkbljokjdkaaGreat.ba
set_option linter.unusedVariables false
set_option maxRecDepth 100000 in
theorem twoDS (s1 s2 : Nat) (hs1 : s1 < 65536) (a b : Option Addr) (n ca m cb : Nat) (l1 l2 : List Nat) (w : World) (h1 : RL uv w a n ca l1) (h2 : RL uv w b m cb l2) :
    Calls Tryz.prog 9 #[.int .i64 12, .bool true, .bool false, .agg #[.int .u16 (s1 : Int), .int .u16 (s2 : Int)], .slice a n ca, .slice b m cb, .func (Fn.func 11) #[] #[], .func (Fn.func 12) #[] #[]] w (FV w (.bool true)) := by
  obtain ⟨m1, hm1⟩ : ∃ m1, 1 + s1 % 512 = m1 := ⟨_, rfl⟩
  obtain ⟨q1, hq1⟩ : ∃ q1, (m1 + 63) / 64 = q1 := ⟨_, rfl⟩
  have M1 : MadeC true s1 0 a n ca l1 m1 q1 := by have := madeCD (s := s1) (on := 0) (a := a) (n := n) (c := ca) (l := l1) hs1 (by omega); rw [hm1, hq1] at this; exact this
  have hA := madeS_len true q1 (l1.take 40)
  have hA2 : (l1.take 40).length ≤ 40 := by rw [List.length_take]; omega
  have hB := madeS_len false 0 (l2.take 40)
  have hB2 : (l2.take 40).length ≤ 40 := by rw [List.length_take]; omega
  have hC := andL_len (madeS true q1 (l1.take 40)) (madeS false 0 (l2.take 40))
  exact baTwoG 12 true false s1 s2 a b n ca m cb l1 l2 _ _ 11 12 m1 q1 0 0 (andL (madeS true q1 (l1.take 40)) (madeS false 0 (l2.take 40))) (decide (∀ k ∈ madeS false 0 (l2.take 40), k < 64 * q1)) w (fun _ _ => rfl) (fun _ _ => rfl)
    h1 h2 rfl rfl M1 (madeCS (by omega)) (roomDS q1 0 _ _ (madeS_asc _ _ _) (by omega) (by omega)) (makesAnd (by omega) (madeS_asc _ _ _)) (by omega)
    (fun hf => runs_made (z := ⟨false, 0, andL (madeS true q1 (l1.take 40)) (madeS false 0 (l2.take 40))⟩) (.inl ⟨rfl, by omega, hq1, by omega⟩) (.inr ⟨rfl, rfl, rfl⟩) hA2 hB2 (fun _ => ⟨by show (andL _ _).length ≤ _; omega, fun k hk => madeS_lt60 true q1 _ k ((List.mem_filter.1 hk).1)⟩)
      (does_andDS (s := [⟨true, q1, madeS true q1 (l1.take 40)⟩, ⟨false, 0, madeS false 0 (l2.take 40)⟩]) (i := 0) (j := 1) rfl rfl rfl rfl (by simpa using hf)))
set_option maxRecDepth 100000 in
theorem twoSD (s1 s2 : Nat) (hs2 : s2 < 65536) (a b : Option Addr) (n ca m cb : Nat) (l1 l2 : List Nat) (w : World) (h1 : RL uv w a n ca l1) (h2 : RL uv w b m cb l2) :
    Calls Tryz.prog 9 #[.int .i64 12, .bool false, .bool true, .agg #[.int .u16 (s1 : Int), .int .u16 (s2 : Int)], .slice a n ca, .slice b m cb, .func (Fn.func 11) #[] #[], .func (Fn.func 12) #[] #[]] w (FV w (.bool true)) := by
  obtain ⟨m2, hm2⟩ : ∃ m2, 1 + s2 % 512 = m2 := ⟨_, rfl⟩
  obtain ⟨q2, hq2⟩ : ∃ q2, (m2 + 63) / 64 = q2 := ⟨_, rfl⟩
  have M2 : MadeC true s2 1 b m cb l2 m2 q2 := by have := madeCD (s := s2) (on := 1) (a := b) (n := m) (c := cb) (l := l2) hs2 (by omega); rw [hm2, hq2] at this; exact this
  have hA := madeS_len false 0 (l1.take 40)
  have hA2 : (l1.take 40).length ≤ 40 := by rw [List.length_take]; omega
  have hB := madeS_len true q2 (l2.take 40)
  have hB2 : (l2.take 40).length ≤ 40 := by rw [List.length_take]; omega
  have hC := andL_len (madeS false 0 (l1.take 40)) (madeS true q2 (l2.take 40))
  exact baTwoG 12 false true s1 s2 a b n ca m cb l1 l2 _ _ 11 12 0 0 m2 q2 (andL (madeS false 0 (l1.take 40)) (madeS true q2 (l2.take 40))) (decide (∀ k ∈ madeS false 0 (l1.take 40), k < 64 * q2)) w (fun _ _ => rfl) (fun _ _ => rfl)
    h1 h2 rfl rfl (madeCS (by omega)) M2 (roomSD 0 q2 _ _ (madeS_asc _ _ _) (by omega) (by omega)) (makesAnd (by omega) (madeS_asc _ _ _)) (by omega)
    (fun hf => runs_made (z := ⟨false, 0, andL (madeS false 0 (l1.take 40)) (madeS true q2 (l2.take 40))⟩) (.inr ⟨rfl, rfl, rfl⟩) (.inl ⟨rfl, by omega, hq2, by omega⟩) hA2 hB2 (fun _ => ⟨by show (andL _ _).length ≤ _; omega, fun k hk => madeS_lt60 false 0 _ k ((List.mem_filter.1 hk).1)⟩)
      (does_andSD (s := [⟨false, 0, madeS false 0 (l1.take 40)⟩, ⟨true, q2, madeS true q2 (l2.take 40)⟩]) (i := 0) (j := 1) rfl rfl rfl rfl (by simpa using hf)))
/-- a small list is handed back -/
def SmP (W0 wx : World) (L : List Nat) (e : Ending) (w' : World) : Prop := ∃ a c, e = .returned (.slice a L.length c) ∧ Hid (OU w' a L.length c L) ∧ Same W0 w' ∧ Same wx w'
set_option maxRecDepth 100000 in
set_option maxHeartbeats 3200000 in
theorem main (s1 s2 : Nat) (hs1 : s1 < 65536) (hs2 : s2 < 65536) (a b : Option Addr) (n ca m cb : Nat) (l1 l2 : List Nat) (fb : Bool) (w : World) (h1 : RL uv w a n ca l1) (h2 : RL uv w b m cb l2) :
    Calls Tryz.prog 3 #[.agg #[.int .u16 (s1 : Int), .int .u16 (s2 : Int)], .slice a n ca, .slice b m cb, .bool fb] w (FV w (.bool true)) := by
  have hb1 := h1.bound
  have hb2 := h2.bound
  have HS : Hid (∀ A, Same w (w.alloc A)) := Lib.hid (fun A => (Only.refl _ _).alloc _)
  have H1 := Lib.hid h1
  have H2 := Lib.hid h2
  clear h1 h2
  by_cases hn : (2147483647 : Int) < (n : Int)
  · go_enter Tryz.func3, Tryz.ntmps3
    go_wp2_with fail
    go_ret
    exact ⟨rfl, HS.out _⟩
  by_cases hm : (2147483647 : Int) < (m : Int)
  · go_enter Tryz.func3, Tryz.ntmps3
    go_wp2_with fail
    go_ret
    exact ⟨rfl, HS.out _⟩
  have HB1 : Hid (∀ wx, Same w wx → Calls Tryz.prog 10 #[.slice a n ca] wx (PutP (l1.map (· % 2000)) none wx)) := Lib.hid (fun wx hS => baSmallW (H1.out.still hS) (by omega))
  have HB2 : Hid (∀ wx, Same w wx → Calls Tryz.prog 10 #[.slice b m cb] wx (PutP (l2.map (· % 2000)) none wx)) := Lib.hid (fun wx hS => baSmallW (H2.out.still hS) (by omega))
  obtain ⟨L1, HL1⟩ : ∃ L, Hid (l1.map (· % 2000) = L) := ⟨_, Lib.hid rfl⟩
  obtain ⟨L2, HL2⟩ : ∃ L, Hid (l2.map (· % 2000) = L) := ⟨_, Lib.hid rfl⟩
  rw [HL1.out] at HB1
  rw [HL2.out] at HB2
  have HT : Hid (∀ wx a' c' b' d', OU wx a' L1.length c' L1 → OU wx b' L2.length d' L2 → Calls Tryz.prog 9 #[.int .i64 12, .bool fb, .bool (!fb), .agg #[.int .u16 (s1 : Int), .int .u16 (s2 : Int)], .slice a' L1.length c', .slice b' L2.length d', .func (Fn.func 11) #[] #[], .func (Fn.func 12) #[] #[]] wx (FV wx (.bool true))) := Lib.hid (fun wx a' c' b' d' g1 g2 => by
    cases fb with
    | true => exact twoDS s1 s2 hs1 a' b' _ c' _ d' L1 L2 wx g1.rl g2.rl
    | false => exact twoSD s1 s2 hs2 a' b' _ c' _ d' L1 L2 wx g1.rl g2.rl)
  clear HL1 HL2 H1 H2
  go_enter Tryz.func3, Tryz.ntmps3
  go_wp2_with fail
  have HS0 := Lib.hid (HS.out (.cells #[.int .u16 (s1 : Int), .int .u16 (s2 : Int)] 23))
  have ho := heap_alloc_new w (.cells #[.int .u16 (s1 : Int), .int .u16 (s2 : Int)] 23)
  have HOB := Lib.hid ho
  obtain ⟨W0, hW0⟩ : ∃ W0, W0 = w.alloc (.cells #[.int .u16 (s1 : Int), .int .u16 (s2 : Int)] 23) := ⟨_, rfl⟩
  obtain ⟨g, hg⟩ : ∃ g, w.heap.size = g := ⟨_, rfl⟩
  rw [← hW0] at HS0 HOB ⊢
  rw [hg] at HOB ⊢
  clear hW0 hg ho
  have c0 : W0.cell? ⟨g, 0, none⟩ = some (.int .u16 (s1 : Int)) := block_cell HOB.out rfl
  have c1 : W0.cell? ⟨g, 1, none⟩ = some (.int .u16 (s2 : Int)) := block_cell HOB.out rfl
  have HK : Hid (∀ wx, Same W0 wx → wx.cell? ⟨g, 0, none⟩ = some (.int .u16 (s1 : Int)) ∧ wx.cell? ⟨g, 1, none⟩ = some (.int .u16 (s2 : Int))) := Lib.hid (fun wx hS => ⟨block_cell (hS.obj HOB.out id) rfl, block_cell (hS.obj HOB.out id) rfl⟩)
  have HC1 : Hid (∀ wx, Same W0 wx → Calls Tryz.prog 10 #[.slice a n ca] wx (SmP W0 wx L1)) := Lib.hid (fun wx hS => (HB1.out wx (Same.trans HS0.out hS)).mono fun e w' ⟨a', c', h1, h2, h3, _⟩ => ⟨a', c', h1, Lib.hid h2, Same.trans hS h3, h3⟩)
  have HC2 : Hid (∀ wx, Same W0 wx → Calls Tryz.prog 10 #[.slice b m cb] wx (SmP W0 wx L2)) := Lib.hid (fun wx hS => (HB2.out wx (Same.trans HS0.out hS)).mono fun e w' ⟨a', c', h1, h2, h3, _⟩ => ⟨a', c', h1, Lib.hid h2, Same.trans hS h3, h3⟩)
  have HC3 : Hid (∀ w1 w2 a' c' b' d', Hid (OU w1 a' L1.length c' L1) → Same w1 w2 → Hid (OU w2 b' L2.length d' L2) → Same W0 w2 → Calls Tryz.prog 9 #[.int .i64 12, .bool fb, .bool (!fb), .agg #[.int .u16 (s1 : Int), .int .u16 (s2 : Int)], .slice a' L1.length c', .slice b' L2.length d', .func (Fn.func 11) #[] #[], .func (Fn.func 12) #[] #[]] w2 (fun e w' => e = .returned (.bool true) ∧ Same W0 w')) := Lib.hid (fun w1 w2 a' c' b' d' g1 g2 g3 g4 => (HT.out w2 a' c' b' d' (g1.out.still g2) g3.out).mono fun e w' h => ⟨h.1, Same.trans g4 h.2⟩)
  clear HB1 HB2 HT HOB
  go_region_held3 (fun w' => w'.cell? ⟨g, 0, none⟩ = some (.int .u16 (s1 : Int)) ∧ w'.cell? ⟨g, 1, none⟩ = some (.int .u16 (s2 : Int))) (first | exact HK.out _ (Only.drew (Only.refl _ _)) | exact HK.out _ (by assumption)) (first
    | ((go_at_call 10; (with_reducible refine (HC1.out _ (by exact (Only.refl _ W0).drew)).mono ?_); rintro e w1 ⟨a1, c1, rfl, hO1, hS1, hT1⟩))
    | ((go_at_call 10; (with_reducible refine (HC2.out w1 hS1).mono ?_); rintro e w2 ⟨a2, c2, rfl, hO2, hS2, hT2⟩))
    | ((go_at_call 9; (with_reducible refine (HC3.out w1 w2 a1 c1 a2 c2 hO1 hT2 hO2 hS2).mono ?_); rintro e w3 ⟨rfl, hS3⟩)))
  all_goals
    have HS3 := Lib.hid (Same.trans HS0.out hS3)
    clear hS3
    go_wp2_with fail
    go_ret
    exact ⟨rfl, HS3.out⟩
theorem walk (W : World) (v0 v1 v2 v3 : Value) (r0 : Reads Tryz.prog W 23 v0) (r1 : Reads Tryz.prog W 24 v1) (r2 : Reads Tryz.prog W 24 v2) (r3 : Reads Tryz.prog W 4 v3) :
    Calls Tryz.prog 3 #[v0, v1, v2, v3] W fun e w' => e = .returned (.bool true) ∧ Below W.heap.size W w' := by
  obtain ⟨s1, s2, rfl, w1, w2⟩ := reads_pair r0 Tryz.underlying23 Tryz.underlying22 (by kernel_rfl) (by kernel_rfl)
  obtain ⟨a, n, ca, l1, rfl, h1, _⟩ := reads_nums r1 Tryz.underlying24 Tryz.underlying34 (by kernel_rfl) (fun n h => (wf_u64 h).1)
  obtain ⟨b, m, cb, l2, rfl, h2, _⟩ := reads_nums r2 Tryz.underlying24 Tryz.underlying34 (by kernel_rfl) (fun n h => (wf_u64 h).1)
  obtain ⟨fb, rfl⟩ := Reads.bool r3 Tryz.underlying4
  have b1 := wf_u16 w1
  have b2 := wf_u16 w2
  obtain ⟨t1, rfl⟩ : ∃ t : Nat, s1 = (t : Int) := ⟨s1.toNat, by omega⟩
  obtain ⟨t2, rfl⟩ : ∃ t : Nat, s2 = (t : Int) := ⟨s2.toNat, by omega⟩
  exact (main t1 t2 (by omega) (by omega) a b n ca m cb l1 l2 fb W h1 h2).mono fun e w' ⟨he, hS⟩ => ⟨he, Only.below hS (Nat.le_refl _) (fun _ _ => id)⟩
end Go.Proofs.YtacjkbljokjdkaaGreat.walkFnBAAndMixed
