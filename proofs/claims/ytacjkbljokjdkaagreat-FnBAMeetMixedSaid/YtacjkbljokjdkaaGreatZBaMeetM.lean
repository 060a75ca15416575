/-
  Intersects of a dense array and a sparse one, by their bits; what the specification says of it.
-/
import Derived.Test.YtacjkbljokjdkaaGreatZBaMeet
import Derived.Test.YtacjkbljokjdkaaGreatZBaAskW
import Derived.Test.YtacjkbljokjdkaaGreatMH
import Derived.Deep.RegionHeld3
namespace Go.Proofs.YtacjkbljokjdkaaGreat.ba
open Go.RowKit Go.Proofs.YtacjkbljokjdkaaGreat.base Go.Proofs.YtacjkbljokjdkaaGreat.heap Go.Proofs.YtacjkbljokjdkaaGreat.rows Go.Proofs.YtacjkbljokjdkaaGreat.bit Go.Proofs.YtacjkbljokjdkaaGreat.bs
set_option linter.unusedVariables false
theorem capP_le {Q : List (Nat × Nat)} {q : Nat} (h : ∀ x ∈ Q, x.1 < q) : capP Q ≤ 64 * q := by
  by_cases hz : Q.length = 0
  · rw [capP_nil hz]; omega
  · obtain ⟨m, hm⟩ : ∃ m, Q.length = m + 1 := ⟨Q.length - 1, by omega⟩
    have hx : Q[m]? = some (Q[m]'(by omega)) := List.getElem?_eq_getElem _
    rw [capP_last hm hx]
    have := h _ (List.mem_of_getElem? hx)
    omega
theorem room_pairs' {P : List (Nat × Nat)} {l : List Nat} (hg : Good P) (hr : Rep (wd P) l) {q : Nat} (h : ∀ k ∈ l, k < 64 * q) : ∀ x ∈ P, x.1 < q := fun x hx => by
  obtain ⟨k, hk, e⟩ := pair_bit hg hr hx
  have := h k hk
  omega
section
variable {w : World} {p1 c1 lo hi p2 cb2 ci2 : Nat} {a1 ab2 ai2 : Option Addr} {ws l1 l2 : List Nat} {any : Bool} {Q : List (Nat × Nat)}
set_option maxRecDepth 100000 in
set_option maxHeartbeats 1600000 in
theorem meetD (h1 : Dn w p1 a1 c1 ws lo hi any) (h2 : Sp w p2 ab2 cb2 ai2 ci2 Q) (r1 : Rep (wf ws) l1) (r2 : Rep (wd Q) l2) (hroom : ∀ x ∈ Q, x.1 < ws.length) :
    Calls Tryz.prog 63 #[.pointer (some ⟨p1, 0, none⟩), .iface 82 (.pointer (some ⟨p2, 0, none⟩))] w (FV w (.bool (decide (∀ k ∈ l2, k ∈ l1)))) := by
  have HC2 := Lib.hid (capS h2)
  have HC1 : Hid (∀ wx, Same w wx → Calls Tryz.prog 57 #[.pointer (some ⟨p1, 0, none⟩)] wx fun e w' => e = .returned (.int .u64 ((64 * ws.length : Nat) : Int)) ∧ wx = w') := Lib.hid (fun wx hS => (capD (h1.still hS)).mono fun e w' h => ⟨h.1, h.2.symm⟩)
  have hle := capP_le hroom
  have HIN : Hid (∀ wx, Same w wx → Calls Tryz.prog 78 #[.pointer (some ⟨p1, 0, none⟩), .pointer (some ⟨p2, 0, none⟩)] wx (FV wx (.bool (decide (∀ k ∈ l2, k ∈ l1))))) := Lib.hid (fun wx hS => by
    have := inS (h1.still hS) (h2.still hS) hroom
    rw [show decide (∀ x ∈ Q, InW ws x) = decide (∀ k ∈ l2, k ∈ l1) from by rw [decide_eq_decide]; exact within_iff r1 h2.good r2] at this
    exact this)
  have hmth : ∀ wx, (method 250 82 (.pointer (some ⟨p2, 0, none⟩)) "Capacity").run Tryz.prog wx = .ok (98, .pointer (some ⟨p2, 0, none⟩)) wx := by intro wx; kernel_rfl
  have hta := isSparse p2
  generalize decide (∀ k ∈ l2, k ∈ l1) = r at *
  generalize capP Q = c2 at *
  generalize 64 * ws.length = c1 at *
  have hno : ¬ (c1 : Int) < (c2 : Int) := by omega
  clear h1 h2 r1 r2 hroom hle
  go_enter Tryz.func63, Tryz.ntmps63
  go_wp2_with (go_at_call 98; refine HC2.out.mono ?_)
  rintro e w1 ⟨rfl, hS⟩
  have HS := Lib.hid hS
  clear hS HC2
  go_wp2_with (go_at_call 57; refine (HC1.out _ HS.out).mono ?_)
  rintro e w' ⟨rfl, rfl⟩
  go_wp2_with (go_at_call 78; refine (HIN.out _ HS.out).mono ?_)
  rintro e w2 ⟨rfl, hS2⟩
  have HS2 := Lib.hid (Same.trans HS.out hS2)
  clear hS2 HIN
  go_wp2_with fail
  go_ret
  exact ⟨rfl, HS2.out⟩
end
theorem does_meetDS {s : List BA} {i j : Nat} {d e : BA} (hd : s[i]? = some d) (hdd : d.dense = true) (he : s[j]? = some e) (hed : e.dense = false) (hb : ∀ k ∈ e.set, k < 64 * d.words) : Does s { op := 8, on := i, by_ := j } s { yes := decide (∀ k ∈ e.set, k ∈ d.set) } := by
  intro w q c a l h hs hl
  obtain ⟨p, ab, cb, ws, lo, hi, any, hx, h1, h2, h3, h4⟩ := dense_at hd hdd h hs
  obtain ⟨p', ab', cb', ai', ci', P', hx', h1', h2', h3'⟩ := sparse_at he hed h hs
  rw [h1] at hb
  exact (stepMeets h i j p d _ hx _ hx' _ (Lib.hid (fun wx hS => meetD (h2.still hS) (h2'.still hS) h3 h3' (room_pairs' h2'.good h3' hb)))).mono fun e w' hp => does_ask h hs { yes := decide (∀ k ∈ _, k ∈ _) } rfl hp
/-- the run of a law that asks once -/
theorem runs_ask1 {x y : Bool} {op m1 q1 m2 q2 : Nat} {L1 L2 : List Nat} {b : Bool} (g1 : MadeG x m1 q1) (g2 : MadeG y m2 q2) (hL1 : L1.length ≤ 40) (hL2 : L2.length ≤ 40)
    (h : Does [⟨x, q1, madeS x q1 L1⟩, ⟨y, q2, madeS y q2 L2⟩] { op := op, on := 0, by_ := 1 } [⟨x, q1, madeS x q1 L1⟩, ⟨y, q2, madeS y q2 L2⟩] { yes := b }) :
    ∃ Y, Y.length = L1.length + 1 + (L2.length + 1) ∧ Runs [] (madeT x m1 q1 0 L1 ++ madeT y m2 q2 1 L2 ++ ask1T op) (Y ++ ask1Y (madeS x q1 L1) b) := by
  obtain ⟨Y1, l1, r1⟩ := goes_made g1 [] 0 L1 rfl (by omega) hL1
  obtain ⟨Y2, l2, r2⟩ := goes_made g2 [⟨x, q1, madeS x q1 L1⟩] 1 L2 rfl (by omega) hL2
  refine ⟨Y1 ++ Y2, by rw [List.length_append, l1, l2], ?_⟩
  rw [List.append_assoc, List.append_assoc]
  refine r1.runs (r2.runs ?_)
  exact ⟨by simp, _, _, _, does_count_ (i := 0) rfl (fine_made _ _ _ hL1), rfl, by simp, _, _, _, h, rfl, rfl⟩
/-- how many bits the words of a list of bits have -/
def capL (B : List Nat) : Nat := match B.getLast? with | some x => 64 * (x / 64 + 1) | none => 0
theorem capL_last {B : List Nat} {m x : Nat} (hl : B.length = m + 1) (hx : B[m]? = some x) : capL B = 64 * (x / 64 + 1) := by
  unfold capL
  rw [List.getLast?_eq_getElem?, hl, Nat.add_sub_cancel, hx]
theorem capL_nil {B : List Nat} (hl : B.length = 0) : capL B = 0 := by
  have := List.eq_nil_of_length_eq_zero hl
  subst this; rfl
theorem capL_room {B : List Nat} (hB : Asc B) {q : Nat} (h : capL B ≤ 64 * q) : ∀ k ∈ B, k < 64 * q := fun k hk => by
  have hp := List.length_pos_of_mem hk
  obtain ⟨m, hm⟩ : ∃ m, B.length = m + 1 := ⟨B.length - 1, by omega⟩
  have hx : B[m]? = some (B[m]'(by omega)) := List.getElem?_eq_getElem _
  rw [capL_last hm hx] at h
  obtain ⟨i, hi⟩ := List.mem_iff_getElem?.1 hk
  have hil := (List.getElem?_eq_some_iff.1 hi).1
  have hle : k ≤ B[m]'(by omega) := by
    rcases Nat.lt_or_ge i m with h3 | h3
    · exact Nat.le_of_lt (hB.get h3 hi hx)
    · have : i = m := by omega
      subst this; rw [hx] at hi; cases hi; exact Nat.le_refl _
  omega
set_option maxRecDepth 100000 in
set_option maxHeartbeats 1600000 in
theorem capacityD (q : Nat) (a : Option Addr) (n c : Nat) (w : World) (hq : q ≤ 1000) : Calls Tryz.prog 24 #[bav true q a n c] w (FV w (.int .u64 ((64 * q : Nat) : Int))) := by
  have e9 : IntKind.u64.wrap (64 * (q : Int)) = ((64 * q : Nat) : Int) := by rw [IntKind.wrap_u64]; omega
  have HS : Hid (∀ X : Obj, Same w (w.alloc X)) := Lib.hid (fun X => (Only.refl _ _).alloc _)
  generalize 64 * q = v at *
  unfold bav
  go_enter Tryz.func24, Tryz.ntmps24
  go_wp2_with fail
  go_ret
  exact ⟨rfl, HS.out _⟩
set_option maxRecDepth 100000 in
set_option maxHeartbeats 1600000 in
theorem capacityS {B : List Nat} {sb : Option Addr} {scb : Nat} {w : World} (h : OU w sb B.length scb B) (hB : ∀ k ∈ B, k < 1152921504606846976) (hl : B.length ≤ 1000) : Calls Tryz.prog 24 #[bav false 0 sb B.length scb] w (FV w (.int .u64 ((capL B : Nat) : Int))) := by
  have HS : Hid (∀ X : Obj, Same w (w.alloc X)) := Lib.hid (fun X => (Only.refl _ _).alloc _)
  have hbd := h.bound
  unfold bav
  by_cases hz : B.length = 0
  · rw [capL_nil hz]
    rw [hz]
    clear h hB
    go_enter Tryz.func24, Tryz.ntmps24
    go_wp2_with fail
    go_ret
    exact ⟨rfl, HS.out _⟩
  · obtain ⟨m, hm⟩ : ∃ m, B.length = m + 1 := ⟨B.length - 1, by omega⟩
    obtain ⟨x, hx⟩ : ∃ x, B[m]? = some x := ⟨B[m]'(by omega), List.getElem?_eq_getElem _⟩
    have hx60 := hB x (List.mem_of_getElem? hx)
    rw [capL_last hm hx]
    obtain ⟨n, hn⟩ : ∃ n, B.length = n := ⟨_, rfl⟩
    rw [hn] at h hbd hm hz hl
    rw [hn]
    obtain ⟨b, off, ha, hb, hc⟩ := (h.rl.still (HS.out (.cells #[.bool false, .int .u64 0, .slice sb n scb] 36))).at (by omega)
    have c0 := hc m x hx
    unfold uv at c0
    have k1 : IntKind.i64.wrap ((n : Int) - 1) = (m : Int) := by rw [IntWalk.i64_in _ (by omega)]; omega
    have k2 : (m : Int) < (n : Int) := by omega
    have k3 : (0 : Int) ≤ (m : Int) := by omega
    have k4 : ((n : Int) == 0) = false := by rw [beq_eq_false_iff_ne]; omega
    obtain ⟨y, hy⟩ : ∃ y, x / 64 = y := ⟨_, rfl⟩
    have k5 : (x : Int) / 64 = (y : Int) := by omega
    have k6 : IntKind.u64.wrap ((y : Int) + 1) = (y : Int) + 1 := by rw [IntKind.wrap_u64]; omega
    have k7 : IntKind.u64.wrap (64 * ((y : Int) + 1)) = ((64 * (y + 1) : Nat) : Int) := by rw [IntKind.wrap_u64]; omega
    rw [hy]
    generalize 64 * (y + 1) = v at *
    subst ha
    clear h hB hx hc hn hm hy
    go_enter Tryz.func24, Tryz.ntmps24
    go_wp2_with fail
    go_ret
    exact ⟨rfl, HS.out _⟩
set_option maxRecDepth 100000 in
set_option maxHeartbeats 1600000 in
theorem fitsLonger (q1 : Nat) (A B : List Nat) (hB : ∀ k ∈ B, k < 1152921504606846976) (hl : B.length ≤ 1000) (hq : q1 ≤ 1000) : FitsC 15 true false q1 0 A B (decide (capL B ≤ 64 * q1)) := by
  intro sa sc sb scb wx h1 h2
  have HOA := Lib.hid h1
  have HOB := Lib.hid h2
  obtain ⟨j1, HJ1⟩ : ∃ j, Hid (A.length = j) := ⟨_, Lib.hid rfl⟩
  obtain ⟨j2, HJ2⟩ : ∃ j, Hid (B.length = j) := ⟨_, Lib.hid rfl⟩
  rw [HJ1.out, HJ2.out]
  have HC1 : Hid (∀ wy, Same wx wy → Calls Tryz.prog 24 #[.agg #[.bool false, .int .u64 0, .slice sb j2 scb]] wy (FV wy (.int .u64 ((capL B : Nat) : Int)))) := Lib.hid (fun wy hS => by
    have := capacityS (HOB.out.still hS) hB hl
    rw [HJ2.out] at this
    exact this)
  have HC2 : Hid (∀ wy, Same wx wy → Calls Tryz.prog 24 #[.agg #[.bool true, .int .u64 (q1 : Int), .slice sa j1 sc]] wy (FV wy (.int .u64 ((64 * q1 : Nat) : Int)))) := Lib.hid (fun wy hS => capacityD q1 sa j1 sc wy hq)
  generalize capL B = x at *
  generalize 64 * q1 = y at *
  unfold bav
  clear h1 h2 hB hl
  go_enter Tryz.func15, Tryz.ntmps15
  go_wp2_with fail
  obtain ⟨W0, hW0⟩ : ∃ W0, W0 = (wx.alloc (.cells #[.bool true, .int .u64 (q1 : Int), .slice sa j1 sc] 36)).alloc (.cells #[.bool false, .int .u64 0, .slice sb j2 scb] 36) := ⟨_, rfl⟩
  obtain ⟨g, hg⟩ : ∃ g, wx.heap.size = g := ⟨_, rfl⟩
  have HS0 : Hid (Same wx W0) := Lib.hid (by rw [hW0]; exact ((Only.refl _ _).alloc _).alloc _)
  have HO1 : Hid (W0.heap[g]? = some (.cells #[.bool true, .int .u64 (q1 : Int), .slice sa j1 sc] 36 (0, 0))) := Lib.hid (by rw [hW0, ← hg]; exact new_old wx _ _)
  have HO2 : Hid (W0.heap[g + 1]? = some (.cells #[.bool false, .int .u64 0, .slice sb j2 scb] 36 (0, 0))) := Lib.hid (by rw [hW0, ← hg]; exact heap_alloc_new' _ _ _ (by simp))
  obtain ⟨g2, hg2⟩ : ∃ g2, g + 1 = g2 := ⟨_, rfl⟩
  rw [hg2] at HO2
  rw [← hW0, hg, hg2]
  clear hW0 hg hg2
  have HK : Hid (∀ wy, Same W0 wy → (wy.cell? ⟨g, 0, none⟩ = some (.bool true) ∧ wy.cell? ⟨g, 1, none⟩ = some (.int .u64 (q1 : Int)) ∧ wy.cell? ⟨g, 2, none⟩ = some (.slice sa j1 sc)) ∧ wy.cell? ⟨g2, 0, none⟩ = some (.bool false) ∧ wy.cell? ⟨g2, 1, none⟩ = some (.int .u64 0) ∧ wy.cell? ⟨g2, 2, none⟩ = some (.slice sb j2 scb)) := Lib.hid (fun wy hS => ⟨⟨block_cell (hS.obj HO1.out id) rfl, block_cell (hS.obj HO1.out id) rfl, block_cell (hS.obj HO1.out id) rfl⟩, block_cell (hS.obj HO2.out id) rfl, block_cell (hS.obj HO2.out id) rfl, block_cell (hS.obj HO2.out id) rfl⟩)
  have HK4 : Hid (∀ wy, Same W0 wy → wy.cell? ⟨g, 0, none⟩ = some (.bool true) ∧ wy.cell? ⟨g, 1, none⟩ = some (.int .u64 (q1 : Int)) ∧ wy.cell? ⟨g, 2, none⟩ = some (.slice sa j1 sc) ∧ wy.cell? ⟨g2, 0, none⟩ = some (.bool false) ∧ wy.cell? ⟨g2, 1, none⟩ = some (.int .u64 0) ∧ wy.cell? ⟨g2, 2, none⟩ = some (.slice sb j2 scb)) := Lib.hid (fun wy hS => by
    obtain ⟨⟨r1, r2, r3⟩, r4⟩ := HK.out wy hS
    exact ⟨r1, r2, r3, r4⟩)
  have HD1 : Hid (∀ wy, Same W0 wy → Calls Tryz.prog 24 #[.agg #[.bool false, .int .u64 0, .slice sb j2 scb]] wy (fun e w' => e = .returned (.int .u64 (x : Int)) ∧ Same W0 w')) := Lib.hid (fun wy hS => (HC1.out wy (Same.trans HS0.out hS)).mono fun e w' h => ⟨h.1, Same.trans hS h.2⟩)
  have HD2 : Hid (∀ wy, Same W0 wy → Calls Tryz.prog 24 #[.agg #[.bool true, .int .u64 (q1 : Int), .slice sa j1 sc]] wy (fun e w' => e = .returned (.int .u64 (y : Int)) ∧ Same W0 w')) := Lib.hid (fun wy hS => (HC2.out wy (Same.trans HS0.out hS)).mono fun e w' h => ⟨h.1, Same.trans hS h.2⟩)
  clear HC1 HC2 HO1 HO2 HOA HOB HJ1 HJ2
  obtain ⟨⟨q1', q2', q3'⟩, q4', q5', q6'⟩ := HK.out W0 (Only.refl _ _)
  go_region_held3 (fun w' => w'.cell? ⟨g, 0, none⟩ = some (.bool true) ∧ w'.cell? ⟨g, 1, none⟩ = some (.int .u64 (q1 : Int)) ∧ w'.cell? ⟨g, 2, none⟩ = some (.slice sa j1 sc) ∧ w'.cell? ⟨g2, 0, none⟩ = some (.bool false) ∧ w'.cell? ⟨g2, 1, none⟩ = some (.int .u64 0) ∧ w'.cell? ⟨g2, 2, none⟩ = some (.slice sb j2 scb)) (first | exact HK4.out _ (Only.drew (Only.refl _ _)) | exact HK4.out _ (by assumption)) (first
    | ((go_at_call 24; (with_reducible refine (HD1.out _ (by exact (Only.refl _ W0).drew)).mono ?_); rintro e w1 ⟨rfl, hS1⟩))
    | ((go_at_call 24; (with_reducible refine (HD2.out w1 hS1).mono ?_); rintro e w2 ⟨rfl, hS2⟩)))
  all_goals
    have HS2 := Lib.hid (Same.trans HS0.out hS2)
    clear hS1 hS2
    go_wp2_with fail
    go_ret
    exact ⟨rfl, HS2.out⟩
theorem within_nil (A B : List Nat) : (nandL B A).length = 0 ↔ ∀ k ∈ B, k ∈ A := by
  unfold nandL
  rw [List.length_eq_zero_iff, List.filter_eq_nil_iff]
  simp
set_option maxRecDepth 100000 in
set_option maxHeartbeats 1600000 in
theorem isWithin {A B : List Nat} (hA : Asc A) (hl : B.length ≤ 1000) : IsC 14 A B (decide (∀ k ∈ B, k ∈ A)) := by
  intro sa sc sb scb wx h1 h2
  have HN := Lib.hid (baNand h2.rl h1.rl hA (by omega))
  obtain ⟨j1, HJ1⟩ : ∃ j, Hid (A.length = j) := ⟨_, Lib.hid rfl⟩
  obtain ⟨j2, HJ2⟩ : ∃ j, Hid (B.length = j) := ⟨_, Lib.hid rfl⟩
  obtain ⟨j3, HJ3⟩ : ∃ j, Hid ((nandL B A).length = j) := ⟨_, Lib.hid rfl⟩
  have HL : Hid (decide (∀ k ∈ B, k ∈ A) = ((j3 : Int) == 0)) := Lib.hid (by
    have := within_nil A B
    rw [HJ3.out] at this
    by_cases h0 : j3 = 0
    · have h := this.1 h0
      rw [decide_eq_true h]; subst h0; rfl
    · have h : ¬ ∀ k ∈ B, k ∈ A := fun h => h0 (this.2 h)
      rw [decide_eq_false h]
      have : ((j3 : Int) == 0) = false := by rw [beq_eq_false_iff_ne]; omega
      rw [this])
  rw [HJ1.out, HJ2.out] at HN ⊢
  rw [HL.out]
  clear h1 h2 hA hl
  go_enter Tryz.func14, Tryz.ntmps14
  go_wp2_with (go_at_call 16; refine HN.out.mono ?_)
  rintro e w1 ⟨a', c', rfl, hO, hS, _⟩
  have HS := Lib.hid hS
  have hbo := hO.bound
  rw [HJ3.out] at hbo
  rw [HJ3.out]
  clear hO hS HN
  go_wp2_with fail
  go_ret
  exact ⟨rfl, HS.out⟩
end Go.Proofs.YtacjkbljokjdkaaGreat.ba
