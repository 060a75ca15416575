/-
  FnBSRuns: the walk. Several bitsets, with which anything is done step by step, have the bits that lists of bits have.
-/
import Derived.Test.YtgndpckcdageiaaBrLaw
import Derived.StillTailTactics
namespace Go.Proofs.Ytgndpckcdageiaa.walkFnBSRuns
open Go.RowKit Go.Proofs.Ytgndpckcdageiaa.base Go.Proofs.Ytgndpckcdageiaa.heap Go.Proofs.Ytgndpckcdageiaa.bit Go.Proofs.Ytgndpckcdageiaa.bs
open Go.Proofs.Ytgndpckcdageiaa.rows (RS OS flat_snoc flat_one flat_len)
set_option linter.unusedVariables false
theorem heap_alloc_set (w : World) (p : Addr) (u : Value) (o : Obj) : ((w.setCell p u).alloc o).heap[w.heap.size]? = some o := by
  have h := heap_alloc_new (w.setCell p u) o
  rw [Go.Deep.nblk_setCell] at h
  exact h
theorem tolds_short : ∀ {T : List BSt} {s : List (List Bool)} {n : Nat}, OkTs s T → Short n s → 600 ≤ n → ∀ x ∈ tolds s T, x.length ≤ n + T.length
  | [], s, n, _, _, _ => fun x hx => by simp [tolds] at hx
  | u :: T, s, n, h, hs, h6 => by
    intro x hx
    unfold tolds at hx
    rcases List.mem_cons.1 hx with rfl | hx
    · have : (told s u).length ≤ n + 1 := next_len _ _ _ _ _ n h.1.op (getD_short hs _) (getD_short hs _) h.1.a h.1.b h6 h.1.place
      simp; omega
    · have := tolds_short h.2 (after_short hs h6 h.1) (by omega) x hx
      simp; omega
/-- in the course of the first loop: k steps are made -/
def L1 (w wr : World) (b : List Bool) (R : List Raw) (k : Nat) (As : List Rb) (al : Option Addr) (cl : Nat) (la : Option Addr) (lc : Nat) (Ws : List Bt) (wa : Option Addr) (wc : Nat) : Prop :=
  LInv w wr As al cl (normT [b] (R.take k)) la lc Ws wa wc k ∧ As.map (·.b) = afters [b] (normT [b] (R.take k)) ∧ Ws.map (·.b) = tolds [b] (normT [b] (R.take k))
set_option maxRecDepth 100000 in
set_option maxHeartbeats 6400000 in
theorem main (n0 : Nat) (a : Option Addr) (m cap : Nat) (zs : List Int) (sa : Option Addr) (sn sc : Nat) (R : List Raw) (w : World) (hr : IsRow .u64 w a m cap zs) (hm : m ≤ 2147483647) (hR : RS rc 5 w sa sn sc R) (hok : ∀ r ∈ R, RawOk r) (hsn : sn ≤ 2147483647) :
    Calls Try.prog 3 #[.agg #[.int .u64 (n0 : Int), .slice a m cap], .slice sa sn sc] w fun e w' => e = .returned (.bool true) ∧ Below w.heap.size w w' := by
  have HRow := Lib.hid hr
  have HRS := Lib.hid hR
  have HOK := Lib.hid hok
  have hbd := hR.bound
  have hsn' : ¬ (2147483647 : Int) < (sn : Int) := by omega
  clear hr hR hok
  go_enter Try.func3, Try.ntmps3
  go_wp2_with fail
  refine (fits_yes _ _ _ _ _ hm).mono ?_
  rintro e w1 ⟨rfl, hO1⟩
  have hB0 := boxed hO1
  have hO1 := same_alloc hO1
  have c0 : w1.cell? ⟨w.heap.size, 0, none⟩ = some (.int .u64 (n0 : Int)) := block_cell hB0 rfl
  have c1 : w1.cell? ⟨w.heap.size, 1, none⟩ = some (.slice a m cap) := block_cell hB0 rfl
  clear hB0
  go_wp2_with fail
  refine (bsBits n0 a m cap zs _ (IsRow.keep HRow.out hO1) hm).mono ?_
  rintro e w2 ⟨b, hb, a2, m2, cap2, rfl, hu2, hO2, hf2⟩
  have hb4 : b.length ≤ 400 := by omega
  have hO2 := hO1.trans hO2
  clear hO1 hb c0 c1 hf2
  go_wp2_with fail
  obtain ⟨W5, hW5, hS5, hB5, hk5⟩ := newBlock w2 #[.int .u64 (b.length : Int), .slice a2 m2 cap2] 25
  rw [← hW5]
  have hBV : ∀ wx, Same W5 wx → BV wx (.agg #[.int .u64 (b.length : Int), .slice a2 m2 cap2]) b := fun wx hx => ⟨a2, m2, cap2, rfl, hu2.keep (hS5.trans hx) (fun _ _ => id)⟩
  have HBV := Lib.hid hBV
  have HO5 : Hid (Same w W5) := Lib.hid (Same.trans hO2 hS5)
  have HB5 := Lib.hid hB5
  generalize w2.heap.size = k5 at *
  clear hu2 hO2 hBV hW5 hS5 hk5 hB5
  refine (bsBools _ b _ (HBV.out _ (Only.refl _ _)) (by omega)).mono ?_
  rintro e w3 ⟨a3, cap3, rfl, hb3, hO3, hf3⟩
  go_upto_block 0 with fail
  have HL0 : Hid (∀ W6, W6 = w3.alloc (.cells #[.slice a3 b.length cap3] 29) → L1 W5 W6 b R 0 [⟨a3, cap3, b⟩] (some ⟨w3.heap.size, 0, none⟩) 1 none 0 [] none 0) := Lib.hid (by
    rintro W6 rfl
    have hSA : Same w3 (w3.alloc (.cells #[.slice a3 b.length cap3] 29)) := (Only.refl _ _).alloc _
    have hsz := hO3.size
    refine ⟨⟨?_, ⟨Own.nil _ _ _, rfl⟩, ⟨Own.nil _ _ _, rfl⟩, fun x hx => ?_, fun x hx => (by cases hx), fun j hj => ?_, fun j hj => ⟨id, id⟩, fun j hj => hj.elim, Only.trans hO3 hSA (fun _ _ f => f)⟩, rfl, rfl⟩
    · exact Own.of_block (e := 29) (size := 1) (heap_alloc_new _ _) 1 1 (Nat.le_refl _) (by simp [maxLen]) rfl (by intro u hu; exact rb_one [⟨a3, cap3, b⟩] u (List.mem_of_mem_take hu))
    · rw [List.mem_singleton] at hx
      subst hx
      refine ⟨hb3.keep hSA (fun _ _ => id), fun e j hj => ?_⟩
      have h1 := rb_lt (x := ⟨a3, cap3, b⟩) hb3 e j hj
      exact ⟨Nat.lt_of_lt_of_le h1 hSA.size, fun hp => by have : w3.heap.size = j := hp; omega, id, id⟩
    · rcases hj with hj | hj | hj
      · have : w3.heap.size = j := hj; omega
      · exact hj.elim
      · exact hj.elim)
  clear hb3 hO3 hf3
  go_cut [7, 8] (fun s7 s8 wx => ∃ (k : Nat) (As : List Rb) (al la wa : Option Addr) (cl lc vc : Nat) (Ws : List Bt), k ≤ sn ∧ k ≤ 30 ∧ s7 = .slice la k lc ∧ s8 = .slice wa k vc ∧ Hid (L1 W5 wx b R k As al cl la lc Ws wa vc))
  case first =>
    go_wp2_with fail
    go_loopw [6, 7, 8, 9] (fun s6 s7 s8 i wr => ∃ (k na : Nat) (As : List Rb) (al la wa : Option Addr) (cl lc vc : Nat) (Ws : List Bt), k ≤ sn ∧ k ≤ 30 ∧ i = .int .i64 (k : Int) ∧ s6 = .slice al na cl ∧ s7 = .slice la k lc ∧ s8 = .slice wa k vc ∧ Hid (As.length = na ∧ L1 W5 wr b R k As al cl la lc Ws wa vc)) (fun _ _ _ i _ => sn - (intOf i).toNat)
    case atStart => exact ⟨0, 1, [⟨a3, cap3, b⟩], _, none, none, 1, 0, 0, [], Nat.zero_le _, Nat.zero_le _, rfl, rfl, rfl, rfl, Lib.hid ⟨rfl, HL0.out _ rfl⟩⟩
    case round =>
      clear HL0
      obtain ⟨k, na, As, al, la, wa, cl, lc, vc, Ws, hk, hk30, rfl, rfl, rfl, rfl, HI⟩ := hrel
      have HMEET : Hid (∃ (k' : Nat) (As : List Rb) (al la' wa' : Option Addr) (cl lc' wc' : Nat) (Ws : List Bt), k' ≤ sn ∧ k' ≤ 30 ∧ (Value.slice la k lc) = .slice la' k' lc' ∧ (Value.slice wa k vc) = .slice wa' k' wc' ∧ Hid (L1 W5 wr b R k' As al cl la' lc' Ws wa' wc')) := Lib.hid ⟨k, As, al, la, wa, cl, lc, vc, Ws, hk, hk30, rfl, rfl, Lib.hid HI.out.2⟩
      by_cases hlt : k < sn
      · have hlt' : (k : Int) < (sn : Int) := by omega
        by_cases hl30 : k < 30
        · have hl30' : (k : Int) < 30 := by omega
          clear HMEET
          have hk0 : (0 : Int) ≤ (k : Int) := by omega
          obtain ⟨r, hrr⟩ := HRS.out.get hlt
          have HTK : Hid (R.take (k + 1) = R.take k ++ [r]) := Lib.hid (by rw [List.take_add_one, hrr]; rfl)
          obtain ⟨s, hs⟩ : ∃ s, afters [b] (normT [b] (R.take k)) = s := ⟨_, rfl⟩
          have hsna : s.length = na := by rw [← hs, ← HI.out.2.2.1, List.length_map]; exact HI.out.1
          have hrok := HOK.out r (List.mem_of_getElem? hrr)
          have hnak : na ≤ 1 + k ∧ 1 ≤ na := by
            have h1 := afters_at (normT_ok (R := R.take k) (s := [b]) (by simp)) (n := 600) (fun x hx => by rw [List.mem_singleton] at hx; subst hx; omega) (Nat.le_refl _) (normT [b] (R.take k)).length (Nat.le_refl _)
            rw [List.take_of_length_le (Nat.le_refl _), hs, normT_len, List.length_take] at h1
            have h2 := h1.2
            simp at h2
            refine ⟨by omega, ?_⟩
            have h3 : ∀ (T : List BSt) (s0 : List (List Bool)), 0 < s0.length → 0 < (afters s0 T).length := by
              intro T
              induction T with
              | nil => exact fun s0 h => h
              | cons t T ih => exact fun s0 h => ih _ (after_pos h t)
            have h4 := h3 (normT [b] (R.take k)) [b] (by simp)
            rw [hs] at h4
            omega
          have HSH : Hid (Short 700 s) := Lib.hid (by
            have h1 := afters_at (normT_ok (R := R.take k) (s := [b]) (by simp)) (n := 600) (fun x hx => by rw [List.mem_singleton] at hx; subst hx; omega) (Nat.le_refl _) (normT [b] (R.take k)).length (Nat.le_refl _)
            rw [List.take_of_length_le (Nat.le_refl _), hs, normT_len, List.length_take] at h1
            exact fun x hx => by have := h1.1 x hx; omega)
          obtain ⟨sb, so, hsa, hsb, hsc⟩ := (HRS.out.still (Only.trans HO5.out HI.out.2.1.same (fun _ _ f => f))).at rc_len (by omega)
          have s0 := hsc k r hrr 0 _ rfl
          have s1 := hsc k r hrr 1 _ rfl
          have s2 := hsc k r hrr 2 _ rfl
          have s3 := hsc k r hrr 3 _ rfl
          have s4 := hsc k r hrr 4 _ rfl
          have s0' : wr.cell? ⟨sb, so + k * 5, none⟩ = some (.int .i64 r.op) := s0
          obtain ⟨q0, hq0⟩ : ∃ x, absN r.op = x := ⟨_, rfl⟩
          obtain ⟨q1, hq1⟩ : ∃ x, absN r.on = x := ⟨_, rfl⟩
          obtain ⟨q2, hq2⟩ : ∃ x, absN r.by_ = x := ⟨_, rfl⟩
          obtain ⟨o, ho⟩ : ∃ x, 1 + q0 % 15 = x := ⟨_, rfl⟩
          obtain ⟨on, hon⟩ : ∃ x, q1 % na = x := ⟨_, rfl⟩
          obtain ⟨by_, hby⟩ : ∃ x, q2 % na = x := ⟨_, rfl⟩
          obtain ⟨A0, hA0⟩ : ∃ x, r.a % 600 = x := ⟨_, rfl⟩
          obtain ⟨B0, hB0⟩ : ∃ x, r.b % 600 = x := ⟨_, rfl⟩
          have HNS : Hid (normS s r = { op := normO o (s.getD on []).length na, on := on, by_ := by_, a := normA o (s.getD on []).length A0, b := B0 }) := Lib.hid (by
            unfold normS
            rw [hsna, hq0, hq1, hq2, ho, hon, hby, hA0, hB0])
          have HB0 : Hid (∀ wx, Calls Try.prog 7 #[.int .i64 r.op] wx (fun e w' => e = .returned (.int .i64 (q0 : Int)) ∧ wx = w')) := Lib.hid (fun wx => by rw [← hq0]; exact (bsAbs _ hrok.1.1 hrok.1.2 wx).mono fun e w' h => ⟨h.1, h.2⟩)
          have HB1 : Hid (∀ wx, Calls Try.prog 7 #[.int .i64 r.on] wx (fun e w' => e = .returned (.int .i64 (q1 : Int)) ∧ wx = w')) := Lib.hid (fun wx => by rw [← hq1]; exact (bsAbs _ hrok.2.1.1 hrok.2.1.2 wx).mono fun e w' h => ⟨h.1, h.2⟩)
          have HB2 : Hid (∀ wx, Calls Try.prog 7 #[.int .i64 r.by_] wx (fun e w' => e = .returned (.int .i64 (q2 : Int)) ∧ wx = w')) := Lib.hid (fun wx => by rw [← hq2]; exact (bsAbs _ hrok.2.2.1.1 hrok.2.2.1.2 wx).mono fun e w' h => ⟨h.1, h.2⟩)
          have ho15 : 1 ≤ o ∧ o ≤ 15 := by omega
          have honl : on < na := by rw [← hon]; exact Nat.mod_lt _ (by omega)
          have hbyl : by_ < na := by rw [← hby]; exact Nat.mod_lt _ (by omega)
          have hA600 : A0 < 600 := by rw [← hA0]; exact Nat.mod_lt _ (by omega)
          have hB600 : B0 < 600 := by rw [← hB0]; exact Nat.mod_lt _ (by omega)
          have z1 : (q0 : Int) % 15 = (o : Int) - 1 := by omega
          have z1b : Int.tmod (q0 : Int) 15 = (o : Int) - 1 := by rw [Int.tmod_eq_emod_of_nonneg (by omega)]; exact z1
          have z2 : IntKind.i64.wrap (1 + ((o : Int) - 1)) = (o : Int) := by rw [IntWalk.i64_in _ (by omega)]; omega
          have z2b : (1 : Int) + ((o : Int) - 1) = (o : Int) := by omega
          have z3 : (q1 : Int) % (na : Int) = (on : Int) := by rw [← hon]; simp
          have z3b : Int.tmod (q1 : Int) (na : Int) = (on : Int) := by rw [Int.tmod_eq_emod_of_nonneg (by omega)]; exact z3
          have z4 : (q2 : Int) % (na : Int) = (by_ : Int) := by rw [← hby]; simp
          have z4b : Int.tmod (q2 : Int) (na : Int) = (by_ : Int) := by rw [Int.tmod_eq_emod_of_nonneg (by omega)]; exact z4
          have z5 : ((na : Int) == 0) = false := by rw [beq_eq_false_iff_ne]; omega
          have z5b : ¬ (na : Int) = 0 := by omega
          have z5c : ¬ na = 0 := by omega
          have z11 : IntKind.i64.wrap (o : Int) = (o : Int) := IntWalk.i64_in _ (by omega)
          have z6 : (r.a : Int) % 600 = (A0 : Int) := by omega
          have z7 : (r.b : Int) % 600 = (B0 : Int) := by omega
          have z6b : Int.tmod (r.a : Int) 600 = (A0 : Int) := by rw [Int.tmod_eq_emod_of_nonneg (by omega)]; exact z6
          have z7b : Int.tmod (r.b : Int) 600 = (B0 : Int) := by rw [Int.tmod_eq_emod_of_nonneg (by omega)]; exact z7
          have z12 : IntKind.u64.wrap (A0 : Int) = (A0 : Int) := by rw [IntKind.wrap_u64]; omega
          have z13 : IntKind.u64.wrap (B0 : Int) = (B0 : Int) := by rw [IntKind.wrap_u64]; omega
          have z8 : IntKind.i64.wrap ((o : Int) - 1) = (o : Int) - 1 := IntWalk.i64_in _ (by omega)
          have z9 : IntKind.i64.wrap (on : Int) = (on : Int) := IntWalk.i64_in _ (by omega)
          have z10 : IntKind.i64.wrap (by_ : Int) = (by_ : Int) := IntWalk.i64_in _ (by omega)
          have HS := Lib.hid hs
          have HSN := Lib.hid hsna
          generalize r.op = rop at *
          generalize r.on = ron at *
          generalize r.by_ = rby at *
          generalize r.a = ra at *
          generalize r.b = rb at *
          subst hsa
          clear hsc s0 hs hsna hrok hq0 hq1 hq2 ho hon hby hA0 hB0 hrr
          have HKS : Hid (∀ wx, Same wr wx → wx.cell? ⟨sb, so + k * 5, none⟩ = some (.int .i64 rop) ∧ wx.cell? ⟨sb, so + k * 5 + 1, none⟩ = some (.int .i64 ron) ∧ wx.cell? ⟨sb, so + k * 5 + 2, none⟩ = some (.int .i64 rby) ∧ wx.cell? ⟨sb, so + k * 5 + 3, none⟩ = some (.int .u64 (ra : Int)) ∧ wx.cell? ⟨sb, so + k * 5 + 4, none⟩ = some (.int .u64 (rb : Int))) := Lib.hid (fun wx hS => ⟨(hS.cell (p := ⟨sb, so + k * 5, none⟩) hsb id).trans s0', (hS.cell (p := ⟨sb, so + k * 5 + 1, none⟩) hsb id).trans s1, (hS.cell (p := ⟨sb, so + k * 5 + 2, none⟩) hsb id).trans s2, (hS.cell (p := ⟨sb, so + k * 5 + 3, none⟩) hsb id).trans s3, (hS.cell (p := ⟨sb, so + k * 5 + 4, none⟩) hsb id).trans s4⟩)
          go_upto_region 10 with fail
          go_cut [10] (fun s10 wx => ∃ g : Nat, s10 = .pointer (some ⟨g, 0, none⟩) ∧ Hid (Same wr wx ∧ wx.heap[g]? = some (.cells #[.int .i64 (o : Int), .int .i64 (on : Int), .int .i64 (by_ : Int), .int .u64 (A0 : Int), .int .u64 (B0 : Int)] 35 (0, 0)) ∧ wr.heap.size ≤ g))
          case first =>
            go_region_held3 (fun w' => w'.cell? ⟨sb, so + k * 5, none⟩ = some (.int .i64 rop) ∧ w'.cell? ⟨sb, so + k * 5 + 1, none⟩ = some (.int .i64 ron) ∧ w'.cell? ⟨sb, so + k * 5 + 2, none⟩ = some (.int .i64 rby) ∧ w'.cell? ⟨sb, so + k * 5 + 3, none⟩ = some (.int .u64 (ra : Int)) ∧ w'.cell? ⟨sb, so + k * 5 + 4, none⟩ = some (.int .u64 (rb : Int))) (first | go_keep | exact HKS.out _ (Only.drew (Only.refl _ _)) | exact HKS.out _ (by assumption)) (first
              | (go_at_call 7; (with_reducible refine (HB0.out _).mono ?_); rintro e wx ⟨rfl, rfl⟩)
              | (go_at_call 7; (with_reducible refine (HB1.out _).mono ?_); rintro e wx ⟨rfl, rfl⟩)
              | (go_at_call 7; (with_reducible refine (HB2.out _).mono ?_); rintro e wx ⟨rfl, rfl⟩))
            all_goals
              go_wp2_with fail
              go_meet
              first
                | exact ⟨_, rfl, Lib.hid ⟨((Only.refl _ _).alloc _).drew, heap_alloc_new _ _, Nat.le_refl _⟩⟩
                | exact ⟨_, rfl, Lib.hid ⟨((Only.refl _ _).drew).alloc _, heap_alloc_new _ _, Nat.le_refl _⟩⟩
                | exact ⟨_, rfl, Lib.hid ⟨(Only.refl _ _).alloc _, heap_alloc_new _ _, Nat.le_refl _⟩⟩
          case rest =>
            obtain ⟨g, rfl, HG⟩ := hcut
            obtain ⟨W6, hW6⟩ : ∃ W6, wc = W6 := ⟨_, rfl⟩
            rw [hW6] at HG ⊢
            clear hW6 HB0 HB1 HB2 z1 z1b z2 z2b z3 z3b z4 z4b z5 z5b z5c z11 z6 z7 z6b z7b z12 z13 z8 z9 z10 s0' s1 s2 s3 s4 HKS
            obtain ⟨x, hx⟩ : ∃ x, As[on]? = some x := ⟨As[on]'(by have := HI.out.1; omega), List.getElem?_eq_getElem _⟩
            obtain ⟨y, hy⟩ : ∃ y, As[by_]? = some y := ⟨As[by_]'(by have := HI.out.1; omega), List.getElem?_eq_getElem _⟩
            have hsx : s[on]? = some x.b := by rw [← HS.out, ← HI.out.2.2.1, List.getElem?_map, hx]; rfl
            have hsy : s[by_]? = some y.b := by rw [← HS.out, ← HI.out.2.2.1, List.getElem?_map, hy]; rfl
            have hlx := HSH.out x.b (List.mem_of_getElem? hsx)
            have hly := HSH.out y.b (List.mem_of_getElem? hsy)
            have HGX : Hid (s.getD on [] = x.b ∧ s.getD by_ [] = y.b) := Lib.hid ⟨by rw [List.getD_eq_getElem?_getD, hsx]; rfl, by rw [List.getD_eq_getElem?_getD, hsy]; rfl⟩
            have HI6 : Hid (As.length = na ∧ L1 W5 W6 b R k As al cl la lc Ws wa vc) := Lib.hid ⟨HI.out.1, HI.out.2.1.still HG.out.1, HI.out.2.2⟩
            obtain ⟨ab, hab, hablt, habc⟩ := HI6.out.2.1.all.at (by have := HI6.out.1; omega)
            have a0 := habc on (rbv x) (by rw [List.getElem?_map, hx]; rfl)
            have a1 := habc by_ (rbv y) (by rw [List.getElem?_map, hy]; rfl)
            rw [Nat.zero_add] at a0 a1
            have HAS : Hid (As[on]? = some x ∧ As[by_]? = some y) := Lib.hid ⟨hx, hy⟩
            have HXB : Hid (∀ wx, Same wr wx → RB wx x.a x.b.length x.cap x.b ∧ RB wx y.a y.b.length y.cap y.b) := Lib.hid (fun wx hS => ⟨(HI.out.2.1.aits x (List.mem_of_getElem? hx)).1.keep hS (fun _ _ => id), (HI.out.2.1.aits y (List.mem_of_getElem? hy)).1.keep hS (fun _ _ => id)⟩)
            unfold rbv at a0 a1
            have hfrz : W6.frozen? ⟨ab, on, none⟩ = false := HI6.out.2.1.all.frozen hab on
            rw [HGX.out.1] at HNS
            obtain ⟨len, hlen⟩ : ∃ n, x.b.length = n := ⟨_, rfl⟩
            obtain ⟨len2, hlen2⟩ : ∃ n, y.b.length = n := ⟨_, rfl⟩
            rw [hlen] at a0 hlx HNS
            rw [hlen2] at a1 hly
            have HLEN := Lib.hid (And.intro hlen hlen2)
            have c0 : W6.cell? ⟨g, 0, none⟩ = some (.int .i64 (o : Int)) := block_cell HG.out.2.1 rfl
            have c1 : W6.cell? ⟨g, 1, none⟩ = some (.int .i64 (on : Int)) := block_cell HG.out.2.1 rfl
            have c3 : W6.cell? ⟨g, 3, none⟩ = some (.int .u64 (A0 : Int)) := block_cell HG.out.2.1 rfl
            have cf : ∀ j, W6.frozen? ⟨g, j, none⟩ = false := fun j => block_free HG.out.2.1
            have hgab : ab ≠ g := by have := HG.out.2.2; have := HI.out.2.1.all.lt ab (by rw [hab]; rfl); omega
            have on0 : (0 : Int) ≤ (on : Int) := by omega
            have onl : (on : Int) < (na : Int) := by omega
            have by0 : (0 : Int) ≤ (by_ : Int) := by omega
            have byl : (by_ : Int) < (na : Int) := by omega
            have HOKS : Hid (OkS s (normS s r)) := Lib.hid (norm_ok (by rw [HSN.out]; omega) r)
            have wlen : IntKind.u64.wrap (len : Int) = (len : Int) := by rw [IntKind.wrap_u64]; omega
            subst hab
            clear habc hx hy hsx hsy hlen hlen2
            by_cases h7 : 7 < o ∧ o < 11
            · have h7a : (7 : Int) < (o : Int) := by omega
              have h7b : (o : Int) < 11 := by omega
              by_cases hl0 : len = 0
              · subst hl0
                have hl0 : (0 : Nat) = 0 := rfl
                have HT0 : Hid (normS s r = { op := 1, on := on, by_ := by_, a := A0, b := B0 }) := Lib.hid (by
                  rw [HNS.out]
                  have e1 : normO o 0 na = 1 := by unfold normO; rw [if_pos ⟨h7.1, h7.2, hl0⟩]
                  have e2 : normA o 0 A0 = A0 := by unfold normA; rw [if_neg (by omega)]
                  rw [e1, e2])
                have hAb : A0 < 600 := by omega
                have HST : Hid (∀ wx, Same wr wx → Calls Try.prog 8 #[.slice x.a 0 x.cap, .slice y.a len2 y.cap, .agg #[.int .i64 1, .int .i64 (on : Int), .int .i64 (by_ : Int), .int .u64 (A0 : Int), .int .u64 (B0 : Int)]] wx (RetBools (told s (normS s r)) wx)) := Lib.hid (fun wx hS => by
                  have hb := HXB.out wx hS
                  have hk := HOKS.out
                  have e1 : told s (normS s r) = nextL 1 x.b y.b A0 B0 := by unfold told; rw [HT0.out]; show nextL 1 (s.getD on []) (s.getD by_ []) A0 B0 = _; rw [HGX.out.1, HGX.out.2]
                  rw [e1]
                  rw [HT0.out] at hk
                  have h := bsStep x.a y.a x.cap y.cap x.b y.b 1 on by_ A0 B0 wx hb.1 hb.2 (by rw [HLEN.out.1]; omega) (by rw [HLEN.out.2]; omega) hk.op hAb hB600 (fun h => by have h2 := hk.place h; have h3 : (A0 : Nat) < (s.getD on []).length := h2; rw [HGX.out.1] at h3; exact h3)
                  rw [HLEN.out.1, HLEN.out.2] at h
                  exact h)
                obtain ⟨nb, hnb⟩ : ∃ nb, told s (normS s r) = nb := ⟨_, rfl⟩
                have HNB := Lib.hid hnb
                rw [hnb] at HST
                clear hnb
                go_wp2_with fail
                obtain ⟨W7, hW7⟩ : ∃ W7, W6.setCell ⟨g, 0, none⟩ (.int .i64 1) = W7 := ⟨_, rfl⟩
                have HG7 : Hid (Only (fun j => j = g) W6 W7 ∧ W7.heap[g]? = some (.cells #[.int .i64 1, .int .i64 (on : Int), .int .i64 (by_ : Int), .int .u64 (A0 : Int), .int .u64 (B0 : Int)] 35 (0, 0))) := Lib.hid (by
                  rw [← hW7]
                  have hO : Only (fun j => j = g) W6 (W6.setCell ⟨g, 0, none⟩ (.int .i64 1)) := (Only.refl _ _).setCell _ _ (fun _ => rfl)
                  exact ⟨hO, setCell_heap HG.out.2.1 0 (.int .i64 1)⟩)
                rw [hW7]
                have HS7 : Hid (Same wr W7) := Lib.hid (Only.trans HG.out.1 HG7.out.1 (fun j hj e => by have := HG.out.2.2; omega))
                have HI7 : Hid (L1 W5 W7 b R k As (some ⟨ab, 0, none⟩) cl la lc Ws wa vc) := Lib.hid ⟨HI.out.2.1.still HS7.out, HI.out.2.2⟩
                have b1 : W7.cell? ⟨ab, by_, none⟩ = some (.slice y.a len2 y.cap) := (HG7.out.1.cell (p := ⟨ab, by_, none⟩) hablt hgab).trans a1
                have HAB : Hid (W7.cell? ⟨ab, on, none⟩ = some (.slice x.a 0 x.cap) ∧ W7.frozen? ⟨ab, on, none⟩ = false ∧ ab < W7.heap.size) := Lib.hid ⟨(HG7.out.1.cell (p := ⟨ab, on, none⟩) hablt hgab).trans a0, (HG7.out.1.frozen (p := ⟨ab, on, none⟩) hablt hgab).trans hfrz, Nat.lt_of_lt_of_le hablt HG7.out.1.size⟩
                have HK : Hid (∀ w', Same W7 w' → w'.cell? ⟨ab, by_, none⟩ = some (.slice y.a len2 y.cap) ∧ w'.cell? ⟨g, 0, none⟩ = some (.int .i64 1) ∧ w'.cell? ⟨g, 1, none⟩ = some (.int .i64 (on : Int)) ∧ w'.cell? ⟨g, 2, none⟩ = some (.int .i64 (by_ : Int)) ∧ w'.cell? ⟨g, 3, none⟩ = some (.int .u64 (A0 : Int)) ∧ w'.cell? ⟨g, 4, none⟩ = some (.int .u64 (B0 : Int))) := Lib.hid (fun wx hS => ⟨(hS.cell (p := ⟨ab, by_, none⟩) (World.block_lt_of_cell? W7 _ b1) id).trans b1, block_cell (hS.obj HG7.out.2 id) rfl, block_cell (hS.obj HG7.out.2 id) rfl, block_cell (hS.obj HG7.out.2 id) rfl, block_cell (hS.obj HG7.out.2 id) rfl, block_cell (hS.obj HG7.out.2 id) rfl⟩)
                have HST7 : Hid (∀ wx, Same W7 wx → Calls Try.prog 8 #[.slice x.a 0 x.cap, .slice y.a len2 y.cap, .agg #[.int .i64 1, .int .i64 (on : Int), .int .i64 (by_ : Int), .int .u64 (A0 : Int), .int .u64 (B0 : Int)]] wx (fun e w' => ∃ ra rc, e = .returned (.slice ra nb.length rc) ∧ RB w' ra nb.length rc nb ∧ Same W7 w' ∧ ∀ i, At ra i → W7.heap.size ≤ i)) := Lib.hid (fun wx hS => (HST.out wx (Only.trans HS7.out hS (fun _ _ f => f))).mono fun e w' ⟨ra, rc, h1, h2, h3, h4⟩ => ⟨ra, rc, h1, h2, Only.trans hS h3 (fun _ _ f => f), fun i hi => Nat.le_trans hS.size (h4 i hi)⟩)
                have hnbl : nb.length ≤ 100000 := by
                  have h1 := after_short HSH.out (by omega) HOKS.out
                  have h2 : nb ∈ after s (normS s r) := by
                    rw [← HNB.out]
                    unfold after
                    split
                    · simp
                    · exact List.mem_set HOKS.out.on _
                  have := h1 nb h2; omega
                have d0 := (HK.out W7 (Only.refl _ _)).2.1
                have d1 := (HK.out W7 (Only.refl _ _)).2.2.1
                have d2 := (HK.out W7 (Only.refl _ _)).2.2.2.1
                have d3 := (HK.out W7 (Only.refl _ _)).2.2.2.2.1
                have d4 := (HK.out W7 (Only.refl _ _)).2.2.2.2.2
                clear hW7 c0 c1 c3 cf a0 a1 hfrz HST
                go_region_held3 (fun w' => w'.cell? ⟨ab, by_, none⟩ = some (.slice y.a len2 y.cap) ∧ w'.cell? ⟨g, 0, none⟩ = some (.int .i64 1) ∧ w'.cell? ⟨g, 1, none⟩ = some (.int .i64 (on : Int)) ∧ w'.cell? ⟨g, 2, none⟩ = some (.int .i64 (by_ : Int)) ∧ w'.cell? ⟨g, 3, none⟩ = some (.int .u64 (A0 : Int)) ∧ w'.cell? ⟨g, 4, none⟩ = some (.int .u64 (B0 : Int))) (first | exact HK.out _ (Only.drew (Only.refl _ _)) | exact HK.out _ (by assumption)) (first
                  | ((go_at_call 8; (with_reducible refine (HST7.out _ (by exact (Only.refl _ W7).drew)).mono ?_); rintro e w8 ⟨ra', rc', rfl, hrb, hS8, hf8⟩)))
                all_goals
                  have H8 : Hid (RB w8 ra' nb.length rc' nb ∧ Same W7 w8 ∧ ∀ i, At ra' i → W7.heap.size ≤ i) := Lib.hid ⟨hrb, hS8, hf8⟩
                  clear hrb hS8 hf8
                  obtain ⟨nl, hnl⟩ : ∃ n, nb.length = n := ⟨_, rfl⟩
                  have HNL := Lib.hid hnl
                  rw [hnl] at H8 hnbl ⊢
                  have f0 : w8.cell? ⟨g, 0, none⟩ = some (.int .i64 1) := block_cell (H8.out.2.1.obj HG7.out.2 id) rfl
                  have f1 : w8.cell? ⟨g, 1, none⟩ = some (.int .i64 (on : Int)) := block_cell (H8.out.2.1.obj HG7.out.2 id) rfl
                  have HAB8 : Hid (w8.cell? ⟨ab, on, none⟩ = some (.slice x.a 0 x.cap) ∧ w8.frozen? ⟨ab, on, none⟩ = false) := Lib.hid ⟨(H8.out.2.1.cell (p := ⟨ab, on, none⟩) HAB.out.2.2 id).trans HAB.out.1, (H8.out.2.1.frozen (p := ⟨ab, on, none⟩) HAB.out.2.2 id).trans HAB.out.2.1⟩
                  have e8 := HAB8.out.1
                  have e9 := HAB8.out.2
                  clear hnl d0 d1 d2 d3 d4 b1
                  obtain ⟨w9, hw9⟩ : ∃ w9, w8.setCell ⟨ab, on, none⟩ (.slice ra' nl rc') = w9 := ⟨_, rfl⟩
                  have HN9 : Hid ((As.set on (⟨ra', rc', nb⟩ : Rb)).length = na ∧ LInv W5 w9 (As.set on ⟨ra', rc', nb⟩) (some ⟨ab, 0, none⟩) cl (normT [b] (R.take k)) la lc Ws wa vc k ∧ (As.set on (⟨ra', rc', nb⟩ : Rb)).map (·.b) = after s (normS s r) ∧ w9.heap[g]? = some (.cells #[.int .i64 1, .int .i64 (on : Int), .int .i64 (by_ : Int), .int .u64 (A0 : Int), .int .u64 (B0 : Int)] 35 (0, 0)) ∧ RB w9 ra' nl rc' nb) := Lib.hid (by
                    have hlin := HI7.out.1.set (x := ⟨ra', rc', nb⟩) H8.out.2.1 (by rw [HNL.out]; exact H8.out.1) H8.out.2.2 (i := on) (ab := ab) (by rw [HI.out.1]; exact honl) rfl
                    have hrv : rbv ⟨ra', rc', nb⟩ = .slice ra' nl rc' := by unfold rbv; rw [HNL.out]
                    rw [hrv, hw9] at hlin
                    refine ⟨by rw [List.length_set]; exact HI.out.1, hlin, ?_, ?_, ?_⟩
                    · rw [List.map_set, HI.out.2.2.1, HS.out]; unfold after; rw [HT0.out, if_neg (by show ¬ 13 < 1; omega), ← HT0.out, HNB.out, HT0.out]
                    · rw [← hw9]
                      have hO : Only (fun j => j = ab) w8 (w8.setCell ⟨ab, on, none⟩ (.slice ra' nl rc')) := (Only.refl _ _).setCell _ _ (fun _ => rfl)
                      exact hO.obj (H8.out.2.1.obj HG7.out.2 id) (fun e => hgab e.symm)
                    · have := (hlin.aits ⟨ra', rc', nb⟩ (List.mem_set (by rw [HI.out.1]; exact honl) _)).1; rw [HNL.out] at this; exact this)
                  have hbl2 := HN9.out.2.1.stp.bound
                  have hbl3 := HN9.out.2.1.wnt.bound
                  have m0 : (w8.setCell ⟨ab, on, none⟩ (.slice ra' nl rc')).cell? ⟨g, 0, none⟩ = some (.int .i64 1) := by rw [hw9]; exact block_cell HN9.out.2.2.2.1 rfl
                  have m1 : (w8.setCell ⟨ab, on, none⟩ (.slice ra' nl rc')).cell? ⟨g, 1, none⟩ = some (.int .i64 (on : Int)) := by rw [hw9]; exact block_cell HN9.out.2.2.2.1 rfl
                  have m2 : (w8.setCell ⟨ab, on, none⟩ (.slice ra' nl rc')).cell? ⟨g, 2, none⟩ = some (.int .i64 (by_ : Int)) := by rw [hw9]; exact block_cell HN9.out.2.2.2.1 rfl
                  have m3 : (w8.setCell ⟨ab, on, none⟩ (.slice ra' nl rc')).cell? ⟨g, 3, none⟩ = some (.int .u64 (A0 : Int)) := by rw [hw9]; exact block_cell HN9.out.2.2.2.1 rfl
                  have m4 : (w8.setCell ⟨ab, on, none⟩ (.slice ra' nl rc')).cell? ⟨g, 4, none⟩ = some (.int .u64 (B0 : Int)) := by rw [hw9]; exact block_cell HN9.out.2.2.2.1 rfl
                  have HW9 : Hid (∀ w', w' = w8.setCell ⟨ab, on, none⟩ (.slice ra' nl rc') → w' = w9) := Lib.hid (fun w' h => by rw [h, hw9])
                  clear hw9
                  go_wp2_with (at_builtin; refine wpList_append (k + 1) ((normT [b] (R.take k)).flatMap stc ++ stc ⟨1, on, by_, A0, B0⟩) rfl _ _ _ _ rfl slStep rfl (Own.keep (S := fun _ => False) ((by rw [HW9.out _ rfl]; exact HN9.out.2.1.stp.1) : Own 35 5 (w8.setCell ⟨ab, on, none⟩ (.slice ra' nl rc')) la k lc _) (by repeat (first | exact Only.refl _ _ | apply Only.alloc | apply Only.drew)) (fun _ _ => id)) rfl (Src.row (size := 5) (cs := (stc ⟨1, on, by_, A0, B0⟩).toArray) (t := 35) (fr := (0, 0)) Try.underlying26 (by first | exact heap_alloc_new _ _ | exact heap_alloc_set _ _ _ _) 1 1 rfl (by intro u hu; exact stc_one _ u (by simpa using hu))) rfl (by simp) (by unfold maxLen; omega) (by omega) ?_)
                  intro la2 lc2 w10 hG10
                  rw [HW9.out _ rfl] at hG10
                  have HMK : Hid (Calls Try.prog 9 #[.slice ra' nl rc'] w10 (RetBits nb w10)) := Lib.hid (by
                    have hO : Only (At la) w9 w10 := ((Only.refl (At la) w9).alloc _).trans hG10.only (fun _ _ h => h)
                    have hrb : RB w10 ra' nb.length rc' nb := by
                      refine rb_keepc (x := ⟨ra', rc', nb⟩) (by rw [HNL.out]; exact HN9.out.2.2.2.2) hO (fun e j hj hp => ?_)
                      have := (HN9.out.2.1.aits ⟨ra', rc', nb⟩ (List.mem_set (by rw [HI.out.1]; exact honl) _)).2 e j hj
                      exact this.2.2.1 hp
                    have h := bsMake ra' rc' nb w10 hrb (by rw [HNL.out]; omega)
                    rw [HNL.out] at h
                    exact h)
                  have HG10 := Lib.hid hG10
                  clear hG10
                  go_wp2_with (go_at_call 9; refine HMK.out.mono ?_)
                  rintro e w11 ⟨wa', wm', wcap', rfl, hru, hS11, hf11⟩
                  have H11 : Hid (RU w11 wa' wm' wcap' (ones nb) ∧ Same w10 w11 ∧ ∀ i, At wa' i → w10.heap.size ≤ i ∧ i < w11.heap.size) := Lib.hid ⟨hru, hS11, hf11⟩
                  clear hru hS11 hf11 HMK
                  have HWO : Hid (Own 25 2 w11 wa k vc (Ws.flatMap bc)) := Lib.hid (by
                    have hO : Only (At la) w9 w10 := ((Only.refl (At la) w9).alloc _).trans HG10.out.only (fun _ _ h => h)
                    exact ((HN9.out.2.1.wnt.1.keep hO (fun j hj hp => HN9.out.2.1.d2 j hp hj)).keep H11.out.2.1 (fun _ _ => id)))
                  rw [HNL.out]
                  go_wp2_with (at_builtin; refine wpList_append (k + 1) (Ws.flatMap bc ++ bc ⟨wa', wm', wcap', nb⟩) rfl _ _ _ _ rfl slBits rfl (HWO.out.keep (S := fun _ => False) (by repeat (first | exact Only.refl _ _ | apply Only.alloc | apply Only.drew)) (fun _ _ => id)) rfl (Src.row (size := 2) (cs := #[.int .u64 (nl : Int), .slice wa' wm' wcap']) (t := 25) (fr := (0, 0)) Try.underlying32 (by exact heap_alloc_new _ _) 1 1 rfl (by intro u hu; simp at hu; rcases hu with rfl | rfl <;> rfl)) rfl (by simp [bc, HNL.out]) (by unfold maxLen; omega) (by omega) ?_)
                  intro wa2 vc2 w12 hG12
                  have HFIN : Hid ((As.set on (⟨ra', rc', nb⟩ : Rb)).length = na ∧ L1 W5 w12 b R (k + 1) (As.set on ⟨ra', rc', nb⟩) (some ⟨ab, 0, none⟩) cl la2 lc2 (Ws ++ [⟨wa', wm', wcap', nb⟩]) wa2 vc2) := Lib.hid (by
                    have htw := HN9.out.2.1.two (t := normS s r) (x := ⟨wa', wm', wcap', nb⟩) ((Only.refl _ _).alloc _) (by rw [HT0.out]; exact HG10.out) H11.out.2.1 H11.out.1 H11.out.2.2 ((Only.refl _ _).alloc _) hG12
                    refine ⟨HN9.out.1, ?_, ?_, ?_⟩
                    · rw [HTK.out, normT_snoc, HS.out]; exact htw
                    · rw [HTK.out, normT_snoc, HS.out, afters_snoc, HS.out]; exact HN9.out.2.2.1
                    · rw [HTK.out, normT_snoc, HS.out, tolds_snoc, List.map_append, HI.out.2.2.2, HS.out, HNB.out]; rfl)
                  clear hG12
                  go_wp2_with fail
                  go_roundw
                  case rel => exact ⟨k + 1, na, (As.set on ⟨ra', rc', nb⟩), (some ⟨ab, 0, none⟩), la2, wa2, cl, lc2, vc2, Ws ++ [⟨wa', wm', wcap', nb⟩], by omega, by omega, by go_num, rfl, rfl, rfl, HFIN⟩
                  case measure => simp [intOf]; omega
              · have hl0b : ((len : Int) == 0) = false := by rw [beq_eq_false_iff_ne]; omega
                have hl0c : ¬ (len : Int) = 0 := by omega
                obtain ⟨A1, hA1⟩ : ∃ A1, A0 % len = A1 := ⟨_, rfl⟩
                have hA1' : (A0 : Int) % (len : Int) = (A1 : Int) := by rw [← hA1]; simp
                have hA1b : A1 < 600 := by have := Nat.mod_le A0 len; omega
                have h13a : ¬ (13 : Int) < (o : Int) := by omega
                have HT0 : Hid (normS s r = { op := o, on := on, by_ := by_, a := A1, b := B0 }) := Lib.hid (by
                  rw [HNS.out]
                  have e1 : normO o len na = o := by unfold normO; rw [if_neg (by omega), if_neg (by omega)]
                  have e2 : normA o len A0 = A1 := by unfold normA; rw [if_pos ⟨h7.1, h7.2, hl0⟩]; exact hA1
                  rw [e1, e2])
                have hAb : A1 < 600 := by omega
                have HST : Hid (∀ wx, Same wr wx → Calls Try.prog 8 #[.slice x.a len x.cap, .slice y.a len2 y.cap, .agg #[.int .i64 (o : Int), .int .i64 (on : Int), .int .i64 (by_ : Int), .int .u64 (A1 : Int), .int .u64 (B0 : Int)]] wx (RetBools (told s (normS s r)) wx)) := Lib.hid (fun wx hS => by
                  have hb := HXB.out wx hS
                  have hk := HOKS.out
                  have e1 : told s (normS s r) = nextL o x.b y.b A1 B0 := by unfold told; rw [HT0.out]; show nextL o (s.getD on []) (s.getD by_ []) A1 B0 = _; rw [HGX.out.1, HGX.out.2]
                  rw [e1]
                  rw [HT0.out] at hk
                  have h := bsStep x.a y.a x.cap y.cap x.b y.b o on by_ A1 B0 wx hb.1 hb.2 (by rw [HLEN.out.1]; omega) (by rw [HLEN.out.2]; omega) hk.op hAb hB600 (fun h => by have h2 := hk.place h; have h3 : (A1 : Nat) < (s.getD on []).length := h2; rw [HGX.out.1] at h3; exact h3)
                  rw [HLEN.out.1, HLEN.out.2] at h
                  exact h)
                obtain ⟨nb, hnb⟩ : ∃ nb, told s (normS s r) = nb := ⟨_, rfl⟩
                have HNB := Lib.hid hnb
                rw [hnb] at HST
                clear hnb
                go_wp2_with fail
                obtain ⟨W7, hW7⟩ : ∃ W7, W6.setCell ⟨g, 3, none⟩ (.int .u64 (A1 : Int)) = W7 := ⟨_, rfl⟩
                have HG7 : Hid (Only (fun j => j = g) W6 W7 ∧ W7.heap[g]? = some (.cells #[.int .i64 (o : Int), .int .i64 (on : Int), .int .i64 (by_ : Int), .int .u64 (A1 : Int), .int .u64 (B0 : Int)] 35 (0, 0))) := Lib.hid (by
                  rw [← hW7]
                  have hO : Only (fun j => j = g) W6 (W6.setCell ⟨g, 3, none⟩ (.int .u64 (A1 : Int))) := (Only.refl _ _).setCell _ _ (fun _ => rfl)
                  exact ⟨hO, setCell_heap HG.out.2.1 3 (.int .u64 (A1 : Int))⟩)
                rw [hW7]
                have HS7 : Hid (Same wr W7) := Lib.hid (Only.trans HG.out.1 HG7.out.1 (fun j hj e => by have := HG.out.2.2; omega))
                have HI7 : Hid (L1 W5 W7 b R k As (some ⟨ab, 0, none⟩) cl la lc Ws wa vc) := Lib.hid ⟨HI.out.2.1.still HS7.out, HI.out.2.2⟩
                have b1 : W7.cell? ⟨ab, by_, none⟩ = some (.slice y.a len2 y.cap) := (HG7.out.1.cell (p := ⟨ab, by_, none⟩) hablt hgab).trans a1
                have HAB : Hid (W7.cell? ⟨ab, on, none⟩ = some (.slice x.a len x.cap) ∧ W7.frozen? ⟨ab, on, none⟩ = false ∧ ab < W7.heap.size) := Lib.hid ⟨(HG7.out.1.cell (p := ⟨ab, on, none⟩) hablt hgab).trans a0, (HG7.out.1.frozen (p := ⟨ab, on, none⟩) hablt hgab).trans hfrz, Nat.lt_of_lt_of_le hablt HG7.out.1.size⟩
                have HK : Hid (∀ w', Same W7 w' → w'.cell? ⟨ab, by_, none⟩ = some (.slice y.a len2 y.cap) ∧ w'.cell? ⟨g, 0, none⟩ = some (.int .i64 (o : Int)) ∧ w'.cell? ⟨g, 1, none⟩ = some (.int .i64 (on : Int)) ∧ w'.cell? ⟨g, 2, none⟩ = some (.int .i64 (by_ : Int)) ∧ w'.cell? ⟨g, 3, none⟩ = some (.int .u64 (A1 : Int)) ∧ w'.cell? ⟨g, 4, none⟩ = some (.int .u64 (B0 : Int))) := Lib.hid (fun wx hS => ⟨(hS.cell (p := ⟨ab, by_, none⟩) (World.block_lt_of_cell? W7 _ b1) id).trans b1, block_cell (hS.obj HG7.out.2 id) rfl, block_cell (hS.obj HG7.out.2 id) rfl, block_cell (hS.obj HG7.out.2 id) rfl, block_cell (hS.obj HG7.out.2 id) rfl, block_cell (hS.obj HG7.out.2 id) rfl⟩)
                have HST7 : Hid (∀ wx, Same W7 wx → Calls Try.prog 8 #[.slice x.a len x.cap, .slice y.a len2 y.cap, .agg #[.int .i64 (o : Int), .int .i64 (on : Int), .int .i64 (by_ : Int), .int .u64 (A1 : Int), .int .u64 (B0 : Int)]] wx (fun e w' => ∃ ra rc, e = .returned (.slice ra nb.length rc) ∧ RB w' ra nb.length rc nb ∧ Same W7 w' ∧ ∀ i, At ra i → W7.heap.size ≤ i)) := Lib.hid (fun wx hS => (HST.out wx (Only.trans HS7.out hS (fun _ _ f => f))).mono fun e w' ⟨ra, rc, h1, h2, h3, h4⟩ => ⟨ra, rc, h1, h2, Only.trans hS h3 (fun _ _ f => f), fun i hi => Nat.le_trans hS.size (h4 i hi)⟩)
                have hnbl : nb.length ≤ 100000 := by
                  have h1 := after_short HSH.out (by omega) HOKS.out
                  have h2 : nb ∈ after s (normS s r) := by
                    rw [← HNB.out]
                    unfold after
                    split
                    · simp
                    · exact List.mem_set HOKS.out.on _
                  have := h1 nb h2; omega
                have d0 := (HK.out W7 (Only.refl _ _)).2.1
                have d1 := (HK.out W7 (Only.refl _ _)).2.2.1
                have d2 := (HK.out W7 (Only.refl _ _)).2.2.2.1
                have d3 := (HK.out W7 (Only.refl _ _)).2.2.2.2.1
                have d4 := (HK.out W7 (Only.refl _ _)).2.2.2.2.2
                clear hW7 c0 c1 c3 cf a0 a1 hfrz HST
                go_region_held3 (fun w' => w'.cell? ⟨ab, by_, none⟩ = some (.slice y.a len2 y.cap) ∧ w'.cell? ⟨g, 0, none⟩ = some (.int .i64 (o : Int)) ∧ w'.cell? ⟨g, 1, none⟩ = some (.int .i64 (on : Int)) ∧ w'.cell? ⟨g, 2, none⟩ = some (.int .i64 (by_ : Int)) ∧ w'.cell? ⟨g, 3, none⟩ = some (.int .u64 (A1 : Int)) ∧ w'.cell? ⟨g, 4, none⟩ = some (.int .u64 (B0 : Int))) (first | exact HK.out _ (Only.drew (Only.refl _ _)) | exact HK.out _ (by assumption)) (first
                  | ((go_at_call 8; (with_reducible refine (HST7.out _ (by exact (Only.refl _ W7).drew)).mono ?_); rintro e w8 ⟨ra', rc', rfl, hrb, hS8, hf8⟩)))
                all_goals
                  have H8 : Hid (RB w8 ra' nb.length rc' nb ∧ Same W7 w8 ∧ ∀ i, At ra' i → W7.heap.size ≤ i) := Lib.hid ⟨hrb, hS8, hf8⟩
                  clear hrb hS8 hf8
                  obtain ⟨nl, hnl⟩ : ∃ n, nb.length = n := ⟨_, rfl⟩
                  have HNL := Lib.hid hnl
                  rw [hnl] at H8 hnbl ⊢
                  have f0 : w8.cell? ⟨g, 0, none⟩ = some (.int .i64 (o : Int)) := block_cell (H8.out.2.1.obj HG7.out.2 id) rfl
                  have f1 : w8.cell? ⟨g, 1, none⟩ = some (.int .i64 (on : Int)) := block_cell (H8.out.2.1.obj HG7.out.2 id) rfl
                  have HAB8 : Hid (w8.cell? ⟨ab, on, none⟩ = some (.slice x.a len x.cap) ∧ w8.frozen? ⟨ab, on, none⟩ = false) := Lib.hid ⟨(H8.out.2.1.cell (p := ⟨ab, on, none⟩) HAB.out.2.2 id).trans HAB.out.1, (H8.out.2.1.frozen (p := ⟨ab, on, none⟩) HAB.out.2.2 id).trans HAB.out.2.1⟩
                  have e8 := HAB8.out.1
                  have e9 := HAB8.out.2
                  clear hnl d0 d1 d2 d3 d4 b1
                  obtain ⟨w9, hw9⟩ : ∃ w9, w8.setCell ⟨ab, on, none⟩ (.slice ra' nl rc') = w9 := ⟨_, rfl⟩
                  have HN9 : Hid ((As.set on (⟨ra', rc', nb⟩ : Rb)).length = na ∧ LInv W5 w9 (As.set on ⟨ra', rc', nb⟩) (some ⟨ab, 0, none⟩) cl (normT [b] (R.take k)) la lc Ws wa vc k ∧ (As.set on (⟨ra', rc', nb⟩ : Rb)).map (·.b) = after s (normS s r) ∧ w9.heap[g]? = some (.cells #[.int .i64 (o : Int), .int .i64 (on : Int), .int .i64 (by_ : Int), .int .u64 (A1 : Int), .int .u64 (B0 : Int)] 35 (0, 0)) ∧ RB w9 ra' nl rc' nb) := Lib.hid (by
                    have hlin := HI7.out.1.set (x := ⟨ra', rc', nb⟩) H8.out.2.1 (by rw [HNL.out]; exact H8.out.1) H8.out.2.2 (i := on) (ab := ab) (by rw [HI.out.1]; exact honl) rfl
                    have hrv : rbv ⟨ra', rc', nb⟩ = .slice ra' nl rc' := by unfold rbv; rw [HNL.out]
                    rw [hrv, hw9] at hlin
                    refine ⟨by rw [List.length_set]; exact HI.out.1, hlin, ?_, ?_, ?_⟩
                    · rw [List.map_set, HI.out.2.2.1, HS.out]; unfold after; rw [HT0.out, if_neg (by show ¬ 13 < o; omega), ← HT0.out, HNB.out, HT0.out]
                    · rw [← hw9]
                      have hO : Only (fun j => j = ab) w8 (w8.setCell ⟨ab, on, none⟩ (.slice ra' nl rc')) := (Only.refl _ _).setCell _ _ (fun _ => rfl)
                      exact hO.obj (H8.out.2.1.obj HG7.out.2 id) (fun e => hgab e.symm)
                    · have := (hlin.aits ⟨ra', rc', nb⟩ (List.mem_set (by rw [HI.out.1]; exact honl) _)).1; rw [HNL.out] at this; exact this)
                  have hbl2 := HN9.out.2.1.stp.bound
                  have hbl3 := HN9.out.2.1.wnt.bound
                  have m0 : (w8.setCell ⟨ab, on, none⟩ (.slice ra' nl rc')).cell? ⟨g, 0, none⟩ = some (.int .i64 (o : Int)) := by rw [hw9]; exact block_cell HN9.out.2.2.2.1 rfl
                  have m1 : (w8.setCell ⟨ab, on, none⟩ (.slice ra' nl rc')).cell? ⟨g, 1, none⟩ = some (.int .i64 (on : Int)) := by rw [hw9]; exact block_cell HN9.out.2.2.2.1 rfl
                  have m2 : (w8.setCell ⟨ab, on, none⟩ (.slice ra' nl rc')).cell? ⟨g, 2, none⟩ = some (.int .i64 (by_ : Int)) := by rw [hw9]; exact block_cell HN9.out.2.2.2.1 rfl
                  have m3 : (w8.setCell ⟨ab, on, none⟩ (.slice ra' nl rc')).cell? ⟨g, 3, none⟩ = some (.int .u64 (A1 : Int)) := by rw [hw9]; exact block_cell HN9.out.2.2.2.1 rfl
                  have m4 : (w8.setCell ⟨ab, on, none⟩ (.slice ra' nl rc')).cell? ⟨g, 4, none⟩ = some (.int .u64 (B0 : Int)) := by rw [hw9]; exact block_cell HN9.out.2.2.2.1 rfl
                  have HW9 : Hid (∀ w', w' = w8.setCell ⟨ab, on, none⟩ (.slice ra' nl rc') → w' = w9) := Lib.hid (fun w' h => by rw [h, hw9])
                  clear hw9
                  go_wp2_with (at_builtin; refine wpList_append (k + 1) ((normT [b] (R.take k)).flatMap stc ++ stc ⟨o, on, by_, A1, B0⟩) rfl _ _ _ _ rfl slStep rfl (Own.keep (S := fun _ => False) ((by rw [HW9.out _ rfl]; exact HN9.out.2.1.stp.1) : Own 35 5 (w8.setCell ⟨ab, on, none⟩ (.slice ra' nl rc')) la k lc _) (by repeat (first | exact Only.refl _ _ | apply Only.alloc | apply Only.drew)) (fun _ _ => id)) rfl (Src.row (size := 5) (cs := (stc ⟨o, on, by_, A1, B0⟩).toArray) (t := 35) (fr := (0, 0)) Try.underlying26 (by first | exact heap_alloc_new _ _ | exact heap_alloc_set _ _ _ _) 1 1 rfl (by intro u hu; exact stc_one _ u (by simpa using hu))) rfl (by simp) (by unfold maxLen; omega) (by omega) ?_)
                  intro la2 lc2 w10 hG10
                  rw [HW9.out _ rfl] at hG10
                  have HMK : Hid (Calls Try.prog 9 #[.slice ra' nl rc'] w10 (RetBits nb w10)) := Lib.hid (by
                    have hO : Only (At la) w9 w10 := ((Only.refl (At la) w9).alloc _).trans hG10.only (fun _ _ h => h)
                    have hrb : RB w10 ra' nb.length rc' nb := by
                      refine rb_keepc (x := ⟨ra', rc', nb⟩) (by rw [HNL.out]; exact HN9.out.2.2.2.2) hO (fun e j hj hp => ?_)
                      have := (HN9.out.2.1.aits ⟨ra', rc', nb⟩ (List.mem_set (by rw [HI.out.1]; exact honl) _)).2 e j hj
                      exact this.2.2.1 hp
                    have h := bsMake ra' rc' nb w10 hrb (by rw [HNL.out]; omega)
                    rw [HNL.out] at h
                    exact h)
                  have HG10 := Lib.hid hG10
                  clear hG10
                  go_wp2_with (go_at_call 9; refine HMK.out.mono ?_)
                  rintro e w11 ⟨wa', wm', wcap', rfl, hru, hS11, hf11⟩
                  have H11 : Hid (RU w11 wa' wm' wcap' (ones nb) ∧ Same w10 w11 ∧ ∀ i, At wa' i → w10.heap.size ≤ i ∧ i < w11.heap.size) := Lib.hid ⟨hru, hS11, hf11⟩
                  clear hru hS11 hf11 HMK
                  have HWO : Hid (Own 25 2 w11 wa k vc (Ws.flatMap bc)) := Lib.hid (by
                    have hO : Only (At la) w9 w10 := ((Only.refl (At la) w9).alloc _).trans HG10.out.only (fun _ _ h => h)
                    exact ((HN9.out.2.1.wnt.1.keep hO (fun j hj hp => HN9.out.2.1.d2 j hp hj)).keep H11.out.2.1 (fun _ _ => id)))
                  rw [HNL.out]
                  go_wp2_with (at_builtin; refine wpList_append (k + 1) (Ws.flatMap bc ++ bc ⟨wa', wm', wcap', nb⟩) rfl _ _ _ _ rfl slBits rfl (HWO.out.keep (S := fun _ => False) (by repeat (first | exact Only.refl _ _ | apply Only.alloc | apply Only.drew)) (fun _ _ => id)) rfl (Src.row (size := 2) (cs := #[.int .u64 (nl : Int), .slice wa' wm' wcap']) (t := 25) (fr := (0, 0)) Try.underlying32 (by exact heap_alloc_new _ _) 1 1 rfl (by intro u hu; simp at hu; rcases hu with rfl | rfl <;> rfl)) rfl (by simp [bc, HNL.out]) (by unfold maxLen; omega) (by omega) ?_)
                  intro wa2 vc2 w12 hG12
                  have HFIN : Hid ((As.set on (⟨ra', rc', nb⟩ : Rb)).length = na ∧ L1 W5 w12 b R (k + 1) (As.set on ⟨ra', rc', nb⟩) (some ⟨ab, 0, none⟩) cl la2 lc2 (Ws ++ [⟨wa', wm', wcap', nb⟩]) wa2 vc2) := Lib.hid (by
                    have htw := HN9.out.2.1.two (t := normS s r) (x := ⟨wa', wm', wcap', nb⟩) ((Only.refl _ _).alloc _) (by rw [HT0.out]; exact HG10.out) H11.out.2.1 H11.out.1 H11.out.2.2 ((Only.refl _ _).alloc _) hG12
                    refine ⟨HN9.out.1, ?_, ?_, ?_⟩
                    · rw [HTK.out, normT_snoc, HS.out]; exact htw
                    · rw [HTK.out, normT_snoc, HS.out, afters_snoc, HS.out]; exact HN9.out.2.2.1
                    · rw [HTK.out, normT_snoc, HS.out, tolds_snoc, List.map_append, HI.out.2.2.2, HS.out, HNB.out]; rfl)
                  clear hG12
                  go_wp2_with fail
                  go_roundw
                  case rel => exact ⟨k + 1, na, (As.set on ⟨ra', rc', nb⟩), (some ⟨ab, 0, none⟩), la2, wa2, cl, lc2, vc2, Ws ++ [⟨wa', wm', wcap', nb⟩], by omega, by omega, by go_num, rfl, rfl, rfl, HFIN⟩
                  case measure => simp [intOf]; omega
            · have hcase : (13 < o ∧ 3 < na) ∨ (13 < o ∧ na ≤ 3) ∨ (o ≤ 13 ∧ (o ≤ 7 ∨ 11 ≤ o)) := by omega
              rcases hcase with ⟨h13, hna3⟩ | ⟨h13, hna3⟩ | ⟨h13, hoo⟩
              · have h7a : (7 : Int) < (o : Int) := by omega
                have h7b : ¬ (o : Int) < 11 := by omega
                have h13a : (13 : Int) < (o : Int) := by omega
                have hn3 : (3 : Int) < (na : Int) := by omega
                have HT0 : Hid (normS s r = { op := 2, on := on, by_ := by_, a := A0, b := B0 }) := Lib.hid (by
                  rw [HNS.out]
                  have e1 : normO o len na = 2 := by unfold normO; rw [if_neg (by omega), if_pos ⟨h13, hna3⟩]
                  have e2 : normA o len A0 = A0 := by unfold normA; rw [if_neg (by omega)]
                  rw [e1, e2])
                have hAb : A0 < 600 := by omega
                have HST : Hid (∀ wx, Same wr wx → Calls Try.prog 8 #[.slice x.a len x.cap, .slice y.a len2 y.cap, .agg #[.int .i64 2, .int .i64 (on : Int), .int .i64 (by_ : Int), .int .u64 (A0 : Int), .int .u64 (B0 : Int)]] wx (RetBools (told s (normS s r)) wx)) := Lib.hid (fun wx hS => by
                  have hb := HXB.out wx hS
                  have hk := HOKS.out
                  have e1 : told s (normS s r) = nextL 2 x.b y.b A0 B0 := by unfold told; rw [HT0.out]; show nextL 2 (s.getD on []) (s.getD by_ []) A0 B0 = _; rw [HGX.out.1, HGX.out.2]
                  rw [e1]
                  rw [HT0.out] at hk
                  have h := bsStep x.a y.a x.cap y.cap x.b y.b 2 on by_ A0 B0 wx hb.1 hb.2 (by rw [HLEN.out.1]; omega) (by rw [HLEN.out.2]; omega) hk.op hAb hB600 (fun h => by have h2 := hk.place h; have h3 : (A0 : Nat) < (s.getD on []).length := h2; rw [HGX.out.1] at h3; exact h3)
                  rw [HLEN.out.1, HLEN.out.2] at h
                  exact h)
                obtain ⟨nb, hnb⟩ : ∃ nb, told s (normS s r) = nb := ⟨_, rfl⟩
                have HNB := Lib.hid hnb
                rw [hnb] at HST
                clear hnb
                go_wp2_with fail
                obtain ⟨W7, hW7⟩ : ∃ W7, W6.setCell ⟨g, 0, none⟩ (.int .i64 2) = W7 := ⟨_, rfl⟩
                have HG7 : Hid (Only (fun j => j = g) W6 W7 ∧ W7.heap[g]? = some (.cells #[.int .i64 2, .int .i64 (on : Int), .int .i64 (by_ : Int), .int .u64 (A0 : Int), .int .u64 (B0 : Int)] 35 (0, 0))) := Lib.hid (by
                  rw [← hW7]
                  have hO : Only (fun j => j = g) W6 (W6.setCell ⟨g, 0, none⟩ (.int .i64 2)) := (Only.refl _ _).setCell _ _ (fun _ => rfl)
                  exact ⟨hO, setCell_heap HG.out.2.1 0 (.int .i64 2)⟩)
                rw [hW7]
                have HS7 : Hid (Same wr W7) := Lib.hid (Only.trans HG.out.1 HG7.out.1 (fun j hj e => by have := HG.out.2.2; omega))
                have HI7 : Hid (L1 W5 W7 b R k As (some ⟨ab, 0, none⟩) cl la lc Ws wa vc) := Lib.hid ⟨HI.out.2.1.still HS7.out, HI.out.2.2⟩
                have b1 : W7.cell? ⟨ab, by_, none⟩ = some (.slice y.a len2 y.cap) := (HG7.out.1.cell (p := ⟨ab, by_, none⟩) hablt hgab).trans a1
                have HAB : Hid (W7.cell? ⟨ab, on, none⟩ = some (.slice x.a len x.cap) ∧ W7.frozen? ⟨ab, on, none⟩ = false ∧ ab < W7.heap.size) := Lib.hid ⟨(HG7.out.1.cell (p := ⟨ab, on, none⟩) hablt hgab).trans a0, (HG7.out.1.frozen (p := ⟨ab, on, none⟩) hablt hgab).trans hfrz, Nat.lt_of_lt_of_le hablt HG7.out.1.size⟩
                have HK : Hid (∀ w', Same W7 w' → w'.cell? ⟨ab, by_, none⟩ = some (.slice y.a len2 y.cap) ∧ w'.cell? ⟨g, 0, none⟩ = some (.int .i64 2) ∧ w'.cell? ⟨g, 1, none⟩ = some (.int .i64 (on : Int)) ∧ w'.cell? ⟨g, 2, none⟩ = some (.int .i64 (by_ : Int)) ∧ w'.cell? ⟨g, 3, none⟩ = some (.int .u64 (A0 : Int)) ∧ w'.cell? ⟨g, 4, none⟩ = some (.int .u64 (B0 : Int))) := Lib.hid (fun wx hS => ⟨(hS.cell (p := ⟨ab, by_, none⟩) (World.block_lt_of_cell? W7 _ b1) id).trans b1, block_cell (hS.obj HG7.out.2 id) rfl, block_cell (hS.obj HG7.out.2 id) rfl, block_cell (hS.obj HG7.out.2 id) rfl, block_cell (hS.obj HG7.out.2 id) rfl, block_cell (hS.obj HG7.out.2 id) rfl⟩)
                have HST7 : Hid (∀ wx, Same W7 wx → Calls Try.prog 8 #[.slice x.a len x.cap, .slice y.a len2 y.cap, .agg #[.int .i64 2, .int .i64 (on : Int), .int .i64 (by_ : Int), .int .u64 (A0 : Int), .int .u64 (B0 : Int)]] wx (fun e w' => ∃ ra rc, e = .returned (.slice ra nb.length rc) ∧ RB w' ra nb.length rc nb ∧ Same W7 w' ∧ ∀ i, At ra i → W7.heap.size ≤ i)) := Lib.hid (fun wx hS => (HST.out wx (Only.trans HS7.out hS (fun _ _ f => f))).mono fun e w' ⟨ra, rc, h1, h2, h3, h4⟩ => ⟨ra, rc, h1, h2, Only.trans hS h3 (fun _ _ f => f), fun i hi => Nat.le_trans hS.size (h4 i hi)⟩)
                have hnbl : nb.length ≤ 100000 := by
                  have h1 := after_short HSH.out (by omega) HOKS.out
                  have h2 : nb ∈ after s (normS s r) := by
                    rw [← HNB.out]
                    unfold after
                    split
                    · simp
                    · exact List.mem_set HOKS.out.on _
                  have := h1 nb h2; omega
                have d0 := (HK.out W7 (Only.refl _ _)).2.1
                have d1 := (HK.out W7 (Only.refl _ _)).2.2.1
                have d2 := (HK.out W7 (Only.refl _ _)).2.2.2.1
                have d3 := (HK.out W7 (Only.refl _ _)).2.2.2.2.1
                have d4 := (HK.out W7 (Only.refl _ _)).2.2.2.2.2
                clear hW7 c0 c1 c3 cf a0 a1 hfrz HST
                go_region_held3 (fun w' => w'.cell? ⟨ab, by_, none⟩ = some (.slice y.a len2 y.cap) ∧ w'.cell? ⟨g, 0, none⟩ = some (.int .i64 2) ∧ w'.cell? ⟨g, 1, none⟩ = some (.int .i64 (on : Int)) ∧ w'.cell? ⟨g, 2, none⟩ = some (.int .i64 (by_ : Int)) ∧ w'.cell? ⟨g, 3, none⟩ = some (.int .u64 (A0 : Int)) ∧ w'.cell? ⟨g, 4, none⟩ = some (.int .u64 (B0 : Int))) (first | exact HK.out _ (Only.drew (Only.refl _ _)) | exact HK.out _ (by assumption)) (first
                  | ((go_at_call 8; (with_reducible refine (HST7.out _ (by exact (Only.refl _ W7).drew)).mono ?_); rintro e w8 ⟨ra', rc', rfl, hrb, hS8, hf8⟩)))
                all_goals
                  have H8 : Hid (RB w8 ra' nb.length rc' nb ∧ Same W7 w8 ∧ ∀ i, At ra' i → W7.heap.size ≤ i) := Lib.hid ⟨hrb, hS8, hf8⟩
                  clear hrb hS8 hf8
                  obtain ⟨nl, hnl⟩ : ∃ n, nb.length = n := ⟨_, rfl⟩
                  have HNL := Lib.hid hnl
                  rw [hnl] at H8 hnbl ⊢
                  have f0 : w8.cell? ⟨g, 0, none⟩ = some (.int .i64 2) := block_cell (H8.out.2.1.obj HG7.out.2 id) rfl
                  have f1 : w8.cell? ⟨g, 1, none⟩ = some (.int .i64 (on : Int)) := block_cell (H8.out.2.1.obj HG7.out.2 id) rfl
                  have HAB8 : Hid (w8.cell? ⟨ab, on, none⟩ = some (.slice x.a len x.cap) ∧ w8.frozen? ⟨ab, on, none⟩ = false) := Lib.hid ⟨(H8.out.2.1.cell (p := ⟨ab, on, none⟩) HAB.out.2.2 id).trans HAB.out.1, (H8.out.2.1.frozen (p := ⟨ab, on, none⟩) HAB.out.2.2 id).trans HAB.out.2.1⟩
                  have e8 := HAB8.out.1
                  have e9 := HAB8.out.2
                  clear hnl d0 d1 d2 d3 d4 b1
                  obtain ⟨w9, hw9⟩ : ∃ w9, w8.setCell ⟨ab, on, none⟩ (.slice ra' nl rc') = w9 := ⟨_, rfl⟩
                  have HN9 : Hid ((As.set on (⟨ra', rc', nb⟩ : Rb)).length = na ∧ LInv W5 w9 (As.set on ⟨ra', rc', nb⟩) (some ⟨ab, 0, none⟩) cl (normT [b] (R.take k)) la lc Ws wa vc k ∧ (As.set on (⟨ra', rc', nb⟩ : Rb)).map (·.b) = after s (normS s r) ∧ w9.heap[g]? = some (.cells #[.int .i64 2, .int .i64 (on : Int), .int .i64 (by_ : Int), .int .u64 (A0 : Int), .int .u64 (B0 : Int)] 35 (0, 0)) ∧ RB w9 ra' nl rc' nb) := Lib.hid (by
                    have hlin := HI7.out.1.set (x := ⟨ra', rc', nb⟩) H8.out.2.1 (by rw [HNL.out]; exact H8.out.1) H8.out.2.2 (i := on) (ab := ab) (by rw [HI.out.1]; exact honl) rfl
                    have hrv : rbv ⟨ra', rc', nb⟩ = .slice ra' nl rc' := by unfold rbv; rw [HNL.out]
                    rw [hrv, hw9] at hlin
                    refine ⟨by rw [List.length_set]; exact HI.out.1, hlin, ?_, ?_, ?_⟩
                    · rw [List.map_set, HI.out.2.2.1, HS.out]; unfold after; rw [HT0.out, if_neg (by show ¬ 13 < 2; omega), ← HT0.out, HNB.out, HT0.out]
                    · rw [← hw9]
                      have hO : Only (fun j => j = ab) w8 (w8.setCell ⟨ab, on, none⟩ (.slice ra' nl rc')) := (Only.refl _ _).setCell _ _ (fun _ => rfl)
                      exact hO.obj (H8.out.2.1.obj HG7.out.2 id) (fun e => hgab e.symm)
                    · have := (hlin.aits ⟨ra', rc', nb⟩ (List.mem_set (by rw [HI.out.1]; exact honl) _)).1; rw [HNL.out] at this; exact this)
                  have hbl2 := HN9.out.2.1.stp.bound
                  have hbl3 := HN9.out.2.1.wnt.bound
                  have m0 : (w8.setCell ⟨ab, on, none⟩ (.slice ra' nl rc')).cell? ⟨g, 0, none⟩ = some (.int .i64 2) := by rw [hw9]; exact block_cell HN9.out.2.2.2.1 rfl
                  have m1 : (w8.setCell ⟨ab, on, none⟩ (.slice ra' nl rc')).cell? ⟨g, 1, none⟩ = some (.int .i64 (on : Int)) := by rw [hw9]; exact block_cell HN9.out.2.2.2.1 rfl
                  have m2 : (w8.setCell ⟨ab, on, none⟩ (.slice ra' nl rc')).cell? ⟨g, 2, none⟩ = some (.int .i64 (by_ : Int)) := by rw [hw9]; exact block_cell HN9.out.2.2.2.1 rfl
                  have m3 : (w8.setCell ⟨ab, on, none⟩ (.slice ra' nl rc')).cell? ⟨g, 3, none⟩ = some (.int .u64 (A0 : Int)) := by rw [hw9]; exact block_cell HN9.out.2.2.2.1 rfl
                  have m4 : (w8.setCell ⟨ab, on, none⟩ (.slice ra' nl rc')).cell? ⟨g, 4, none⟩ = some (.int .u64 (B0 : Int)) := by rw [hw9]; exact block_cell HN9.out.2.2.2.1 rfl
                  have HW9 : Hid (∀ w', w' = w8.setCell ⟨ab, on, none⟩ (.slice ra' nl rc') → w' = w9) := Lib.hid (fun w' h => by rw [h, hw9])
                  clear hw9
                  go_wp2_with (at_builtin; refine wpList_append (k + 1) ((normT [b] (R.take k)).flatMap stc ++ stc ⟨2, on, by_, A0, B0⟩) rfl _ _ _ _ rfl slStep rfl (Own.keep (S := fun _ => False) ((by rw [HW9.out _ rfl]; exact HN9.out.2.1.stp.1) : Own 35 5 (w8.setCell ⟨ab, on, none⟩ (.slice ra' nl rc')) la k lc _) (by repeat (first | exact Only.refl _ _ | apply Only.alloc | apply Only.drew)) (fun _ _ => id)) rfl (Src.row (size := 5) (cs := (stc ⟨2, on, by_, A0, B0⟩).toArray) (t := 35) (fr := (0, 0)) Try.underlying26 (by first | exact heap_alloc_new _ _ | exact heap_alloc_set _ _ _ _) 1 1 rfl (by intro u hu; exact stc_one _ u (by simpa using hu))) rfl (by simp) (by unfold maxLen; omega) (by omega) ?_)
                  intro la2 lc2 w10 hG10
                  rw [HW9.out _ rfl] at hG10
                  have HMK : Hid (Calls Try.prog 9 #[.slice ra' nl rc'] w10 (RetBits nb w10)) := Lib.hid (by
                    have hO : Only (At la) w9 w10 := ((Only.refl (At la) w9).alloc _).trans hG10.only (fun _ _ h => h)
                    have hrb : RB w10 ra' nb.length rc' nb := by
                      refine rb_keepc (x := ⟨ra', rc', nb⟩) (by rw [HNL.out]; exact HN9.out.2.2.2.2) hO (fun e j hj hp => ?_)
                      have := (HN9.out.2.1.aits ⟨ra', rc', nb⟩ (List.mem_set (by rw [HI.out.1]; exact honl) _)).2 e j hj
                      exact this.2.2.1 hp
                    have h := bsMake ra' rc' nb w10 hrb (by rw [HNL.out]; omega)
                    rw [HNL.out] at h
                    exact h)
                  have HG10 := Lib.hid hG10
                  clear hG10
                  go_wp2_with (go_at_call 9; refine HMK.out.mono ?_)
                  rintro e w11 ⟨wa', wm', wcap', rfl, hru, hS11, hf11⟩
                  have H11 : Hid (RU w11 wa' wm' wcap' (ones nb) ∧ Same w10 w11 ∧ ∀ i, At wa' i → w10.heap.size ≤ i ∧ i < w11.heap.size) := Lib.hid ⟨hru, hS11, hf11⟩
                  clear hru hS11 hf11 HMK
                  have HWO : Hid (Own 25 2 w11 wa k vc (Ws.flatMap bc)) := Lib.hid (by
                    have hO : Only (At la) w9 w10 := ((Only.refl (At la) w9).alloc _).trans HG10.out.only (fun _ _ h => h)
                    exact ((HN9.out.2.1.wnt.1.keep hO (fun j hj hp => HN9.out.2.1.d2 j hp hj)).keep H11.out.2.1 (fun _ _ => id)))
                  rw [HNL.out]
                  go_wp2_with (at_builtin; refine wpList_append (k + 1) (Ws.flatMap bc ++ bc ⟨wa', wm', wcap', nb⟩) rfl _ _ _ _ rfl slBits rfl (HWO.out.keep (S := fun _ => False) (by repeat (first | exact Only.refl _ _ | apply Only.alloc | apply Only.drew)) (fun _ _ => id)) rfl (Src.row (size := 2) (cs := #[.int .u64 (nl : Int), .slice wa' wm' wcap']) (t := 25) (fr := (0, 0)) Try.underlying32 (by exact heap_alloc_new _ _) 1 1 rfl (by intro u hu; simp at hu; rcases hu with rfl | rfl <;> rfl)) rfl (by simp [bc, HNL.out]) (by unfold maxLen; omega) (by omega) ?_)
                  intro wa2 vc2 w12 hG12
                  have HFIN : Hid ((As.set on (⟨ra', rc', nb⟩ : Rb)).length = na ∧ L1 W5 w12 b R (k + 1) (As.set on ⟨ra', rc', nb⟩) (some ⟨ab, 0, none⟩) cl la2 lc2 (Ws ++ [⟨wa', wm', wcap', nb⟩]) wa2 vc2) := Lib.hid (by
                    have htw := HN9.out.2.1.two (t := normS s r) (x := ⟨wa', wm', wcap', nb⟩) ((Only.refl _ _).alloc _) (by rw [HT0.out]; exact HG10.out) H11.out.2.1 H11.out.1 H11.out.2.2 ((Only.refl _ _).alloc _) hG12
                    refine ⟨HN9.out.1, ?_, ?_, ?_⟩
                    · rw [HTK.out, normT_snoc, HS.out]; exact htw
                    · rw [HTK.out, normT_snoc, HS.out, afters_snoc, HS.out]; exact HN9.out.2.2.1
                    · rw [HTK.out, normT_snoc, HS.out, tolds_snoc, List.map_append, HI.out.2.2.2, HS.out, HNB.out]; rfl)
                  clear hG12
                  go_wp2_with fail
                  go_roundw
                  case rel => exact ⟨k + 1, na, (As.set on ⟨ra', rc', nb⟩), (some ⟨ab, 0, none⟩), la2, wa2, cl, lc2, vc2, Ws ++ [⟨wa', wm', wcap', nb⟩], by omega, by omega, by go_num, rfl, rfl, rfl, HFIN⟩
                  case measure => simp [intOf]; omega
              · have h7a : (7 : Int) < (o : Int) := by omega
                have h7b : ¬ (o : Int) < 11 := by omega
                have h13a : (13 : Int) < (o : Int) := by omega
                have hn3 : ¬ (3 : Int) < (na : Int) := by omega
                have HT0 : Hid (normS s r = { op := o, on := on, by_ := by_, a := A0, b := B0 }) := Lib.hid (by
                  rw [HNS.out]
                  have e1 : normO o len na = o := by unfold normO; rw [if_neg (by omega), if_neg (by omega)]
                  have e2 : normA o len A0 = A0 := by unfold normA; rw [if_neg (by omega)]
                  rw [e1, e2])
                have hAb : A0 < 600 := by omega
                have HST : Hid (∀ wx, Same wr wx → Calls Try.prog 8 #[.slice x.a len x.cap, .slice y.a len2 y.cap, .agg #[.int .i64 (o : Int), .int .i64 (on : Int), .int .i64 (by_ : Int), .int .u64 (A0 : Int), .int .u64 (B0 : Int)]] wx (RetBools (told s (normS s r)) wx)) := Lib.hid (fun wx hS => by
                  have hb := HXB.out wx hS
                  have hk := HOKS.out
                  have e1 : told s (normS s r) = nextL o x.b y.b A0 B0 := by unfold told; rw [HT0.out]; show nextL o (s.getD on []) (s.getD by_ []) A0 B0 = _; rw [HGX.out.1, HGX.out.2]
                  rw [e1]
                  rw [HT0.out] at hk
                  have h := bsStep x.a y.a x.cap y.cap x.b y.b o on by_ A0 B0 wx hb.1 hb.2 (by rw [HLEN.out.1]; omega) (by rw [HLEN.out.2]; omega) hk.op hAb hB600 (fun h => by have h2 := hk.place h; have h3 : (A0 : Nat) < (s.getD on []).length := h2; rw [HGX.out.1] at h3; exact h3)
                  rw [HLEN.out.1, HLEN.out.2] at h
                  exact h)
                obtain ⟨nb, hnb⟩ : ∃ nb, told s (normS s r) = nb := ⟨_, rfl⟩
                have HNB := Lib.hid hnb
                rw [hnb] at HST
                clear hnb
                go_wp2_with fail
                obtain ⟨W7, hW7⟩ : ∃ W7, W6 = W7 := ⟨_, rfl⟩
                have HG7 : Hid (Only (fun j => j = g) W6 W7 ∧ W7.heap[g]? = some (.cells #[.int .i64 (o : Int), .int .i64 (on : Int), .int .i64 (by_ : Int), .int .u64 (A0 : Int), .int .u64 (B0 : Int)] 35 (0, 0))) := Lib.hid (by
                  rw [← hW7]
                  exact ⟨Only.refl _ _, HG.out.2.1⟩)
                rw [hW7]
                have HS7 : Hid (Same wr W7) := Lib.hid (Only.trans HG.out.1 HG7.out.1 (fun j hj e => by have := HG.out.2.2; omega))
                have HI7 : Hid (L1 W5 W7 b R k As (some ⟨ab, 0, none⟩) cl la lc Ws wa vc) := Lib.hid ⟨HI.out.2.1.still HS7.out, HI.out.2.2⟩
                have b1 : W7.cell? ⟨ab, by_, none⟩ = some (.slice y.a len2 y.cap) := (HG7.out.1.cell (p := ⟨ab, by_, none⟩) hablt hgab).trans a1
                have HAB : Hid (W7.cell? ⟨ab, on, none⟩ = some (.slice x.a len x.cap) ∧ W7.frozen? ⟨ab, on, none⟩ = false ∧ ab < W7.heap.size) := Lib.hid ⟨(HG7.out.1.cell (p := ⟨ab, on, none⟩) hablt hgab).trans a0, (HG7.out.1.frozen (p := ⟨ab, on, none⟩) hablt hgab).trans hfrz, Nat.lt_of_lt_of_le hablt HG7.out.1.size⟩
                have HK : Hid (∀ w', Same W7 w' → w'.cell? ⟨ab, by_, none⟩ = some (.slice y.a len2 y.cap) ∧ w'.cell? ⟨g, 0, none⟩ = some (.int .i64 (o : Int)) ∧ w'.cell? ⟨g, 1, none⟩ = some (.int .i64 (on : Int)) ∧ w'.cell? ⟨g, 2, none⟩ = some (.int .i64 (by_ : Int)) ∧ w'.cell? ⟨g, 3, none⟩ = some (.int .u64 (A0 : Int)) ∧ w'.cell? ⟨g, 4, none⟩ = some (.int .u64 (B0 : Int))) := Lib.hid (fun wx hS => ⟨(hS.cell (p := ⟨ab, by_, none⟩) (World.block_lt_of_cell? W7 _ b1) id).trans b1, block_cell (hS.obj HG7.out.2 id) rfl, block_cell (hS.obj HG7.out.2 id) rfl, block_cell (hS.obj HG7.out.2 id) rfl, block_cell (hS.obj HG7.out.2 id) rfl, block_cell (hS.obj HG7.out.2 id) rfl⟩)
                have HST7 : Hid (∀ wx, Same W7 wx → Calls Try.prog 8 #[.slice x.a len x.cap, .slice y.a len2 y.cap, .agg #[.int .i64 (o : Int), .int .i64 (on : Int), .int .i64 (by_ : Int), .int .u64 (A0 : Int), .int .u64 (B0 : Int)]] wx (fun e w' => ∃ ra rc, e = .returned (.slice ra nb.length rc) ∧ RB w' ra nb.length rc nb ∧ Same W7 w' ∧ ∀ i, At ra i → W7.heap.size ≤ i)) := Lib.hid (fun wx hS => (HST.out wx (Only.trans HS7.out hS (fun _ _ f => f))).mono fun e w' ⟨ra, rc, h1, h2, h3, h4⟩ => ⟨ra, rc, h1, h2, Only.trans hS h3 (fun _ _ f => f), fun i hi => Nat.le_trans hS.size (h4 i hi)⟩)
                have hnbl : nb.length ≤ 100000 := by
                  have h1 := after_short HSH.out (by omega) HOKS.out
                  have h2 : nb ∈ after s (normS s r) := by
                    rw [← HNB.out]
                    unfold after
                    split
                    · simp
                    · exact List.mem_set HOKS.out.on _
                  have := h1 nb h2; omega
                have d0 := (HK.out W7 (Only.refl _ _)).2.1
                have d1 := (HK.out W7 (Only.refl _ _)).2.2.1
                have d2 := (HK.out W7 (Only.refl _ _)).2.2.2.1
                have d3 := (HK.out W7 (Only.refl _ _)).2.2.2.2.1
                have d4 := (HK.out W7 (Only.refl _ _)).2.2.2.2.2
                clear hW7 c0 c1 c3 cf a0 a1 hfrz HST
                go_region_held3 (fun w' => w'.cell? ⟨ab, by_, none⟩ = some (.slice y.a len2 y.cap) ∧ w'.cell? ⟨g, 0, none⟩ = some (.int .i64 (o : Int)) ∧ w'.cell? ⟨g, 1, none⟩ = some (.int .i64 (on : Int)) ∧ w'.cell? ⟨g, 2, none⟩ = some (.int .i64 (by_ : Int)) ∧ w'.cell? ⟨g, 3, none⟩ = some (.int .u64 (A0 : Int)) ∧ w'.cell? ⟨g, 4, none⟩ = some (.int .u64 (B0 : Int))) (first | exact HK.out _ (Only.drew (Only.refl _ _)) | exact HK.out _ (by assumption)) (first
                  | ((go_at_call 8; (with_reducible refine (HST7.out _ (by exact (Only.refl _ W7).drew)).mono ?_); rintro e w8 ⟨ra', rc', rfl, hrb, hS8, hf8⟩)))
                all_goals
                  have H8 : Hid (RB w8 ra' nb.length rc' nb ∧ Same W7 w8 ∧ ∀ i, At ra' i → W7.heap.size ≤ i) := Lib.hid ⟨hrb, hS8, hf8⟩
                  clear hrb hS8 hf8
                  obtain ⟨nl, hnl⟩ : ∃ n, nb.length = n := ⟨_, rfl⟩
                  have HNL := Lib.hid hnl
                  rw [hnl] at H8 hnbl ⊢
                  have f0 : w8.cell? ⟨g, 0, none⟩ = some (.int .i64 (o : Int)) := block_cell (H8.out.2.1.obj HG7.out.2 id) rfl
                  have f1 : w8.cell? ⟨g, 1, none⟩ = some (.int .i64 (on : Int)) := block_cell (H8.out.2.1.obj HG7.out.2 id) rfl
                  have HAB8 : Hid (w8.cell? ⟨ab, on, none⟩ = some (.slice x.a len x.cap) ∧ w8.frozen? ⟨ab, on, none⟩ = false) := Lib.hid ⟨(H8.out.2.1.cell (p := ⟨ab, on, none⟩) HAB.out.2.2 id).trans HAB.out.1, (H8.out.2.1.frozen (p := ⟨ab, on, none⟩) HAB.out.2.2 id).trans HAB.out.2.1⟩
                  have e8 := HAB8.out.1
                  have e9 := HAB8.out.2
                  clear hnl d0 d1 d2 d3 d4 b1
                  have hbal := HI7.out.1.all.bound
                  rw [HI.out.1] at hbal
                  have HAL8 : Hid (Own 29 1 w8 (some ⟨ab, 0, none⟩) na cl (As.map rbv)) := Lib.hid (by have h1 := HI7.out.1.all.keep H8.out.2.1 (fun _ _ => id); rw [HI.out.1] at h1; exact h1)
                  go_wp2_with (at_builtin; refine wpList_append (na + 1) (As.map rbv ++ [rbv ⟨ra', rc', nb⟩]) rfl _ _ _ _ rfl slList rfl (HAL8.out.keep (S := fun _ => False) (by repeat (first | exact Only.refl _ _ | apply Only.alloc | apply Only.drew)) (fun _ _ => id)) rfl (Src.row (size := 1) (cs := #[.slice ra' nl rc']) (t := 29) (fr := (0, 0)) Try.underlying31 (by exact heap_alloc_new _ _) 1 1 rfl (by intro u hu; simp at hu; subst hu; rfl)) rfl (by simp [rbv, HNL.out]) (by unfold maxLen; omega) (by omega) ?_)
                  intro al2 cl2 w9 hG9
                  have HN9 : Hid ((As ++ [(⟨ra', rc', nb⟩ : Rb)]).length = na + 1 ∧ LInv W5 w9 (As ++ [⟨ra', rc', nb⟩]) al2 cl2 (normT [b] (R.take k)) la lc Ws wa vc k ∧ (As ++ [(⟨ra', rc', nb⟩ : Rb)]).map (·.b) = after s (normS s r) ∧ w9.heap[g]? = some (.cells #[.int .i64 (o : Int), .int .i64 (on : Int), .int .i64 (by_ : Int), .int .u64 (A0 : Int), .int .u64 (B0 : Int)] 35 (0, 0)) ∧ RB w9 ra' nl rc' nb) := Lib.hid (by
                    have hlin := HI7.out.1.more (x := ⟨ra', rc', nb⟩) H8.out.2.1 (by rw [HNL.out]; exact H8.out.1) H8.out.2.2 ((Only.refl _ _).alloc _) (by rw [HI.out.1]; exact hG9)
                    refine ⟨by rw [List.length_append, HI.out.1]; rfl, hlin, ?_, hG9.only.obj (((Only.refl (fun _ => False) _).alloc _).obj (H8.out.2.1.obj HG7.out.2 id) id) (fun hp => by have := HG.out.2.2; have := HI.out.2.1.all.lt g hp; omega), ?_⟩
                    · rw [List.map_append, HI.out.2.2.1, HS.out]; unfold after; rw [HT0.out, if_pos h13, ← HT0.out, HNB.out]; rfl
                    · have := (hlin.aits ⟨ra', rc', nb⟩ (by simp)).1; rw [HNL.out] at this; exact this)
                  clear hG9
                  have hbl2 := HN9.out.2.1.stp.bound
                  have hbl3 := HN9.out.2.1.wnt.bound
                  have m0 : w9.cell? ⟨g, 0, none⟩ = some (.int .i64 (o : Int)) := by exact block_cell HN9.out.2.2.2.1 rfl
                  have m1 : w9.cell? ⟨g, 1, none⟩ = some (.int .i64 (on : Int)) := by exact block_cell HN9.out.2.2.2.1 rfl
                  have m2 : w9.cell? ⟨g, 2, none⟩ = some (.int .i64 (by_ : Int)) := by exact block_cell HN9.out.2.2.2.1 rfl
                  have m3 : w9.cell? ⟨g, 3, none⟩ = some (.int .u64 (A0 : Int)) := by exact block_cell HN9.out.2.2.2.1 rfl
                  have m4 : w9.cell? ⟨g, 4, none⟩ = some (.int .u64 (B0 : Int)) := by exact block_cell HN9.out.2.2.2.1 rfl
                  go_wp2_with (at_builtin; refine wpList_append (k + 1) ((normT [b] (R.take k)).flatMap stc ++ stc ⟨o, on, by_, A0, B0⟩) rfl _ _ _ _ rfl slStep rfl (Own.keep (S := fun _ => False) HN9.out.2.1.stp.1 (by repeat (first | exact Only.refl _ _ | apply Only.alloc | apply Only.drew)) (fun _ _ => id)) rfl (Src.row (size := 5) (cs := (stc ⟨o, on, by_, A0, B0⟩).toArray) (t := 35) (fr := (0, 0)) Try.underlying26 (by first | exact heap_alloc_new _ _ | exact heap_alloc_set _ _ _ _) 1 1 rfl (by intro u hu; exact stc_one _ u (by simpa using hu))) rfl (by simp) (by unfold maxLen; omega) (by omega) ?_)
                  intro la2 lc2 w10 hG10
                  have HMK : Hid (Calls Try.prog 9 #[.slice ra' nl rc'] w10 (RetBits nb w10)) := Lib.hid (by
                    have hO : Only (At la) w9 w10 := ((Only.refl (At la) w9).alloc _).trans hG10.only (fun _ _ h => h)
                    have hrb : RB w10 ra' nb.length rc' nb := by
                      refine rb_keepc (x := ⟨ra', rc', nb⟩) (by rw [HNL.out]; exact HN9.out.2.2.2.2) hO (fun e j hj hp => ?_)
                      have := (HN9.out.2.1.aits ⟨ra', rc', nb⟩ (by simp)).2 e j hj
                      exact this.2.2.1 hp
                    have h := bsMake ra' rc' nb w10 hrb (by rw [HNL.out]; omega)
                    rw [HNL.out] at h
                    exact h)
                  have HG10 := Lib.hid hG10
                  clear hG10
                  go_wp2_with (go_at_call 9; refine HMK.out.mono ?_)
                  rintro e w11 ⟨wa', wm', wcap', rfl, hru, hS11, hf11⟩
                  have H11 : Hid (RU w11 wa' wm' wcap' (ones nb) ∧ Same w10 w11 ∧ ∀ i, At wa' i → w10.heap.size ≤ i ∧ i < w11.heap.size) := Lib.hid ⟨hru, hS11, hf11⟩
                  clear hru hS11 hf11 HMK
                  have HWO : Hid (Own 25 2 w11 wa k vc (Ws.flatMap bc)) := Lib.hid (by
                    have hO : Only (At la) w9 w10 := ((Only.refl (At la) w9).alloc _).trans HG10.out.only (fun _ _ h => h)
                    exact ((HN9.out.2.1.wnt.1.keep hO (fun j hj hp => HN9.out.2.1.d2 j hp hj)).keep H11.out.2.1 (fun _ _ => id)))
                  rw [HNL.out]
                  go_wp2_with (at_builtin; refine wpList_append (k + 1) (Ws.flatMap bc ++ bc ⟨wa', wm', wcap', nb⟩) rfl _ _ _ _ rfl slBits rfl (HWO.out.keep (S := fun _ => False) (by repeat (first | exact Only.refl _ _ | apply Only.alloc | apply Only.drew)) (fun _ _ => id)) rfl (Src.row (size := 2) (cs := #[.int .u64 (nl : Int), .slice wa' wm' wcap']) (t := 25) (fr := (0, 0)) Try.underlying32 (by exact heap_alloc_new _ _) 1 1 rfl (by intro u hu; simp at hu; rcases hu with rfl | rfl <;> rfl)) rfl (by simp [bc, HNL.out]) (by unfold maxLen; omega) (by omega) ?_)
                  intro wa2 vc2 w12 hG12
                  have HFIN : Hid ((As ++ [(⟨ra', rc', nb⟩ : Rb)]).length = na + 1 ∧ L1 W5 w12 b R (k + 1) (As ++ [⟨ra', rc', nb⟩]) al2 cl2 la2 lc2 (Ws ++ [⟨wa', wm', wcap', nb⟩]) wa2 vc2) := Lib.hid (by
                    have htw := HN9.out.2.1.two (t := normS s r) (x := ⟨wa', wm', wcap', nb⟩) ((Only.refl _ _).alloc _) (by rw [HT0.out]; exact HG10.out) H11.out.2.1 H11.out.1 H11.out.2.2 ((Only.refl _ _).alloc _) hG12
                    refine ⟨HN9.out.1, ?_, ?_, ?_⟩
                    · rw [HTK.out, normT_snoc, HS.out]; exact htw
                    · rw [HTK.out, normT_snoc, HS.out, afters_snoc, HS.out]; exact HN9.out.2.2.1
                    · rw [HTK.out, normT_snoc, HS.out, tolds_snoc, List.map_append, HI.out.2.2.2, HS.out, HNB.out]; rfl)
                  clear hG12
                  go_wp2_with fail
                  go_roundw
                  case rel => exact ⟨k + 1, na + 1, (As ++ [⟨ra', rc', nb⟩]), al2, la2, wa2, cl2, lc2, vc2, Ws ++ [⟨wa', wm', wcap', nb⟩], by omega, by omega, by go_num, rfl, rfl, rfl, HFIN⟩
                  case measure => simp [intOf]; omega
              · have h13a : ¬ (13 : Int) < (o : Int) := by omega
                rcases hoo with hoo | hoo
                · have h7a : ¬ (7 : Int) < (o : Int) := by omega
                  have HT0 : Hid (normS s r = { op := o, on := on, by_ := by_, a := A0, b := B0 }) := Lib.hid (by
                    rw [HNS.out]
                    have e1 : normO o len na = o := by unfold normO; rw [if_neg (by omega), if_neg (by omega)]
                    have e2 : normA o len A0 = A0 := by unfold normA; rw [if_neg (by omega)]
                    rw [e1, e2])
                  have hAb : A0 < 600 := by omega
                  have HST : Hid (∀ wx, Same wr wx → Calls Try.prog 8 #[.slice x.a len x.cap, .slice y.a len2 y.cap, .agg #[.int .i64 (o : Int), .int .i64 (on : Int), .int .i64 (by_ : Int), .int .u64 (A0 : Int), .int .u64 (B0 : Int)]] wx (RetBools (told s (normS s r)) wx)) := Lib.hid (fun wx hS => by
                    have hb := HXB.out wx hS
                    have hk := HOKS.out
                    have e1 : told s (normS s r) = nextL o x.b y.b A0 B0 := by unfold told; rw [HT0.out]; show nextL o (s.getD on []) (s.getD by_ []) A0 B0 = _; rw [HGX.out.1, HGX.out.2]
                    rw [e1]
                    rw [HT0.out] at hk
                    have h := bsStep x.a y.a x.cap y.cap x.b y.b o on by_ A0 B0 wx hb.1 hb.2 (by rw [HLEN.out.1]; omega) (by rw [HLEN.out.2]; omega) hk.op hAb hB600 (fun h => by have h2 := hk.place h; have h3 : (A0 : Nat) < (s.getD on []).length := h2; rw [HGX.out.1] at h3; exact h3)
                    rw [HLEN.out.1, HLEN.out.2] at h
                    exact h)
                  obtain ⟨nb, hnb⟩ : ∃ nb, told s (normS s r) = nb := ⟨_, rfl⟩
                  have HNB := Lib.hid hnb
                  rw [hnb] at HST
                  clear hnb
                  go_wp2_with fail
                  obtain ⟨W7, hW7⟩ : ∃ W7, W6 = W7 := ⟨_, rfl⟩
                  have HG7 : Hid (Only (fun j => j = g) W6 W7 ∧ W7.heap[g]? = some (.cells #[.int .i64 (o : Int), .int .i64 (on : Int), .int .i64 (by_ : Int), .int .u64 (A0 : Int), .int .u64 (B0 : Int)] 35 (0, 0))) := Lib.hid (by
                    rw [← hW7]
                    exact ⟨Only.refl _ _, HG.out.2.1⟩)
                  rw [hW7]
                  have HS7 : Hid (Same wr W7) := Lib.hid (Only.trans HG.out.1 HG7.out.1 (fun j hj e => by have := HG.out.2.2; omega))
                  have HI7 : Hid (L1 W5 W7 b R k As (some ⟨ab, 0, none⟩) cl la lc Ws wa vc) := Lib.hid ⟨HI.out.2.1.still HS7.out, HI.out.2.2⟩
                  have b1 : W7.cell? ⟨ab, by_, none⟩ = some (.slice y.a len2 y.cap) := (HG7.out.1.cell (p := ⟨ab, by_, none⟩) hablt hgab).trans a1
                  have HAB : Hid (W7.cell? ⟨ab, on, none⟩ = some (.slice x.a len x.cap) ∧ W7.frozen? ⟨ab, on, none⟩ = false ∧ ab < W7.heap.size) := Lib.hid ⟨(HG7.out.1.cell (p := ⟨ab, on, none⟩) hablt hgab).trans a0, (HG7.out.1.frozen (p := ⟨ab, on, none⟩) hablt hgab).trans hfrz, Nat.lt_of_lt_of_le hablt HG7.out.1.size⟩
                  have HK : Hid (∀ w', Same W7 w' → w'.cell? ⟨ab, by_, none⟩ = some (.slice y.a len2 y.cap) ∧ w'.cell? ⟨g, 0, none⟩ = some (.int .i64 (o : Int)) ∧ w'.cell? ⟨g, 1, none⟩ = some (.int .i64 (on : Int)) ∧ w'.cell? ⟨g, 2, none⟩ = some (.int .i64 (by_ : Int)) ∧ w'.cell? ⟨g, 3, none⟩ = some (.int .u64 (A0 : Int)) ∧ w'.cell? ⟨g, 4, none⟩ = some (.int .u64 (B0 : Int))) := Lib.hid (fun wx hS => ⟨(hS.cell (p := ⟨ab, by_, none⟩) (World.block_lt_of_cell? W7 _ b1) id).trans b1, block_cell (hS.obj HG7.out.2 id) rfl, block_cell (hS.obj HG7.out.2 id) rfl, block_cell (hS.obj HG7.out.2 id) rfl, block_cell (hS.obj HG7.out.2 id) rfl, block_cell (hS.obj HG7.out.2 id) rfl⟩)
                  have HST7 : Hid (∀ wx, Same W7 wx → Calls Try.prog 8 #[.slice x.a len x.cap, .slice y.a len2 y.cap, .agg #[.int .i64 (o : Int), .int .i64 (on : Int), .int .i64 (by_ : Int), .int .u64 (A0 : Int), .int .u64 (B0 : Int)]] wx (fun e w' => ∃ ra rc, e = .returned (.slice ra nb.length rc) ∧ RB w' ra nb.length rc nb ∧ Same W7 w' ∧ ∀ i, At ra i → W7.heap.size ≤ i)) := Lib.hid (fun wx hS => (HST.out wx (Only.trans HS7.out hS (fun _ _ f => f))).mono fun e w' ⟨ra, rc, h1, h2, h3, h4⟩ => ⟨ra, rc, h1, h2, Only.trans hS h3 (fun _ _ f => f), fun i hi => Nat.le_trans hS.size (h4 i hi)⟩)
                  have hnbl : nb.length ≤ 100000 := by
                    have h1 := after_short HSH.out (by omega) HOKS.out
                    have h2 : nb ∈ after s (normS s r) := by
                      rw [← HNB.out]
                      unfold after
                      split
                      · simp
                      · exact List.mem_set HOKS.out.on _
                    have := h1 nb h2; omega
                  have d0 := (HK.out W7 (Only.refl _ _)).2.1
                  have d1 := (HK.out W7 (Only.refl _ _)).2.2.1
                  have d2 := (HK.out W7 (Only.refl _ _)).2.2.2.1
                  have d3 := (HK.out W7 (Only.refl _ _)).2.2.2.2.1
                  have d4 := (HK.out W7 (Only.refl _ _)).2.2.2.2.2
                  clear hW7 c0 c1 c3 cf a0 a1 hfrz HST
                  go_region_held3 (fun w' => w'.cell? ⟨ab, by_, none⟩ = some (.slice y.a len2 y.cap) ∧ w'.cell? ⟨g, 0, none⟩ = some (.int .i64 (o : Int)) ∧ w'.cell? ⟨g, 1, none⟩ = some (.int .i64 (on : Int)) ∧ w'.cell? ⟨g, 2, none⟩ = some (.int .i64 (by_ : Int)) ∧ w'.cell? ⟨g, 3, none⟩ = some (.int .u64 (A0 : Int)) ∧ w'.cell? ⟨g, 4, none⟩ = some (.int .u64 (B0 : Int))) (first | exact HK.out _ (Only.drew (Only.refl _ _)) | exact HK.out _ (by assumption)) (first
                    | ((go_at_call 8; (with_reducible refine (HST7.out _ (by exact (Only.refl _ W7).drew)).mono ?_); rintro e w8 ⟨ra', rc', rfl, hrb, hS8, hf8⟩)))
                  all_goals
                    have H8 : Hid (RB w8 ra' nb.length rc' nb ∧ Same W7 w8 ∧ ∀ i, At ra' i → W7.heap.size ≤ i) := Lib.hid ⟨hrb, hS8, hf8⟩
                    clear hrb hS8 hf8
                    obtain ⟨nl, hnl⟩ : ∃ n, nb.length = n := ⟨_, rfl⟩
                    have HNL := Lib.hid hnl
                    rw [hnl] at H8 hnbl ⊢
                    have f0 : w8.cell? ⟨g, 0, none⟩ = some (.int .i64 (o : Int)) := block_cell (H8.out.2.1.obj HG7.out.2 id) rfl
                    have f1 : w8.cell? ⟨g, 1, none⟩ = some (.int .i64 (on : Int)) := block_cell (H8.out.2.1.obj HG7.out.2 id) rfl
                    have HAB8 : Hid (w8.cell? ⟨ab, on, none⟩ = some (.slice x.a len x.cap) ∧ w8.frozen? ⟨ab, on, none⟩ = false) := Lib.hid ⟨(H8.out.2.1.cell (p := ⟨ab, on, none⟩) HAB.out.2.2 id).trans HAB.out.1, (H8.out.2.1.frozen (p := ⟨ab, on, none⟩) HAB.out.2.2 id).trans HAB.out.2.1⟩
                    have e8 := HAB8.out.1
                    have e9 := HAB8.out.2
                    clear hnl d0 d1 d2 d3 d4 b1
                    obtain ⟨w9, hw9⟩ : ∃ w9, w8.setCell ⟨ab, on, none⟩ (.slice ra' nl rc') = w9 := ⟨_, rfl⟩
                    have HN9 : Hid ((As.set on (⟨ra', rc', nb⟩ : Rb)).length = na ∧ LInv W5 w9 (As.set on ⟨ra', rc', nb⟩) (some ⟨ab, 0, none⟩) cl (normT [b] (R.take k)) la lc Ws wa vc k ∧ (As.set on (⟨ra', rc', nb⟩ : Rb)).map (·.b) = after s (normS s r) ∧ w9.heap[g]? = some (.cells #[.int .i64 (o : Int), .int .i64 (on : Int), .int .i64 (by_ : Int), .int .u64 (A0 : Int), .int .u64 (B0 : Int)] 35 (0, 0)) ∧ RB w9 ra' nl rc' nb) := Lib.hid (by
                      have hlin := HI7.out.1.set (x := ⟨ra', rc', nb⟩) H8.out.2.1 (by rw [HNL.out]; exact H8.out.1) H8.out.2.2 (i := on) (ab := ab) (by rw [HI.out.1]; exact honl) rfl
                      have hrv : rbv ⟨ra', rc', nb⟩ = .slice ra' nl rc' := by unfold rbv; rw [HNL.out]
                      rw [hrv, hw9] at hlin
                      refine ⟨by rw [List.length_set]; exact HI.out.1, hlin, ?_, ?_, ?_⟩
                      · rw [List.map_set, HI.out.2.2.1, HS.out]; unfold after; rw [HT0.out, if_neg (by show ¬ 13 < o; omega), ← HT0.out, HNB.out, HT0.out]
                      · rw [← hw9]
                        have hO : Only (fun j => j = ab) w8 (w8.setCell ⟨ab, on, none⟩ (.slice ra' nl rc')) := (Only.refl _ _).setCell _ _ (fun _ => rfl)
                        exact hO.obj (H8.out.2.1.obj HG7.out.2 id) (fun e => hgab e.symm)
                      · have := (hlin.aits ⟨ra', rc', nb⟩ (List.mem_set (by rw [HI.out.1]; exact honl) _)).1; rw [HNL.out] at this; exact this)
                    have hbl2 := HN9.out.2.1.stp.bound
                    have hbl3 := HN9.out.2.1.wnt.bound
                    have m0 : (w8.setCell ⟨ab, on, none⟩ (.slice ra' nl rc')).cell? ⟨g, 0, none⟩ = some (.int .i64 (o : Int)) := by rw [hw9]; exact block_cell HN9.out.2.2.2.1 rfl
                    have m1 : (w8.setCell ⟨ab, on, none⟩ (.slice ra' nl rc')).cell? ⟨g, 1, none⟩ = some (.int .i64 (on : Int)) := by rw [hw9]; exact block_cell HN9.out.2.2.2.1 rfl
                    have m2 : (w8.setCell ⟨ab, on, none⟩ (.slice ra' nl rc')).cell? ⟨g, 2, none⟩ = some (.int .i64 (by_ : Int)) := by rw [hw9]; exact block_cell HN9.out.2.2.2.1 rfl
                    have m3 : (w8.setCell ⟨ab, on, none⟩ (.slice ra' nl rc')).cell? ⟨g, 3, none⟩ = some (.int .u64 (A0 : Int)) := by rw [hw9]; exact block_cell HN9.out.2.2.2.1 rfl
                    have m4 : (w8.setCell ⟨ab, on, none⟩ (.slice ra' nl rc')).cell? ⟨g, 4, none⟩ = some (.int .u64 (B0 : Int)) := by rw [hw9]; exact block_cell HN9.out.2.2.2.1 rfl
                    have HW9 : Hid (∀ w', w' = w8.setCell ⟨ab, on, none⟩ (.slice ra' nl rc') → w' = w9) := Lib.hid (fun w' h => by rw [h, hw9])
                    clear hw9
                    go_wp2_with (at_builtin; refine wpList_append (k + 1) ((normT [b] (R.take k)).flatMap stc ++ stc ⟨o, on, by_, A0, B0⟩) rfl _ _ _ _ rfl slStep rfl (Own.keep (S := fun _ => False) ((by rw [HW9.out _ rfl]; exact HN9.out.2.1.stp.1) : Own 35 5 (w8.setCell ⟨ab, on, none⟩ (.slice ra' nl rc')) la k lc _) (by repeat (first | exact Only.refl _ _ | apply Only.alloc | apply Only.drew)) (fun _ _ => id)) rfl (Src.row (size := 5) (cs := (stc ⟨o, on, by_, A0, B0⟩).toArray) (t := 35) (fr := (0, 0)) Try.underlying26 (by first | exact heap_alloc_new _ _ | exact heap_alloc_set _ _ _ _) 1 1 rfl (by intro u hu; exact stc_one _ u (by simpa using hu))) rfl (by simp) (by unfold maxLen; omega) (by omega) ?_)
                    intro la2 lc2 w10 hG10
                    rw [HW9.out _ rfl] at hG10
                    have HMK : Hid (Calls Try.prog 9 #[.slice ra' nl rc'] w10 (RetBits nb w10)) := Lib.hid (by
                      have hO : Only (At la) w9 w10 := ((Only.refl (At la) w9).alloc _).trans hG10.only (fun _ _ h => h)
                      have hrb : RB w10 ra' nb.length rc' nb := by
                        refine rb_keepc (x := ⟨ra', rc', nb⟩) (by rw [HNL.out]; exact HN9.out.2.2.2.2) hO (fun e j hj hp => ?_)
                        have := (HN9.out.2.1.aits ⟨ra', rc', nb⟩ (List.mem_set (by rw [HI.out.1]; exact honl) _)).2 e j hj
                        exact this.2.2.1 hp
                      have h := bsMake ra' rc' nb w10 hrb (by rw [HNL.out]; omega)
                      rw [HNL.out] at h
                      exact h)
                    have HG10 := Lib.hid hG10
                    clear hG10
                    go_wp2_with (go_at_call 9; refine HMK.out.mono ?_)
                    rintro e w11 ⟨wa', wm', wcap', rfl, hru, hS11, hf11⟩
                    have H11 : Hid (RU w11 wa' wm' wcap' (ones nb) ∧ Same w10 w11 ∧ ∀ i, At wa' i → w10.heap.size ≤ i ∧ i < w11.heap.size) := Lib.hid ⟨hru, hS11, hf11⟩
                    clear hru hS11 hf11 HMK
                    have HWO : Hid (Own 25 2 w11 wa k vc (Ws.flatMap bc)) := Lib.hid (by
                      have hO : Only (At la) w9 w10 := ((Only.refl (At la) w9).alloc _).trans HG10.out.only (fun _ _ h => h)
                      exact ((HN9.out.2.1.wnt.1.keep hO (fun j hj hp => HN9.out.2.1.d2 j hp hj)).keep H11.out.2.1 (fun _ _ => id)))
                    rw [HNL.out]
                    go_wp2_with (at_builtin; refine wpList_append (k + 1) (Ws.flatMap bc ++ bc ⟨wa', wm', wcap', nb⟩) rfl _ _ _ _ rfl slBits rfl (HWO.out.keep (S := fun _ => False) (by repeat (first | exact Only.refl _ _ | apply Only.alloc | apply Only.drew)) (fun _ _ => id)) rfl (Src.row (size := 2) (cs := #[.int .u64 (nl : Int), .slice wa' wm' wcap']) (t := 25) (fr := (0, 0)) Try.underlying32 (by exact heap_alloc_new _ _) 1 1 rfl (by intro u hu; simp at hu; rcases hu with rfl | rfl <;> rfl)) rfl (by simp [bc, HNL.out]) (by unfold maxLen; omega) (by omega) ?_)
                    intro wa2 vc2 w12 hG12
                    have HFIN : Hid ((As.set on (⟨ra', rc', nb⟩ : Rb)).length = na ∧ L1 W5 w12 b R (k + 1) (As.set on ⟨ra', rc', nb⟩) (some ⟨ab, 0, none⟩) cl la2 lc2 (Ws ++ [⟨wa', wm', wcap', nb⟩]) wa2 vc2) := Lib.hid (by
                      have htw := HN9.out.2.1.two (t := normS s r) (x := ⟨wa', wm', wcap', nb⟩) ((Only.refl _ _).alloc _) (by rw [HT0.out]; exact HG10.out) H11.out.2.1 H11.out.1 H11.out.2.2 ((Only.refl _ _).alloc _) hG12
                      refine ⟨HN9.out.1, ?_, ?_, ?_⟩
                      · rw [HTK.out, normT_snoc, HS.out]; exact htw
                      · rw [HTK.out, normT_snoc, HS.out, afters_snoc, HS.out]; exact HN9.out.2.2.1
                      · rw [HTK.out, normT_snoc, HS.out, tolds_snoc, List.map_append, HI.out.2.2.2, HS.out, HNB.out]; rfl)
                    clear hG12
                    go_wp2_with fail
                    go_roundw
                    case rel => exact ⟨k + 1, na, (As.set on ⟨ra', rc', nb⟩), (some ⟨ab, 0, none⟩), la2, wa2, cl, lc2, vc2, Ws ++ [⟨wa', wm', wcap', nb⟩], by omega, by omega, by go_num, rfl, rfl, rfl, HFIN⟩
                    case measure => simp [intOf]; omega
                · have h7a : (7 : Int) < (o : Int) := by omega
                  have h7b : ¬ (o : Int) < 11 := by omega
                  have HT0 : Hid (normS s r = { op := o, on := on, by_ := by_, a := A0, b := B0 }) := Lib.hid (by
                    rw [HNS.out]
                    have e1 : normO o len na = o := by unfold normO; rw [if_neg (by omega), if_neg (by omega)]
                    have e2 : normA o len A0 = A0 := by unfold normA; rw [if_neg (by omega)]
                    rw [e1, e2])
                  have hAb : A0 < 600 := by omega
                  have HST : Hid (∀ wx, Same wr wx → Calls Try.prog 8 #[.slice x.a len x.cap, .slice y.a len2 y.cap, .agg #[.int .i64 (o : Int), .int .i64 (on : Int), .int .i64 (by_ : Int), .int .u64 (A0 : Int), .int .u64 (B0 : Int)]] wx (RetBools (told s (normS s r)) wx)) := Lib.hid (fun wx hS => by
                    have hb := HXB.out wx hS
                    have hk := HOKS.out
                    have e1 : told s (normS s r) = nextL o x.b y.b A0 B0 := by unfold told; rw [HT0.out]; show nextL o (s.getD on []) (s.getD by_ []) A0 B0 = _; rw [HGX.out.1, HGX.out.2]
                    rw [e1]
                    rw [HT0.out] at hk
                    have h := bsStep x.a y.a x.cap y.cap x.b y.b o on by_ A0 B0 wx hb.1 hb.2 (by rw [HLEN.out.1]; omega) (by rw [HLEN.out.2]; omega) hk.op hAb hB600 (fun h => by have h2 := hk.place h; have h3 : (A0 : Nat) < (s.getD on []).length := h2; rw [HGX.out.1] at h3; exact h3)
                    rw [HLEN.out.1, HLEN.out.2] at h
                    exact h)
                  obtain ⟨nb, hnb⟩ : ∃ nb, told s (normS s r) = nb := ⟨_, rfl⟩
                  have HNB := Lib.hid hnb
                  rw [hnb] at HST
                  clear hnb
                  go_wp2_with fail
                  obtain ⟨W7, hW7⟩ : ∃ W7, W6 = W7 := ⟨_, rfl⟩
                  have HG7 : Hid (Only (fun j => j = g) W6 W7 ∧ W7.heap[g]? = some (.cells #[.int .i64 (o : Int), .int .i64 (on : Int), .int .i64 (by_ : Int), .int .u64 (A0 : Int), .int .u64 (B0 : Int)] 35 (0, 0))) := Lib.hid (by
                    rw [← hW7]
                    exact ⟨Only.refl _ _, HG.out.2.1⟩)
                  rw [hW7]
                  have HS7 : Hid (Same wr W7) := Lib.hid (Only.trans HG.out.1 HG7.out.1 (fun j hj e => by have := HG.out.2.2; omega))
                  have HI7 : Hid (L1 W5 W7 b R k As (some ⟨ab, 0, none⟩) cl la lc Ws wa vc) := Lib.hid ⟨HI.out.2.1.still HS7.out, HI.out.2.2⟩
                  have b1 : W7.cell? ⟨ab, by_, none⟩ = some (.slice y.a len2 y.cap) := (HG7.out.1.cell (p := ⟨ab, by_, none⟩) hablt hgab).trans a1
                  have HAB : Hid (W7.cell? ⟨ab, on, none⟩ = some (.slice x.a len x.cap) ∧ W7.frozen? ⟨ab, on, none⟩ = false ∧ ab < W7.heap.size) := Lib.hid ⟨(HG7.out.1.cell (p := ⟨ab, on, none⟩) hablt hgab).trans a0, (HG7.out.1.frozen (p := ⟨ab, on, none⟩) hablt hgab).trans hfrz, Nat.lt_of_lt_of_le hablt HG7.out.1.size⟩
                  have HK : Hid (∀ w', Same W7 w' → w'.cell? ⟨ab, by_, none⟩ = some (.slice y.a len2 y.cap) ∧ w'.cell? ⟨g, 0, none⟩ = some (.int .i64 (o : Int)) ∧ w'.cell? ⟨g, 1, none⟩ = some (.int .i64 (on : Int)) ∧ w'.cell? ⟨g, 2, none⟩ = some (.int .i64 (by_ : Int)) ∧ w'.cell? ⟨g, 3, none⟩ = some (.int .u64 (A0 : Int)) ∧ w'.cell? ⟨g, 4, none⟩ = some (.int .u64 (B0 : Int))) := Lib.hid (fun wx hS => ⟨(hS.cell (p := ⟨ab, by_, none⟩) (World.block_lt_of_cell? W7 _ b1) id).trans b1, block_cell (hS.obj HG7.out.2 id) rfl, block_cell (hS.obj HG7.out.2 id) rfl, block_cell (hS.obj HG7.out.2 id) rfl, block_cell (hS.obj HG7.out.2 id) rfl, block_cell (hS.obj HG7.out.2 id) rfl⟩)
                  have HST7 : Hid (∀ wx, Same W7 wx → Calls Try.prog 8 #[.slice x.a len x.cap, .slice y.a len2 y.cap, .agg #[.int .i64 (o : Int), .int .i64 (on : Int), .int .i64 (by_ : Int), .int .u64 (A0 : Int), .int .u64 (B0 : Int)]] wx (fun e w' => ∃ ra rc, e = .returned (.slice ra nb.length rc) ∧ RB w' ra nb.length rc nb ∧ Same W7 w' ∧ ∀ i, At ra i → W7.heap.size ≤ i)) := Lib.hid (fun wx hS => (HST.out wx (Only.trans HS7.out hS (fun _ _ f => f))).mono fun e w' ⟨ra, rc, h1, h2, h3, h4⟩ => ⟨ra, rc, h1, h2, Only.trans hS h3 (fun _ _ f => f), fun i hi => Nat.le_trans hS.size (h4 i hi)⟩)
                  have hnbl : nb.length ≤ 100000 := by
                    have h1 := after_short HSH.out (by omega) HOKS.out
                    have h2 : nb ∈ after s (normS s r) := by
                      rw [← HNB.out]
                      unfold after
                      split
                      · simp
                      · exact List.mem_set HOKS.out.on _
                    have := h1 nb h2; omega
                  have d0 := (HK.out W7 (Only.refl _ _)).2.1
                  have d1 := (HK.out W7 (Only.refl _ _)).2.2.1
                  have d2 := (HK.out W7 (Only.refl _ _)).2.2.2.1
                  have d3 := (HK.out W7 (Only.refl _ _)).2.2.2.2.1
                  have d4 := (HK.out W7 (Only.refl _ _)).2.2.2.2.2
                  clear hW7 c0 c1 c3 cf a0 a1 hfrz HST
                  go_region_held3 (fun w' => w'.cell? ⟨ab, by_, none⟩ = some (.slice y.a len2 y.cap) ∧ w'.cell? ⟨g, 0, none⟩ = some (.int .i64 (o : Int)) ∧ w'.cell? ⟨g, 1, none⟩ = some (.int .i64 (on : Int)) ∧ w'.cell? ⟨g, 2, none⟩ = some (.int .i64 (by_ : Int)) ∧ w'.cell? ⟨g, 3, none⟩ = some (.int .u64 (A0 : Int)) ∧ w'.cell? ⟨g, 4, none⟩ = some (.int .u64 (B0 : Int))) (first | exact HK.out _ (Only.drew (Only.refl _ _)) | exact HK.out _ (by assumption)) (first
                    | ((go_at_call 8; (with_reducible refine (HST7.out _ (by exact (Only.refl _ W7).drew)).mono ?_); rintro e w8 ⟨ra', rc', rfl, hrb, hS8, hf8⟩)))
                  all_goals
                    have H8 : Hid (RB w8 ra' nb.length rc' nb ∧ Same W7 w8 ∧ ∀ i, At ra' i → W7.heap.size ≤ i) := Lib.hid ⟨hrb, hS8, hf8⟩
                    clear hrb hS8 hf8
                    obtain ⟨nl, hnl⟩ : ∃ n, nb.length = n := ⟨_, rfl⟩
                    have HNL := Lib.hid hnl
                    rw [hnl] at H8 hnbl ⊢
                    have f0 : w8.cell? ⟨g, 0, none⟩ = some (.int .i64 (o : Int)) := block_cell (H8.out.2.1.obj HG7.out.2 id) rfl
                    have f1 : w8.cell? ⟨g, 1, none⟩ = some (.int .i64 (on : Int)) := block_cell (H8.out.2.1.obj HG7.out.2 id) rfl
                    have HAB8 : Hid (w8.cell? ⟨ab, on, none⟩ = some (.slice x.a len x.cap) ∧ w8.frozen? ⟨ab, on, none⟩ = false) := Lib.hid ⟨(H8.out.2.1.cell (p := ⟨ab, on, none⟩) HAB.out.2.2 id).trans HAB.out.1, (H8.out.2.1.frozen (p := ⟨ab, on, none⟩) HAB.out.2.2 id).trans HAB.out.2.1⟩
                    have e8 := HAB8.out.1
                    have e9 := HAB8.out.2
                    clear hnl d0 d1 d2 d3 d4 b1
                    obtain ⟨w9, hw9⟩ : ∃ w9, w8.setCell ⟨ab, on, none⟩ (.slice ra' nl rc') = w9 := ⟨_, rfl⟩
                    have HN9 : Hid ((As.set on (⟨ra', rc', nb⟩ : Rb)).length = na ∧ LInv W5 w9 (As.set on ⟨ra', rc', nb⟩) (some ⟨ab, 0, none⟩) cl (normT [b] (R.take k)) la lc Ws wa vc k ∧ (As.set on (⟨ra', rc', nb⟩ : Rb)).map (·.b) = after s (normS s r) ∧ w9.heap[g]? = some (.cells #[.int .i64 (o : Int), .int .i64 (on : Int), .int .i64 (by_ : Int), .int .u64 (A0 : Int), .int .u64 (B0 : Int)] 35 (0, 0)) ∧ RB w9 ra' nl rc' nb) := Lib.hid (by
                      have hlin := HI7.out.1.set (x := ⟨ra', rc', nb⟩) H8.out.2.1 (by rw [HNL.out]; exact H8.out.1) H8.out.2.2 (i := on) (ab := ab) (by rw [HI.out.1]; exact honl) rfl
                      have hrv : rbv ⟨ra', rc', nb⟩ = .slice ra' nl rc' := by unfold rbv; rw [HNL.out]
                      rw [hrv, hw9] at hlin
                      refine ⟨by rw [List.length_set]; exact HI.out.1, hlin, ?_, ?_, ?_⟩
                      · rw [List.map_set, HI.out.2.2.1, HS.out]; unfold after; rw [HT0.out, if_neg (by show ¬ 13 < o; omega), ← HT0.out, HNB.out, HT0.out]
                      · rw [← hw9]
                        have hO : Only (fun j => j = ab) w8 (w8.setCell ⟨ab, on, none⟩ (.slice ra' nl rc')) := (Only.refl _ _).setCell _ _ (fun _ => rfl)
                        exact hO.obj (H8.out.2.1.obj HG7.out.2 id) (fun e => hgab e.symm)
                      · have := (hlin.aits ⟨ra', rc', nb⟩ (List.mem_set (by rw [HI.out.1]; exact honl) _)).1; rw [HNL.out] at this; exact this)
                    have hbl2 := HN9.out.2.1.stp.bound
                    have hbl3 := HN9.out.2.1.wnt.bound
                    have m0 : (w8.setCell ⟨ab, on, none⟩ (.slice ra' nl rc')).cell? ⟨g, 0, none⟩ = some (.int .i64 (o : Int)) := by rw [hw9]; exact block_cell HN9.out.2.2.2.1 rfl
                    have m1 : (w8.setCell ⟨ab, on, none⟩ (.slice ra' nl rc')).cell? ⟨g, 1, none⟩ = some (.int .i64 (on : Int)) := by rw [hw9]; exact block_cell HN9.out.2.2.2.1 rfl
                    have m2 : (w8.setCell ⟨ab, on, none⟩ (.slice ra' nl rc')).cell? ⟨g, 2, none⟩ = some (.int .i64 (by_ : Int)) := by rw [hw9]; exact block_cell HN9.out.2.2.2.1 rfl
                    have m3 : (w8.setCell ⟨ab, on, none⟩ (.slice ra' nl rc')).cell? ⟨g, 3, none⟩ = some (.int .u64 (A0 : Int)) := by rw [hw9]; exact block_cell HN9.out.2.2.2.1 rfl
                    have m4 : (w8.setCell ⟨ab, on, none⟩ (.slice ra' nl rc')).cell? ⟨g, 4, none⟩ = some (.int .u64 (B0 : Int)) := by rw [hw9]; exact block_cell HN9.out.2.2.2.1 rfl
                    have HW9 : Hid (∀ w', w' = w8.setCell ⟨ab, on, none⟩ (.slice ra' nl rc') → w' = w9) := Lib.hid (fun w' h => by rw [h, hw9])
                    clear hw9
                    go_wp2_with (at_builtin; refine wpList_append (k + 1) ((normT [b] (R.take k)).flatMap stc ++ stc ⟨o, on, by_, A0, B0⟩) rfl _ _ _ _ rfl slStep rfl (Own.keep (S := fun _ => False) ((by rw [HW9.out _ rfl]; exact HN9.out.2.1.stp.1) : Own 35 5 (w8.setCell ⟨ab, on, none⟩ (.slice ra' nl rc')) la k lc _) (by repeat (first | exact Only.refl _ _ | apply Only.alloc | apply Only.drew)) (fun _ _ => id)) rfl (Src.row (size := 5) (cs := (stc ⟨o, on, by_, A0, B0⟩).toArray) (t := 35) (fr := (0, 0)) Try.underlying26 (by first | exact heap_alloc_new _ _ | exact heap_alloc_set _ _ _ _) 1 1 rfl (by intro u hu; exact stc_one _ u (by simpa using hu))) rfl (by simp) (by unfold maxLen; omega) (by omega) ?_)
                    intro la2 lc2 w10 hG10
                    rw [HW9.out _ rfl] at hG10
                    have HMK : Hid (Calls Try.prog 9 #[.slice ra' nl rc'] w10 (RetBits nb w10)) := Lib.hid (by
                      have hO : Only (At la) w9 w10 := ((Only.refl (At la) w9).alloc _).trans hG10.only (fun _ _ h => h)
                      have hrb : RB w10 ra' nb.length rc' nb := by
                        refine rb_keepc (x := ⟨ra', rc', nb⟩) (by rw [HNL.out]; exact HN9.out.2.2.2.2) hO (fun e j hj hp => ?_)
                        have := (HN9.out.2.1.aits ⟨ra', rc', nb⟩ (List.mem_set (by rw [HI.out.1]; exact honl) _)).2 e j hj
                        exact this.2.2.1 hp
                      have h := bsMake ra' rc' nb w10 hrb (by rw [HNL.out]; omega)
                      rw [HNL.out] at h
                      exact h)
                    have HG10 := Lib.hid hG10
                    clear hG10
                    go_wp2_with (go_at_call 9; refine HMK.out.mono ?_)
                    rintro e w11 ⟨wa', wm', wcap', rfl, hru, hS11, hf11⟩
                    have H11 : Hid (RU w11 wa' wm' wcap' (ones nb) ∧ Same w10 w11 ∧ ∀ i, At wa' i → w10.heap.size ≤ i ∧ i < w11.heap.size) := Lib.hid ⟨hru, hS11, hf11⟩
                    clear hru hS11 hf11 HMK
                    have HWO : Hid (Own 25 2 w11 wa k vc (Ws.flatMap bc)) := Lib.hid (by
                      have hO : Only (At la) w9 w10 := ((Only.refl (At la) w9).alloc _).trans HG10.out.only (fun _ _ h => h)
                      exact ((HN9.out.2.1.wnt.1.keep hO (fun j hj hp => HN9.out.2.1.d2 j hp hj)).keep H11.out.2.1 (fun _ _ => id)))
                    rw [HNL.out]
                    go_wp2_with (at_builtin; refine wpList_append (k + 1) (Ws.flatMap bc ++ bc ⟨wa', wm', wcap', nb⟩) rfl _ _ _ _ rfl slBits rfl (HWO.out.keep (S := fun _ => False) (by repeat (first | exact Only.refl _ _ | apply Only.alloc | apply Only.drew)) (fun _ _ => id)) rfl (Src.row (size := 2) (cs := #[.int .u64 (nl : Int), .slice wa' wm' wcap']) (t := 25) (fr := (0, 0)) Try.underlying32 (by exact heap_alloc_new _ _) 1 1 rfl (by intro u hu; simp at hu; rcases hu with rfl | rfl <;> rfl)) rfl (by simp [bc, HNL.out]) (by unfold maxLen; omega) (by omega) ?_)
                    intro wa2 vc2 w12 hG12
                    have HFIN : Hid ((As.set on (⟨ra', rc', nb⟩ : Rb)).length = na ∧ L1 W5 w12 b R (k + 1) (As.set on ⟨ra', rc', nb⟩) (some ⟨ab, 0, none⟩) cl la2 lc2 (Ws ++ [⟨wa', wm', wcap', nb⟩]) wa2 vc2) := Lib.hid (by
                      have htw := HN9.out.2.1.two (t := normS s r) (x := ⟨wa', wm', wcap', nb⟩) ((Only.refl _ _).alloc _) (by rw [HT0.out]; exact HG10.out) H11.out.2.1 H11.out.1 H11.out.2.2 ((Only.refl _ _).alloc _) hG12
                      refine ⟨HN9.out.1, ?_, ?_, ?_⟩
                      · rw [HTK.out, normT_snoc, HS.out]; exact htw
                      · rw [HTK.out, normT_snoc, HS.out, afters_snoc, HS.out]; exact HN9.out.2.2.1
                      · rw [HTK.out, normT_snoc, HS.out, tolds_snoc, List.map_append, HI.out.2.2.2, HS.out, HNB.out]; rfl)
                    clear hG12
                    go_wp2_with fail
                    go_roundw
                    case rel => exact ⟨k + 1, na, (As.set on ⟨ra', rc', nb⟩), (some ⟨ab, 0, none⟩), la2, wa2, cl, lc2, vc2, Ws ++ [⟨wa', wm', wcap', nb⟩], by omega, by omega, by go_num, rfl, rfl, rfl, HFIN⟩
                    case measure => simp [intOf]; omega
        · have hl30' : ¬ (k : Int) < 30 := by omega
          go_wp2_with fail
          go_meet
          exact HMEET.out
      · have hlt' : ¬ (k : Int) < (sn : Int) := by omega
        go_wp2_with fail
        go_meet
        exact HMEET.out
  case rest =>
    clear HL0
    obtain ⟨k, As, al, la, wa, cl, lc, vc, Ws, hk, hk30, rfl, rfl, HI⟩ := hcut
    obtain ⟨W6, hW6⟩ : ∃ W6, wc = W6 := ⟨_, rfl⟩
    rw [hW6] at HI ⊢
    clear hW6
    have HS6 : Hid (Same W5 W6) := Lib.hid HI.out.1.same
    have hb50 := still HS6.out HB5.out
    have c0 : W6.cell? ⟨k5, 0, none⟩ = some (.int .u64 (b.length : Int)) := block_cell hb50 rfl
    have c1 : W6.cell? ⟨k5, 1, none⟩ = some (.slice a2 m2 cap2) := block_cell hb50 rfl
    clear hb50
    obtain ⟨T, hT⟩ : ∃ T, normT [b] (R.take k) = T := ⟨_, rfl⟩
    have HLN : Hid ((tolds [b] T).length = k) := Lib.hid (by rw [tolds_len, ← hT, normT_len, List.length_take, HRS.out.2]; omega)
    have HRN : Hid (Calls Try.prog 10 #[.agg #[.int .u64 (b.length : Int), .slice a2 m2 cap2], .slice la k lc] W6 (RunB (tolds [b] T) W6)) := Lib.hid (bsRun _ b T la k lc W6 (HBV.out _ HS6.out) (by rw [← hT]; exact HI.out.1.stp.rs) (by rw [← hT]; exact normT_ok (by simp)) (by omega) hk30)
    have HSH : Hid (∀ x ∈ tolds [b] T, x.length ≤ 1000) := Lib.hid (by
      have hok := normT_ok (R := R.take k) (s := [b]) (by simp)
      rw [hT] at hok
      have hl : T.length = k := by rw [← tolds_len T [b], HLN.out]
      intro x hx
      have := tolds_short (n := 600) hok (by intro x hx; rw [List.mem_singleton] at hx; subst hx; omega) (Nat.le_refl _) x hx
      omega)
    have HW : Hid (RS bc 2 W6 wa k vc Ws ∧ Ws.map (·.b) = tolds [b] T ∧ ∀ x ∈ Ws, RU W6 x.a x.m x.cap (ones x.b)) := Lib.hid ⟨HI.out.1.wnt.rs, by rw [← hT]; exact HI.out.2.2, fun x hx => (HI.out.1.wits x hx).1⟩
    clear hT
    have HS06 : Hid (Same w W6) := Lib.hid (Same.trans HO5.out HS6.out)
    clear HI HRow HRS HOK
    go_wp2_with (go_at_call 10; refine HRN.out.mono ?_)
    rintro e w7 ⟨oa, oc, Gs, rfl, hG, hGb, hGu, hS7⟩
    rw [HLN.out] at hG ⊢
    have HG : Hid (RS bc 2 w7 oa k oc Gs ∧ Gs.map (·.b) = tolds [b] T ∧ (∀ x ∈ Gs, RU w7 x.a x.m x.cap (ones x.b)) ∧ Same W6 w7) := Lib.hid ⟨hG, hGb, hGu, hS7⟩
    have hbd1 := hG.bound
    have hbd2 := HW.out.1.bound
    clear hG hGb hGu hS7 HRN c0 c1 HS6
    go_wp2_with fail
    go_loopw [14] (fun i wr => ∃ (j : Nat), j ≤ k ∧ i = .int .i64 (j : Int) ∧ Hid (Same w7 wr)) (fun i _ => k - (intOf i).toNat)
    case atStart => exact ⟨0, Nat.zero_le _, rfl, Lib.hid (Only.refl _ _)⟩
    case round =>
      obtain ⟨j, hj, rfl, HS⟩ := hrel
      by_cases hlt : j < k
      · have hlt' : (j : Int) < (k : Int) := by omega
        have hj0 : (0 : Int) ≤ (j : Int) := by omega
        obtain ⟨x, hx⟩ := HG.out.1.get hlt
        obtain ⟨y, hy⟩ := HW.out.1.get hlt
        have hxy : (tolds [b] T)[j]? = some x.b := by rw [← HG.out.2.1, List.getElem?_map, hx]; rfl
        have hyy : (tolds [b] T)[j]? = some y.b := by rw [← HW.out.2.1, List.getElem?_map, hy]; rfl
        have hbb : y.b = x.b := by rw [hxy] at hyy; exact (Option.some.inj hyy).symm
        have hlx := HSH.out x.b (List.mem_of_getElem? hxy)
        have HC : Hid (∀ wx, Same wr wx → Calls Try.prog 11 #[.agg #[.int .u64 (x.b.length : Int), .slice x.a x.m x.cap], .agg #[.int .u64 (x.b.length : Int), .slice y.a y.m y.cap]] wx (FV wr (.bool true))) := Lib.hid (fun wx hO =>
          bsSame_yes _ _ x.b wr wx hO ⟨x.a, x.m, x.cap, rfl, ((HG.out.2.2.1 x (List.mem_of_getElem? hx)).keep (HS.out.trans hO) (fun _ _ => id))⟩ ⟨y.a, y.m, y.cap, rfl, by
            have := (HW.out.2.2 y (List.mem_of_getElem? hy)).keep (HG.out.2.2.2.trans (HS.out.trans hO)) (fun _ _ => id)
            rw [hbb] at this; exact this⟩ (by omega))
        obtain ⟨gb, gf, hga, hgb, hgc⟩ := (HG.out.1.still HS.out).at bc_len (by omega)
        obtain ⟨vb, vf, hva, hvb, hvc⟩ := (HW.out.1.still (HG.out.2.2.2.trans HS.out)).at bc_len (by omega)
        have g0 := hgc j x hx 0 _ rfl
        have g1 := hgc j x hx 1 _ rfl
        have v0 := hvc j y hy 0 _ rfl
        have v1 := hvc j y hy 1 _ rfl
        rw [hbb] at v0
        rw [Nat.add_zero] at g0 v0
        obtain ⟨n, hn⟩ : ∃ n, x.b.length = n := ⟨_, rfl⟩
        rw [hn] at HC g0 v0
        have HK : Hid (∀ wx, Same wr wx → wx.cell? ⟨gb, gf + j * 2, none⟩ = some (.int .u64 (n : Int)) ∧ wx.cell? ⟨gb, gf + j * 2 + 1, none⟩ = some (.slice x.a x.m x.cap) ∧ wx.cell? ⟨vb, vf + j * 2, none⟩ = some (.int .u64 (n : Int)) ∧ wx.cell? ⟨vb, vf + j * 2 + 1, none⟩ = some (.slice y.a y.m y.cap)) := Lib.hid (fun wx hO =>
          ⟨(hO.cell (World.block_lt_of_cell? wr _ g0) id).trans g0, (hO.cell (World.block_lt_of_cell? wr _ g1) id).trans g1, (hO.cell (World.block_lt_of_cell? wr _ v0) id).trans v0, (hO.cell (World.block_lt_of_cell? wr _ v1) id).trans v1⟩)
        subst hga hva
        clear hgc hvc hxy hyy hx hy hn hbb
        go_wp2_with fail
        go_region_held3 (fun w' => w'.cell? ⟨gb, gf + j * 2, none⟩ = some (.int .u64 (n : Int)) ∧ w'.cell? ⟨gb, gf + j * 2 + 1, none⟩ = some (.slice x.a x.m x.cap) ∧ w'.cell? ⟨vb, vf + j * 2, none⟩ = some (.int .u64 (n : Int)) ∧ w'.cell? ⟨vb, vf + j * 2 + 1, none⟩ = some (.slice y.a y.m y.cap))
          (first | exact HK.out _ (Only.drew (Only.refl _ _)) | exact HK.out _ (by assumption))
          (first | ((go_at_call 11; (with_reducible refine (HC.out _ (by exact (Only.refl _ wr).drew)).mono ?_); rintro e w10 ⟨rfl, hO10⟩)))
        all_goals
          go_wp2_with fail
          go_roundw
          case rel => exact ⟨j + 1, by omega, by go_num, Lib.hid (HS.out.trans hO10)⟩
          case measure => simp [intOf]; omega
      · have hlt' : ¬ (j : Int) < (k : Int) := by omega
        go_wp2_with fail
        go_ret
        exact ⟨rfl, Only.below (Same.trans HS06.out (Same.trans HG.out.2.2.2 HS.out)) (Nat.le_refl _) (fun _ _ => id)⟩
theorem walk (W : World) (v0 v1 : Value) (r0 : Reads Try.prog W 25 v0) (r1 : Reads Try.prog W 26 v1) :
    Calls Try.prog 3 #[v0, v1] W fun e w' => e = .returned (.bool true) ∧ Below W.heap.size W w' := by
  obtain ⟨n, a, m, cap, zs, rfl, hr⟩ := Reads.bits r0
  obtain ⟨sa, sn, sc, R, rfl, hR, hok⟩ := read_raws r1
  by_cases hm : m ≤ 2147483647
  · by_cases hsn : sn ≤ 2147483647
    · exact main n a m cap zs sa sn sc R W hr hm hR hok hsn
    · have hs : (2147483647 : Int) < (sn : Int) := by omega
      have H := Lib.hid (fun w' => fits_yes (n : Int) a m cap w' hm)
      clear r0 r1 hr hok hR
      go_enter Try.func3, Try.ntmps3
      go_wp2_with fail
      refine (H.out _).mono ?_
      rintro e w1 ⟨rfl, hO1⟩
      go_wp2_with fail
      go_ret
      exact ⟨rfl, Only.below (same_alloc hO1) (Nat.le_refl _) (fun _ _ => id)⟩
  · have H := Lib.hid (fits_no (n : Int) a m cap)
    clear r0 r1 hr hok hR
    go_enter Try.func3, Try.ntmps3
    go_wp2_with fail
    refine (H.out _ (by omega)).mono ?_
    rintro e w1 ⟨rfl, hO1⟩
    go_wp2_with fail
    go_ret
    exact ⟨rfl, Only.below (same_alloc hO1) (Nat.le_refl _) (fun _ _ => id)⟩
end Go.Proofs.Ytgndpckcdageiaa.walkFnBSRuns
