/-
  FnBLRuns: the walk. A filter answers any steps, one after the other, as a list of bits does.
-/
import Derived.Test.YtpiajkabikbdnaaBlReads
namespace Go.Proofs.Ytpiajkabikbdnaa.walkFnBLRuns
open Go.RowKit Go.Proofs.Ytpiajkabikbdnaa.base Go.Proofs.Ytpiajkabikbdnaa.heap Go.Proofs.Ytpiajkabikbdnaa.bit Go.Proofs.Ytpiajkabikbdnaa.bs
set_option linter.unusedVariables false

theorem runY_get (H : List Nat → Int × Int × Int × Int) (K : Nat) (l : List St) : ∀ (b : List Bool) (k : Nat) (s : St), l[k]? = some s → (runY H K b l).getD k false = s.says H K (runB H K b (l.take k)) := by
  induction l with
  | nil => intro b k s h; simp at h
  | cons t l ih =>
    intro b k s h
    cases k with
    | zero => simp at h; subst h; rfl
    | succ k => exact ih (t.bits H K b) k s (by simpa using h)

set_option maxRecDepth 100000 in
set_option maxHeartbeats 6400000 in
theorem main (p q : Nat) (a : Option Addr) (n cap : Nat) (l : List St) (w : World) (h : RS w a n cap l) (hs : ∀ s ∈ l, s.n ≤ s.cap ∧ s.cap ≤ 9223372036854775807) (hd : ∀ s ∈ l, ∀ wx, Same w wx → RY wx s.a s.n s.cap s.d) (hp : p < 65536) (hq : q < 256) :
    Calls Try.prog 8 #[.int .u16 (p : Int), .int .u8 (q : Int), .slice a n cap] w fun e w' => e = .returned (.bool true) ∧ Below w.heap.size w w' := by
  obtain ⟨H, hH⟩ := baseHashes
  have HH := Lib.hid hH
  have HFT := Lib.hid (fits3 a n cap l w h hs)
  have HBF : Hid (∀ wx, Calls Try.prog 9 #[.int .u16 (p : Int), .int .u8 (q : Int), .slice none 0 0] wx (FSomeF (1 + p % 700) (1 + q % 8) wx)) := Lib.hid (fun wx => blFilter p q none 0 0 [] wx ⟨Rd.nil wx 1, rfl⟩ (fun x hx => nomatch hx) (by omega) hp hq)
  have HST : Hid (∀ wx, n ≤ 2147483647 → Same w wx → Calls Try.prog 26 #[.slice a n cap] wx (FSteps wx l)) := Lib.hid (fun wx hn hx => blSteps a n cap l wx (h.keep hx (fun _ _ => id)) hs hn)
  have HGD : Hid (∀ s : St, s ∈ (l.map St.few).take 40 → Go.Proofs.Ytpiajkabikbdnaa.bs.Good w s) := Lib.hid (fun (s : St) hs' => by
    obtain ⟨t, ht, rfl⟩ := List.mem_map.1 (List.mem_of_mem_take hs')
    exact few_good (hs t ht) (hd t ht))
  have hbd := h.1.bound
  clear h hs hd hH
  obtain ⟨M, hM⟩ : ∃ M, 1 + p % 700 = M := ⟨_, rfl⟩
  obtain ⟨K, hK⟩ : ∃ K, 1 + q % 8 = K := ⟨_, rfl⟩
  rw [hM, hK] at HBF
  have hM1 : 1 ≤ M := by omega
  have hM2 : M ≤ 700 := by omega
  have hK1 : 1 ≤ K := by omega
  have hK2 : K ≤ 8 := by omega
  clear hM hK
  generalize hLL : (l.map St.few).take 40 = L at *
  have HLN : Hid (L.length ≤ 40) := Lib.hid (by rw [← hLL, List.length_take]; omega)
  go_enter Try.func8, Try.ntmps8
  go_wp2_with fail
  refine HFT.out.mono ?_
  rintro e w0 ⟨t, rfl, hfit, hO0⟩
  have HO0 := Lib.hid hO0
  have HFIT := Lib.hid hfit
  clear hfit hO0
  cases t with
  | false =>
    go_wp2_with fail
    go_ret
    exact ⟨rfl, Only.below HO0.out (Nat.le_refl _) (fun _ _ => id)⟩
  | true =>
    have hnn := (HFIT.out rfl).1
    go_wp2_with fail
    refine (HBF.out _).mono ?_
    rintro e w1 ⟨a1, n1, cap1, l1, rfl, u1, u2, u3, u4, hO1, u5⟩
    have HO1 := Lib.hid (Same.trans HO0.out hO1)
    clear hO1 HFIT u1 u2 u3 u4 u5
    go_wp2_with fail
    obtain ⟨w2, hw2⟩ : ∃ w2 : World, w2 = w1 := ⟨_, rfl⟩
    rw [← hw2] at HO1 ⊢
    obtain ⟨W1, hW1, hS1, hB1, hk1⟩ := newBlock w2 #[.int .u64 (M : Int), .int .u64 (K : Int), .slice a1 n1 cap1] 26
    rw [← hW1]
    refine (HST.out W1 hnn (Same.trans HO1.out hS1)).mono ?_
    rintro e w3 ⟨a3, n3, c3, rfl, hr3, hO3⟩
    rw [hLL] at hr3
    have HR3 : Hid (∀ wx, Same w3 wx → RS wx a3 n3 c3 L) := Lib.hid (fun wx hx => hr3.keep hx (fun _ _ => id))
    have HL3 := Lib.hid hr3.2
    have hbd3 := hr3.1.bound
    have hn3 : n3 ≤ 40 := by have := HLN.out; have := HL3.out; omega
    have HSW3 := Lib.hid (Same.trans HO1.out (Same.trans hS1 hO3))
    have HB3 := Lib.hid (still hO3 hB1)
    clear hr3 hW1 hS1 hB1 hk1 hO3 hw2 HST HFT HBF
    obtain ⟨d0, d1⟩ : w3.cell? ⟨w2.heap.size, 0, none⟩ = some (.int .u64 (M : Int)) ∧ w3.cell? ⟨w2.heap.size, 1, none⟩ = some (.int .u64 (K : Int)) := ⟨block_cell HB3.out rfl, block_cell HB3.out rfl⟩
    go_wp2_with fail
    refine (bl_run H HH.out M K a3 n3 c3 L w w3 HSW3.out (HR3.out w3 (Only.refl _ _)) HGD.out hn3 hM1 (by omega) hK1 (by omega)).mono ?_
    rintro e w4 ⟨a4, c4, ra, rc, rl, rfl, hy4, hput4, hO4⟩
    have hbd4 := hy4.1.bound
    have HY4 : Hid (∀ wx, Same w4 wx → RB wx a4 n3 c4 (runY H K (List.replicate M false) L)) := Lib.hid (fun wx hx => hy4.keep hx (fun _ _ => id))
    have HP4 : Hid (∀ wx, Same w4 wx → PutIn wx ra ((M + 63) / 64) rc rl M (runB H K (List.replicate M false) L)) := Lib.hid (fun wx hx => hput4.keep hx)
    have HB4 := Lib.hid (still hO4 HB3.out)
    have HO4 := Lib.hid hO4
    have HSW4 := Lib.hid (Same.trans HSW3.out hO4)
    clear hy4 hput4 hO4 d0 d1
    generalize hb0 : List.replicate M false = b0 at *
    have HB0 : Hid (b0.length = M) := Lib.hid (by rw [← hb0, List.length_replicate])
    have HNO : Hid (∀ wx, Calls Try.prog 28 #[.int .u64 (M : Int)] wx fun e w' => ∃ a c, e = .returned (.slice a M c) ∧ RB w' a M c b0 ∧ Same wx w') := Lib.hid (fun wx => by rw [← hb0]; exact blNone M (by omega) wx)
    have HBX : Hid (List.replicate M false = b0) := Lib.hid hb0
    clear hb0
    have d0 : w4.cell? ⟨w2.heap.size, 0, none⟩ = some (.int .u64 (M : Int)) := block_cell HB4.out rfl
    have hz24 : w2.heap.size < w4.heap.size := lt_of_heap HB4.out
    go_wp2_with fail
    obtain ⟨W5, hW5, hS5, hB5, hk5⟩ := newBlock w4 #[.int .u64 (M : Int), .int .u64 (K : Int), .slice ra ((M + 63) / 64) rc] 26
    rw [← hW5]
    refine (HNO.out W5).mono ?_
    rintro e w6 ⟨a6, c6, rfl, hb6, hO6⟩
    have HB6 := Lib.hid hb6
    have HS46 := Lib.hid (Same.trans hS5 hO6)
    have HBG := Lib.hid (still hO6 hB5)
    clear hb6 hO6 hW5 hS5 hB5 hk5 d0
    go_wp2_with fail
    go_loopw [11, 12, 13, 14] (fun bits i _ _ wr => ∃ (k : Nat) (ba : Option Addr) (bc : Nat), k ≤ n3 ∧ i = .int .i64 (k : Int) ∧ bits = .slice ba M bc ∧ RB wr ba M bc (runB H K b0 (L.take k)) ∧ Same w6 wr) (fun _ i _ _ _ => n3 - (intOf i).toNat)
    case atStart => exact ⟨0, a6, c6, Nat.zero_le _, rfl, rfl, HB6.out, Only.refl _ _⟩
    case round =>
      obtain ⟨k, ba, bc, hk, rfl, rfl, hrb, hO⟩ := hrel
      have hbdb := hrb.1.bound
      have HRB : Hid (∀ wx, Same wr wx → RB wx ba M bc (runB H K b0 (L.take k))) := Lib.hid (fun wx hx => hrb.keep hx (fun _ _ => id))
      have HO := Lib.hid hO
      have HSWR := Lib.hid (Same.trans HSW4.out (Same.trans HS46.out hO))
      have HS4R := Lib.hid (Same.trans HS46.out hO)
      clear hrb hO
      by_cases hlt : k < n3
      · have hlt' : (k : Int) < (n3 : Int) := by omega
        obtain ⟨b3, o3, rfl, hb3, hc3⟩ := (HR3.out wr (Same.trans HO4.out HS4R.out)).at (by omega)
        obtain ⟨b4, o4, rfl, hb4, hc4⟩ := (HY4.out wr HS4R.out).at (by omega)
        obtain ⟨s, hsk⟩ : ∃ s, L[k]? = some s := ⟨L[k]'(by rw [HL3.out]; omega), List.getElem?_eq_getElem _⟩
        obtain ⟨g1, g2, g3, g4, g5, g6⟩ := HGD.out s (List.mem_of_getElem? hsk)
        have HTB : Hid (runB H K b0 (L.take (k + 1)) = s.bits H K (runB H K b0 (L.take k))) := Lib.hid (by rw [take_snoc' L k s hsk, runB_snoc])
        have hy := hc4 k hlt
        rw [runY_get H K L b0 k s hsk] at hy
        have HKK : Hid (∀ w', Same wr w' → w'.cell? ⟨w2.heap.size, 0, none⟩ = some (.int .u64 (M : Int)) ∧ w'.cell? ⟨w2.heap.size, 1, none⟩ = some (.int .u64 (K : Int)) ∧ w'.cell? ⟨b3, o3 + k * 2, none⟩ = some (.int .i64 s.op) ∧ w'.cell? ⟨b3, o3 + k * 2 + 1, none⟩ = some (.slice s.a s.n s.cap) ∧ w'.cell? ⟨b4, o4 + k, none⟩ = some (.bool (s.says H K (runB H K b0 (L.take k))))) := Lib.hid (fun wx hx => by
          have hf := still (Same.trans HS4R.out hx) HB4.out
          obtain ⟨x0, x1⟩ := hc3 k s hsk
          exact ⟨block_cell hf rfl, block_cell hf rfl, (hx.cell hb3 id).trans x0, (hx.cell hb3 id).trans x1, (hx.cell hb4 id).trans hy⟩)
        have HRL : Hid ((runB H K b0 (L.take k)).length = M) := Lib.hid (by rw [runB_len, HB0.out])
        have HLO : Hid (∀ w0 wx, Same wr w0 → Same w0 wx → Calls Try.prog 20 #[.slice s.a s.n s.cap, .int .u64 (K : Int)] wx fun e w' => ∃ a0 c0, e = .returned (.slice a0 K c0) ∧ RU w' a0 K c0 (s.locs H K) ∧ Same w0 w') := Lib.hid (fun w0 wx h1 h2 => by
          have := implLocations H HH.out s.d s.a s.n s.cap K wx (g6 wx (Same.trans HSWR.out (Same.trans h1 h2))) (by omega) (by omega)
          exact this.mono fun e w' ⟨a0, c0, he, hu, hO, _⟩ => ⟨a0, c0, he, hu, Same.trans h2 hO⟩)
        have HLOK : Hid (Ok (s.locs H K)) := Lib.hid (locs_ok _ _)
        have HAL : Hid (∀ wx a9 c9, Same wr wx → RU wx a9 K c9 (s.locs H K) → Calls Try.prog 11 #[.slice ba M bc, .slice a9 K c9] wx (FV wx (.bool (allAt (fun i => (runB H K b0 (L.take k)).getD i false) (runB H K b0 (L.take k)).length (s.locs H K))))) := Lib.hid (fun wx a9 c9 h1 h2 => by
          have := blAll ba bc (runB H K b0 (L.take k)) a9 K c9 (s.locs H K) wx (by rw [HRL.out]; exact HRB.out wx h1) (by rw [HRL.out]; exact hM1) (by rw [HRL.out]; omega) h2 HLOK.out (by omega)
          rw [HRL.out] at this ⊢
          exact fv (Only.refl _ _) this)
        have HPU : Hid (∀ wx a9 c9, Same wr wx → RU wx a9 K c9 (s.locs H K) → Calls Try.prog 19 #[.slice ba M bc, .slice a9 K c9] wx fun e w' => ∃ a3 c3, e = .returned (.slice a3 M c3) ∧ RB w' a3 M c3 (putAll (runB H K b0 (L.take k)) (s.locs H K)) ∧ Same wx w') := Lib.hid (fun wx a9 c9 h1 h2 => by
          have := blPut ba bc (runB H K b0 (L.take k)) a9 K c9 (s.locs H K) wx (by rw [HRL.out]; exact HRB.out wx h1) (by rw [HRL.out]; exact hM1) (by rw [HRL.out]; omega) h2 HLOK.out (by omega)
          rw [HRL.out] at this
          refine this.mono fun e w' ⟨a3, c3, he, hu, hO, _⟩ => ⟨a3, c3, ?_, ?_, hO⟩
          · rw [putAll_len, HRL.out] at he; exact he
          · rw [putAll_len, HRL.out] at hu; exact hu)
        have HCLR : Hid (List.replicate (runB H K b0 (L.take k)).length false = b0) := Lib.hid (by rw [HRL.out]; exact HBX.out)
        have hop : s.op = 1 ∨ s.op = 2 ∨ s.op = 3 ∨ s.op = 4 ∨ s.op = 5 := by omega
        clear hc3 hc4 hsk g6 hy
        generalize hbits : runB H K b0 (L.take k) = bb at *
        have HBB := Lib.hid hbits
        clear hbits
        rcases hop with hop | hop | hop | hop | hop
        · rw [show s.says H K bb = false from by unfold St.says; rw [if_pos (by omega)]] at HKK
          rw [hop] at HKK
          have HSB : Hid (s.bits H K bb = putAll bb (s.locs H K)) := Lib.hid (by unfold St.bits; rw [if_neg (by omega), if_neg (by omega)])
          generalize hall : allAt (fun i => bb.getD i false) bb.length (s.locs H K) = tt at *
          clear hall
          obtain ⟨d0, d1, d2, d3, d4⟩ := HKK.out wr (Only.refl _ _)
          go_wp2_with fail
          go_region_held3 (fun w' => w'.cell? ⟨w2.heap.size, 0, none⟩ = some (.int .u64 (M : Int)) ∧ w'.cell? ⟨w2.heap.size, 1, none⟩ = some (.int .u64 (K : Int)) ∧ w'.cell? ⟨b3, o3 + k * 2, none⟩ = some (.int .i64 1) ∧ w'.cell? ⟨b3, o3 + k * 2 + 1, none⟩ = some (.slice s.a s.n s.cap) ∧ w'.cell? ⟨b4, o4 + k, none⟩ = some (.bool false))
            (first | (exact HKK.out _ hO7) | (exact HKK.out _ (Only.drew (Only.refl _ wr))))
            ((go_at_call 20; (with_reducible refine (HLO.out wr _ (Only.refl _ _) (by first | exact Only.refl _ wr | exact (Only.refl _ wr).drew)).mono ?_); rintro e w7 ⟨a7, c7, rfl, hu7, hO7⟩))
          have HU7 : Hid (∀ wx, Same w7 wx → RU wx a7 K c7 (s.locs H K)) := Lib.hid (fun wx hx => hu7.keep hx (fun _ _ => id))
          have HO7 := Lib.hid hO7
          clear hu7 d0 d1 d2 d3 d4
          obtain ⟨d0, d1, d2, d3, d4⟩ := HKK.out w7 hO7
          clear hO7
          go_wp2_with fail
          refine (HAL.out w7 a7 c7 HO7.out (HU7.out _ (Only.refl _ _))).mono ?_
          rintro e w8 ⟨rfl, hO8⟩
          have HO8 := Lib.hid (Same.trans HO7.out hO8)
          have HU8 := Lib.hid (HU7.out _ hO8)
          clear d0 d1 d2 d3 d4
          obtain ⟨d0, d1, d2, d3, d4⟩ := HKK.out w8 HO8.out
          clear hO8
          go_wp2_with fail
          refine (HPU.out w8 a7 c7 HO8.out HU8.out).mono ?_
          rintro e w9 ⟨a9, c9, rfl, hb9, hO9⟩
          have HB9 := Lib.hid hb9
          have HO9 := Lib.hid (Same.trans HO8.out hO9)
          clear d0 d1 d2 d3 d4
          obtain ⟨d0, d1, d2, d3, d4⟩ := HKK.out w9 HO9.out
          clear hb9 hO9
          go_wp2_with fail
          go_roundw
          case rel => exact ⟨k + 1, a9, c9, by omega, by go_num, rfl, by rw [HTB.out, HSB.out]; exact HB9.out, Same.trans HO.out HO9.out⟩
          case measure => simp [intOf]; omega
        · rw [show s.says H K bb = allAt (fun i => bb.getD i false) bb.length (s.locs H K) from by unfold St.says; rw [if_neg (by omega)]] at HKK
          rw [hop] at HKK
          have HSB : Hid (s.bits H K bb = bb) := Lib.hid (by unfold St.bits; rw [if_neg (by omega), if_pos hop])
          generalize hall : allAt (fun i => bb.getD i false) bb.length (s.locs H K) = tt at *
          clear hall
          obtain ⟨d0, d1, d2, d3, d4⟩ := HKK.out wr (Only.refl _ _)
          go_wp2_with fail
          go_region_held3 (fun w' => w'.cell? ⟨w2.heap.size, 0, none⟩ = some (.int .u64 (M : Int)) ∧ w'.cell? ⟨w2.heap.size, 1, none⟩ = some (.int .u64 (K : Int)) ∧ w'.cell? ⟨b3, o3 + k * 2, none⟩ = some (.int .i64 2) ∧ w'.cell? ⟨b3, o3 + k * 2 + 1, none⟩ = some (.slice s.a s.n s.cap) ∧ w'.cell? ⟨b4, o4 + k, none⟩ = some (.bool tt))
            (first | (exact HKK.out _ hO7) | (exact HKK.out _ (Only.drew (Only.refl _ wr))))
            ((go_at_call 20; (with_reducible refine (HLO.out wr _ (Only.refl _ _) (by first | exact Only.refl _ wr | exact (Only.refl _ wr).drew)).mono ?_); rintro e w7 ⟨a7, c7, rfl, hu7, hO7⟩))
          have HU7 : Hid (∀ wx, Same w7 wx → RU wx a7 K c7 (s.locs H K)) := Lib.hid (fun wx hx => hu7.keep hx (fun _ _ => id))
          have HO7 := Lib.hid hO7
          clear hu7 d0 d1 d2 d3 d4
          obtain ⟨d0, d1, d2, d3, d4⟩ := HKK.out w7 hO7
          clear hO7
          go_wp2_with fail
          refine (HAL.out w7 a7 c7 HO7.out (HU7.out _ (Only.refl _ _))).mono ?_
          rintro e w8 ⟨rfl, hO8⟩
          have HO8 := Lib.hid (Same.trans HO7.out hO8)
          have HU8 := Lib.hid (HU7.out _ hO8)
          clear d0 d1 d2 d3 d4
          obtain ⟨d0, d1, d2, d3, d4⟩ := HKK.out w8 HO8.out
          clear hO8
          go_wp2_with fail
          go_roundw
          case rel => exact ⟨k + 1, ba, bc, by omega, by go_num, rfl, by rw [HTB.out, HSB.out]; exact HRB.out _ HO8.out, Same.trans HO.out HO8.out⟩
          case measure => simp [intOf]; omega
        · rw [show s.says H K bb = allAt (fun i => bb.getD i false) bb.length (s.locs H K) from by unfold St.says; rw [if_neg (by omega)]] at HKK
          rw [hop] at HKK
          have HSB : Hid (s.bits H K bb = putAll bb (s.locs H K)) := Lib.hid (by unfold St.bits; rw [if_neg (by omega), if_neg (by omega)])
          generalize hall : allAt (fun i => bb.getD i false) bb.length (s.locs H K) = tt at *
          clear hall
          obtain ⟨d0, d1, d2, d3, d4⟩ := HKK.out wr (Only.refl _ _)
          go_wp2_with fail
          go_region_held3 (fun w' => w'.cell? ⟨w2.heap.size, 0, none⟩ = some (.int .u64 (M : Int)) ∧ w'.cell? ⟨w2.heap.size, 1, none⟩ = some (.int .u64 (K : Int)) ∧ w'.cell? ⟨b3, o3 + k * 2, none⟩ = some (.int .i64 3) ∧ w'.cell? ⟨b3, o3 + k * 2 + 1, none⟩ = some (.slice s.a s.n s.cap) ∧ w'.cell? ⟨b4, o4 + k, none⟩ = some (.bool tt))
            (first | (exact HKK.out _ hO7) | (exact HKK.out _ (Only.drew (Only.refl _ wr))))
            ((go_at_call 20; (with_reducible refine (HLO.out wr _ (Only.refl _ _) (by first | exact Only.refl _ wr | exact (Only.refl _ wr).drew)).mono ?_); rintro e w7 ⟨a7, c7, rfl, hu7, hO7⟩))
          have HU7 : Hid (∀ wx, Same w7 wx → RU wx a7 K c7 (s.locs H K)) := Lib.hid (fun wx hx => hu7.keep hx (fun _ _ => id))
          have HO7 := Lib.hid hO7
          clear hu7 d0 d1 d2 d3 d4
          obtain ⟨d0, d1, d2, d3, d4⟩ := HKK.out w7 hO7
          clear hO7
          go_wp2_with fail
          refine (HAL.out w7 a7 c7 HO7.out (HU7.out _ (Only.refl _ _))).mono ?_
          rintro e w8 ⟨rfl, hO8⟩
          have HO8 := Lib.hid (Same.trans HO7.out hO8)
          have HU8 := Lib.hid (HU7.out _ hO8)
          clear d0 d1 d2 d3 d4
          obtain ⟨d0, d1, d2, d3, d4⟩ := HKK.out w8 HO8.out
          clear hO8
          go_wp2_with fail
          refine (HPU.out w8 a7 c7 HO8.out HU8.out).mono ?_
          rintro e w9 ⟨a9, c9, rfl, hb9, hO9⟩
          have HB9 := Lib.hid hb9
          have HO9 := Lib.hid (Same.trans HO8.out hO9)
          clear d0 d1 d2 d3 d4
          obtain ⟨d0, d1, d2, d3, d4⟩ := HKK.out w9 HO9.out
          clear hb9 hO9
          go_wp2_with fail
          go_roundw
          case rel => exact ⟨k + 1, a9, c9, by omega, by go_num, rfl, by rw [HTB.out, HSB.out]; exact HB9.out, Same.trans HO.out HO9.out⟩
          case measure => simp [intOf]; omega
        · rw [show s.says H K bb = allAt (fun i => bb.getD i false) bb.length (s.locs H K) from by unfold St.says; rw [if_neg (by omega)]] at HKK
          rw [hop] at HKK
          have HSB : Hid (s.bits H K bb = putAll bb (s.locs H K)) := Lib.hid (by unfold St.bits; rw [if_neg (by omega), if_neg (by omega)])
          generalize hall : allAt (fun i => bb.getD i false) bb.length (s.locs H K) = tt at *
          clear hall
          obtain ⟨d0, d1, d2, d3, d4⟩ := HKK.out wr (Only.refl _ _)
          go_wp2_with fail
          go_region_held3 (fun w' => w'.cell? ⟨w2.heap.size, 0, none⟩ = some (.int .u64 (M : Int)) ∧ w'.cell? ⟨w2.heap.size, 1, none⟩ = some (.int .u64 (K : Int)) ∧ w'.cell? ⟨b3, o3 + k * 2, none⟩ = some (.int .i64 4) ∧ w'.cell? ⟨b3, o3 + k * 2 + 1, none⟩ = some (.slice s.a s.n s.cap) ∧ w'.cell? ⟨b4, o4 + k, none⟩ = some (.bool tt))
            (first | (exact HKK.out _ hO7) | (exact HKK.out _ (Only.drew (Only.refl _ wr))))
            ((go_at_call 20; (with_reducible refine (HLO.out wr _ (Only.refl _ _) (by first | exact Only.refl _ wr | exact (Only.refl _ wr).drew)).mono ?_); rintro e w7 ⟨a7, c7, rfl, hu7, hO7⟩))
          have HU7 : Hid (∀ wx, Same w7 wx → RU wx a7 K c7 (s.locs H K)) := Lib.hid (fun wx hx => hu7.keep hx (fun _ _ => id))
          have HO7 := Lib.hid hO7
          clear hu7 d0 d1 d2 d3 d4
          obtain ⟨d0, d1, d2, d3, d4⟩ := HKK.out w7 hO7
          clear hO7
          go_wp2_with fail
          refine (HAL.out w7 a7 c7 HO7.out (HU7.out _ (Only.refl _ _))).mono ?_
          rintro e w8 ⟨rfl, hO8⟩
          have HO8 := Lib.hid (Same.trans HO7.out hO8)
          have HU8 := Lib.hid (HU7.out _ hO8)
          clear d0 d1 d2 d3 d4
          obtain ⟨d0, d1, d2, d3, d4⟩ := HKK.out w8 HO8.out
          clear hO8
          go_wp2_with fail
          refine (HPU.out w8 a7 c7 HO8.out HU8.out).mono ?_
          rintro e w9 ⟨a9, c9, rfl, hb9, hO9⟩
          have HB9 := Lib.hid hb9
          have HO9 := Lib.hid (Same.trans HO8.out hO9)
          clear d0 d1 d2 d3 d4
          obtain ⟨d0, d1, d2, d3, d4⟩ := HKK.out w9 HO9.out
          clear hb9 hO9
          go_wp2_with fail
          go_roundw
          case rel => exact ⟨k + 1, a9, c9, by omega, by go_num, rfl, by rw [HTB.out, HSB.out]; exact HB9.out, Same.trans HO.out HO9.out⟩
          case measure => simp [intOf]; omega
        · rw [show s.says H K bb = false from by unfold St.says; rw [if_pos (by omega)]] at HKK
          rw [hop] at HKK
          have HSB : Hid (s.bits H K bb = b0) := Lib.hid (by unfold St.bits; rw [if_pos hop, HCLR.out])
          generalize hall : allAt (fun i => bb.getD i false) bb.length (s.locs H K) = tt at *
          clear hall
          obtain ⟨d0, d1, d2, d3, d4⟩ := HKK.out wr (Only.refl _ _)
          go_wp2_with fail
          go_region_held3 (fun w' => w'.cell? ⟨w2.heap.size, 0, none⟩ = some (.int .u64 (M : Int)) ∧ w'.cell? ⟨w2.heap.size, 1, none⟩ = some (.int .u64 (K : Int)) ∧ w'.cell? ⟨b3, o3 + k * 2, none⟩ = some (.int .i64 5) ∧ w'.cell? ⟨b3, o3 + k * 2 + 1, none⟩ = some (.slice s.a s.n s.cap) ∧ w'.cell? ⟨b4, o4 + k, none⟩ = some (.bool false))
            (first | (exact HKK.out _ hO7) | (exact HKK.out _ (Only.drew (Only.refl _ wr))))
            ((go_at_call 20; (with_reducible refine (HLO.out wr _ (Only.refl _ _) (by first | exact Only.refl _ wr | exact (Only.refl _ wr).drew)).mono ?_); rintro e w7 ⟨a7, c7, rfl, hu7, hO7⟩))
          have HU7 : Hid (∀ wx, Same w7 wx → RU wx a7 K c7 (s.locs H K)) := Lib.hid (fun wx hx => hu7.keep hx (fun _ _ => id))
          have HO7 := Lib.hid hO7
          clear hu7 d0 d1 d2 d3 d4
          obtain ⟨d0, d1, d2, d3, d4⟩ := HKK.out w7 hO7
          clear hO7
          go_wp2_with fail
          refine (HAL.out w7 a7 c7 HO7.out (HU7.out _ (Only.refl _ _))).mono ?_
          rintro e w8 ⟨rfl, hO8⟩
          have HO8 := Lib.hid (Same.trans HO7.out hO8)
          have HU8 := Lib.hid (HU7.out _ hO8)
          clear d0 d1 d2 d3 d4
          obtain ⟨d0, d1, d2, d3, d4⟩ := HKK.out w8 HO8.out
          clear hO8
          go_wp2_with fail
          refine (HNO.out w8).mono ?_
          rintro e w9 ⟨a9, c9, rfl, hb9, hO9⟩
          have HB9 := Lib.hid hb9
          have HO9 := Lib.hid (Same.trans HO8.out hO9)
          clear d0 d1 d2 d3 d4
          obtain ⟨d0, d1, d2, d3, d4⟩ := HKK.out w9 HO9.out
          clear hb9 hO9
          go_wp2_with fail
          go_roundw
          case rel => exact ⟨k + 1, a9, c9, by omega, by go_num, rfl, by rw [HTB.out, HSB.out]; exact HB9.out, Same.trans HO.out HO9.out⟩
          case measure => simp [intOf]; omega
      · obtain rfl : k = n3 := by omega
        have HE : Hid (L.take k = L) := Lib.hid (List.take_of_length_le (by rw [HL3.out]; exact Nat.le_refl _))
        rw [HE.out] at HRB
        have hg := still (Same.trans (Only.refl _ _) HO.out) HBG.out
        have hf := still HS4R.out HB4.out
        obtain ⟨d0, d1, d2⟩ : wr.cell? ⟨w4.heap.size, 0, none⟩ = some (.int .u64 (M : Int)) ∧ wr.cell? ⟨w4.heap.size, 1, none⟩ = some (.int .u64 (K : Int)) ∧ wr.cell? ⟨w4.heap.size, 2, none⟩ = some (.slice ra ((M + 63) / 64) rc) := ⟨block_cell hg rfl, block_cell hg rfl, block_cell hg rfl⟩
        have e1 : wr.cell? ⟨w2.heap.size, 1, none⟩ = some (.int .u64 (K : Int)) := block_cell hf rfl
        have HSM : Hid (Calls Try.prog 14 #[.agg #[.int .u64 (M : Int), .int .u64 (K : Int), .slice ra ((M + 63) / 64) rc], .int .u64 (K : Int), .slice ba M bc] wr (FV wr (.bool true))) := Lib.hid (same_put (by rw [runB_len, HB0.out]) (by omega) (by omega) (Only.refl _ _) (HP4.out wr HS4R.out) (HRB.out wr (Only.refl _ _)))
        clear hg hf
        go_wp2_with fail
        refine HSM.out.mono ?_
        rintro e w9 ⟨rfl, hO9⟩
        have HO9 := Lib.hid (Same.trans HSWR.out hO9)
        clear hO9
        go_wp2_with fail
        go_ret
        exact ⟨rfl, Only.below HO9.out (Nat.le_refl _) (fun _ _ => id)⟩

theorem walk (W : World) (v0 v1 v2 : Value) (r0 : Reads Try.prog W 22 v0) (r1 : Reads Try.prog W 5 v1) (r2 : Reads Try.prog W 50 v2) :
    Calls Try.prog 8 #[v0, v1, v2] W fun e w' => e = .returned (.bool true) ∧ Below W.heap.size W w' := by
  obtain ⟨p, rfl, hp⟩ := r0.int Try.underlying22
  have hp' := wf_u16 hp
  obtain ⟨P, rfl⟩ := Int.eq_ofNat_of_zero_le hp'.1
  obtain ⟨q, rfl, hq⟩ := r1.int Try.underlying5
  have hq' := wf_u8 hq
  obtain ⟨Q, rfl⟩ := Int.eq_ofNat_of_zero_le hq'.1
  obtain ⟨a, n, cap, l, rfl, hr, hs, hd⟩ := read_steps r2
  exact main P Q a n cap l W hr hs hd (by omega) (by omega)
end Go.Proofs.Ytpiajkabikbdnaa.walkFnBLRuns
