/-
  AVL trees: impl.avSaid.
-/
import Derived.Test.YtdamanckgmkbiaaAvImpl
namespace Go.Proofs.Ytdamanckgmkbiaa.av
open Go.RowKit Go.Proofs.Ytdamanckgmkbiaa.base Go.Proofs.Ytdamanckgmkbiaa.heap Go.Proofs.Ytdamanckgmkbiaa.rows
open Tre
set_option linter.unusedVariables false
def kv (y : Int × Option Int) : Int × Int := match y.2 with
  | some u => (y.1, u)
  | none => (0, 0)
def hasv (y : Int × Option Int) : Bool := y.2.isSome
def boolc (b : Bool) : List Value := [.bool b]
theorem slAE : SliceOf Try.prog 29 38 2 16 := SliceOf.mk (z := .agg #[.int .i64 0, .int .i64 0]) Try.underlying29 (by kernel_rfl) rfl
theorem slBl : SliceOf Try.prog 30 4 1 1 := SliceOf.mk (z := .bool false) Try.underlying30 (by kernel_rfl) rfl
/-- what is said, in memory -/
def SaidV (m : Int) (sa ha : Option Addr) (n sc hc : Nat) : Value := .agg #[.int .i64 m, .slice sa n sc, .slice ha n hc]
def SaP (L : List (Int × Int)) (Y : List (Int × Option Int)) (w : World) (e : Ending) (w' : World) : Prop := ∃ sa sc ha hc, e = .returned (SaidV L.length sa ha Y.length sc hc) ∧ New 38 entc 2 w w' sa Y.length sc (Y.map kv) ∧ New 4 boolc 1 w w' ha Y.length hc (Y.map hasv)
theorem ta_n (w : World) : (Instr.typeAssert .nilIface 71 73 true).run Try.prog w = .ok (.tuple #[.agg #[.int .i64 0, .int .i64 0], .bool false]) w := by kernel_rfl
theorem ta_s (k v : Int) (w : World) : (Instr.typeAssert (ent k v) 71 73 true).run Try.prog w = .ok (.tuple #[.agg #[.int .i64 k, .int .i64 v], .bool true]) w := by kernel_rfl
/-- in the course of avSaid -/
structure At3 (w wr : World) (rb ob m : Nat) (sa ha : Option Addr) (j sc hc : Nat) (Z : List (Int × Option Int)) : Prop where
  hob : wr.heap[ob]? = some (.cells #[.int .i64 (m : Int), .slice sa j sc, .slice ha j hc] 32 (0, 0))
  hrb : wr.heap[rb]? = some (.cells #[.int .i64 0, .slice none 0 0, .slice none 0 0] 32 (0, 0))
  s : New 38 entc 2 w wr sa j sc (Z.map kv)
  h : New 4 boolc 1 w wr ha j hc (Z.map hasv)
  same : Same w wr
  r1 : w.heap.size ≤ rb
  r2 : rb < ob
theorem At3.still {w wr w3 : World} {rb ob m : Nat} {sa ha : Option Addr} {j sc hc : Nat} {Z : List (Int × Option Int)} (h : At3 w wr rb ob m sa ha j sc hc Z) (ho : Same wr w3) : At3 w w3 rb ob m sa ha j sc hc Z :=
  ⟨heap_still ho h.hob, heap_still ho h.hrb, h.s.still ho, h.h.still ho, h.same.trans ho, h.r1, h.r2⟩
/-- behind the first append -/
structure Mid (w wr : World) (rb ob m : Nat) (sa ha : Option Addr) (a2 a3 : Option Addr) (j2 j3 j sc hc c2 c3 : Nat) (Z2 Z3 : List (Int × Option Int)) : Prop where
  hob : wr.heap[ob]? = some (.cells #[.int .i64 (m : Int), .slice sa j sc, .slice ha j hc] 32 (0, 0))
  hrb : wr.heap[rb]? = some (.cells #[.int .i64 0, .slice none 0 0, .slice none 0 0] 32 (0, 0))
  s : New 38 entc 2 w wr a2 j2 c2 (Z2.map kv)
  h : New 4 boolc 1 w wr a3 j3 c3 (Z3.map hasv)
  same : Same w wr
  r1 : w.heap.size ≤ rb
  r2 : rb < ob
section
variable {w w6 w8 w9 w10 : World} {rb ob m j sc hc c2 c3 : Nat} {sa ha a2 a3 : Option Addr} {Z : List (Int × Option Int)} {y : Int × Option Int}
theorem clash {w : World} {b t1 t2 : Nat} {c1 c2 : Array Value} (h1 : w.heap[b]? = some (.cells c1 t1 (0, 0))) (h2 : w.heap[b]? = some (.cells c2 t2 (0, 0))) (hn : t1 ≠ t2) : False := by
  rw [h1] at h2
  injection h2 with h2
  injection h2 with h3 h4
  exact hn h4
theorem At3.mid (h : At3 w w6 rb ob m sa ha j sc hc Z) : Mid w w6 rb ob m sa ha sa ha j j j sc hc sc hc Z Z := ⟨h.hob, h.hrb, h.s, h.h, h.same, h.r1, h.r2⟩
theorem At3.one (h : At3 w w6 rb ob m sa ha j sc hc Z) (ho : Same w6 w8) (hG : Grew 38 2 w8 w9 sa a2 1 (j + 1) sc c2 ((Z.map kv).flatMap entc ++ entc (kv y))) : Mid w w9 rb ob m sa ha a2 ha (j + 1) j j sc hc c2 hc (Z ++ [y]) Z := by
  have h8 := h.still ho
  refine ⟨hG.only.obj h8.hob (fun e => ?_), hG.only.obj h8.hrb (fun e => ?_), ?_, ⟨h8.h.row.keep hG.only (fun k hk e => ?_), new_only h8.same hG.only h8.s.new, h8.h.new⟩, new_only h8.same hG.only h8.s.new, h.r1, h.r2⟩
  · obtain ⟨cs, hc⟩ := own_type h8.s.row e
    exact clash hc h8.hob (by decide)
  · obtain ⟨cs, hc⟩ := own_type h8.s.row e
    exact clash hc h8.hrb (by decide)
  · rw [List.map_append]
    exact h8.s.step (Only.refl _ _) hG
  · obtain ⟨cs, hc⟩ := own_type h8.s.row e
    obtain ⟨cs', hc'⟩ := own_type h8.h.row hk
    exact clash hc hc' (by decide)
theorem Mid.two (h : Mid w w9 rb ob m sa ha a2 ha (j + 1) j j sc hc c2 hc (Z ++ [y]) Z) (ho : Same w9 w8) (hG : Grew 4 1 w8 w10 ha a3 1 (j + 1) hc c3 ((Z.map hasv).flatMap boolc ++ boolc (hasv y))) : Mid w w10 rb ob m sa ha a2 a3 (j + 1) (j + 1) j sc hc c2 c3 (Z ++ [y]) (Z ++ [y]) := by
  have hob8 := heap_still ho h.hob
  have hrb8 := heap_still ho h.hrb
  have hh8 := h.h.still ho
  have hs8 := h.s.still ho
  refine ⟨hG.only.obj hob8 (fun e => ?_), hG.only.obj hrb8 (fun e => ?_), ⟨hs8.row.keep hG.only (fun k hk e => ?_), new_only hs8.same hG.only hh8.new, hs8.new⟩, ?_, new_only hs8.same hG.only hh8.new, h.r1, h.r2⟩
  · obtain ⟨cs, hc⟩ := own_type hh8.row e
    exact clash hc hob8 (by decide)
  · obtain ⟨cs, hc⟩ := own_type hh8.row e
    exact clash hc hrb8 (by decide)
  · obtain ⟨cs, hc⟩ := own_type hh8.row e
    obtain ⟨cs', hc'⟩ := own_type hs8.row hk
    exact clash hc hc' (by decide)
  · rw [List.map_append]
    exact hh8.step (Only.refl _ _) hG
theorem Mid.fin (h : Mid w w10 rb ob m sa ha a2 a3 (j + 1) (j + 1) j sc hc c2 c3 Z Z) : At3 w ((w10.setCell ⟨ob, 1, none⟩ (.slice a2 (j + 1) c2)).setCell ⟨ob, 2, none⟩ (.slice a3 (j + 1) c3)) rb ob m a2 a3 (j + 1) c2 c3 Z := by
  have hO : Only (fun k => k = ob) w10 ((w10.setCell ⟨ob, 1, none⟩ (.slice a2 (j + 1) c2)).setCell ⟨ob, 2, none⟩ (.slice a3 (j + 1) c3)) := only2 (only2 (Only.refl _ _) rfl) rfl
  have h1 := h.r1
  have h2 := h.r2
  have hS := new_only h.same hO (fun k e => by have e' : k = ob := e; omega)
  refine ⟨setCell_heap (setCell_heap h.hob 1 _) 2 _, hO.obj h.hrb (fun e => by have e' : rb = ob := e; omega), ⟨h.s.row.keep hO (fun k hk e => ?_), hS, h.s.new⟩, ⟨h.h.row.keep hO (fun k hk e => ?_), hS, h.h.new⟩, hS, h1, h2⟩
  · obtain ⟨cs, hc⟩ := own_type h.s.row hk
    exact clash hc (e ▸ h.hob) (by decide)
  · obtain ⟨cs, hc⟩ := own_type h.h.row hk
    exact clash hc (e ▸ h.hob) (by decide)
end
set_option maxRecDepth 100000 in
set_option maxHeartbeats 16000000 in
theorem saidC {w : World} {g : Nat} {L : List (Int × Int)} {a : Option Addr} {n cap : Nat} {Y : List (Int × Option Int)} (h : Tn 0 w g L) (hL : L.length < 1000000) (hY : RL fnd w a n cap Y) (hn : n < 100000) : Calls Try.prog 22 #[.pointer (at0 g), .slice a n cap] w (SaP L Y w) := by
  have hbd := hY.bound
  have HR := Lib.hid hY
  have HL := Lib.hid hY.2
  have HLen := Lib.hid (fun wx (hx : Same w wx) => lenC (h.still hx))
  obtain ⟨m, hm⟩ : ∃ m, L.length = m := ⟨_, rfl⟩
  rw [hm] at HLen
  have hml : m < 1000000 := by omega
  have HM := Lib.hid hm
  clear h hY hm hL
  go_enter Try.func22, Try.ntmps22
  go_wp2_with (first | (go_at_call 30; refine (HLen.out _ (by repeat (first | exact Only.refl _ _ | apply Only.alloc | apply Only.drew))).mono ?_; go_loud (rintro e w2 ⟨rfl, hs⟩; have HS := Lib.hid hs; clear hs)) | fail)
  have hS2 := HS.out
  have hrb : w2.heap[w.heap.size]? = some (.cells #[.int .i64 0, .slice none 0 0, .slice none 0 0] 32 (0, 0)) := heap_still hS2 (heap_alloc_new' w _ _ rfl)
  have hsz : w.heap.size + 1 ≤ w2.heap.size := by
    have h := hS2.size
    have e : (w.alloc (.cells #[.int .i64 0, .slice none 0 0, .slice none 0 0] 32)).heap.size = w.heap.size + 1 := by simp only [World.alloc, Array.size_push]
    omega
  obtain ⟨rb, hrb'⟩ : ∃ rb, w.heap.size = rb := ⟨_, rfl⟩
  obtain ⟨ob, hob'⟩ : ∃ ob, w2.heap.size = ob := ⟨_, rfl⟩
  have HST : Hid (At3 w (w2.alloc (.cells #[.int .i64 (m : Int), .slice none 0 0, .slice none 0 0] 32)) rb ob m none none 0 0 0 []) := Lib.hid (by
    have hS3 : Same w w2 := Same.trans ((Only.refl _ w).alloc _) hS2
    refine ⟨heap_alloc_new' w2 _ _ hob'.symm, ?_, (New.nil _ _ _ _).still (hS3.alloc _), (New.nil _ _ _ _).still (hS3.alloc _), hS3.alloc _, by omega, by omega⟩
    rw [← hrb']
    exact heap_still ((Only.refl _ w2).alloc _) hrb)
  rw [hrb', hob']
  have HRB := Lib.hid (And.intro hrb' hob')
  clear hS2 hrb hsz HLen hob'
  go_loopw [16] (fun i wr => ∃ (j : Nat) (sa ha : Option Addr) (sc hc : Nat), i = .int .i64 (j : Int) ∧ j ≤ n ∧ Hid (At3 w wr rb ob m sa ha j sc hc (Y.take j))) (fun i _ => n - (intOf i).toNat)
  case atStart => exact ⟨0, none, none, 0, 0, rfl, Nat.zero_le _, HST⟩
  case round =>
    clear HST HS hrb'
    obtain ⟨j, sa, ha, sc, hc, rfl, hj, HI⟩ := hrel
    by_cases hlt : j < n
    · have hlt' : (j : Int) < (n : Int) := by omega
      obtain ⟨⟨kx, ox⟩, hy⟩ := HR.out.get hlt
      obtain ⟨b, off, hea, hb, hcs⟩ := (HR.out.still HI.out.same).at (by omega)
      have c0 : wr.cell? ⟨b, off + j, none⟩ = some (found kx ox) := hcs j _ hy
      have HY := Lib.hid hy
      subst hea
      clear hcs hy
      have hbs := HI.out.s.row.bound
      have hbh := HI.out.h.row.bound
      go_upto_region 5 with fail
      go_cut [8, 9] (fun s8 s9 wx => ∃ (x1 x2 : Int) (fl : Bool), s8 = .pointer (at0 wr.heap.size) ∧ s9 = .bool fl ∧ wx = wr.alloc (.cells #[.int .i64 x1, .int .i64 x2] 73) ∧ kv (kx, ox) = (x1, x2) ∧ hasv (kx, ox) = fl)
      case first =>
        clear HI HR HL HM HRB HY
        cases ox with
        | none =>
          rw [show found kx none = .nilIface from rfl] at c0 ⊢
          have ta := ta_n wr
          go_wp2_with fail
          go_meet
          exact ⟨0, 0, false, rfl, rfl, rfl, rfl, rfl⟩
        | some u =>
          rw [show found kx (some u) = ent kx u from rfl] at c0 ⊢
          have ta := ta_s kx u wr
          go_wp2_with fail
          go_meet
          exact ⟨kx, u, true, rfl, rfl, rfl, rfl, rfl⟩
      case rest =>
        obtain ⟨x1, x2, fl, rfl, rfl, hw6, hkv, hfl⟩ := hcut
        have HS6 : Hid (Same wr wc) := Lib.hid (by rw [hw6]; exact (Only.refl _ wr).alloc _)
        have hE6 : wc.heap[wr.heap.size]? = some (.cells #[.int .i64 x1, .int .i64 x2] 73 (0, 0)) := by rw [hw6]; exact heap_alloc_new' wr _ _ rfl
        obtain ⟨w6, hwc⟩ : ∃ w6, wc = w6 := ⟨_, rfl⟩
        obtain ⟨eb, heb⟩ : ∃ eb, wr.heap.size = eb := ⟨_, rfl⟩
        rw [hwc] at HS6 hE6 ⊢
        rw [heb] at hE6 ⊢
        clear hw6 hwc
        have HI6 := Lib.hid (HI.out.still HS6.out)
        have e0 : w6.cell? ⟨eb, 0, none⟩ = some (.int .i64 x1) := block_cell hE6 rfl
        have e1 : w6.cell? ⟨eb, 1, none⟩ = some (.int .i64 x2) := block_cell hE6 rfl
        have o1 : w6.cell? ⟨ob, 1, none⟩ = some (.slice sa j sc) := block_cell HI6.out.hob rfl
        have o2 : w6.cell? ⟨ob, 2, none⟩ = some (.slice ha j hc) := block_cell HI6.out.hob rfl
        have of := fun i => block_free (j := i) HI6.out.hob
        have ol := lt_of_heap HI6.out.hob
        have el := lt_of_heap hE6
        have HKV : Hid (entc (kv (kx, ox)) = [.int .i64 x1, .int .i64 x2] ∧ boolc (hasv (kx, ox)) = [.bool fl]) := Lib.hid ⟨by rw [hkv]; rfl, by rw [hfl]; rfl⟩
        clear hE6 c0 heb HS6 hkv hfl
        have HY1 : Hid (Y.take (j + 1) = Y.take j ++ [(kx, ox)]) := Lib.hid (take_snoc Y j _ HY.out)
        have H5 : Hid (∀ wx, Same w6 wx → Own 38 2 wx sa j sc (((Y.take j).map kv).flatMap entc)) := Lib.hid (fun wx hx => (HI6.out.s.row.still hx).1)
        have HONE : Hid (∀ w8 w9 a2 c2, Same w6 w8 → Grew 38 2 w8 w9 sa a2 1 (j + 1) sc c2 (((Y.take j).map kv).flatMap entc ++ [.int .i64 x1, .int .i64 x2]) → Mid w w9 rb ob m sa ha a2 ha (j + 1) j j sc hc c2 hc (Y.take j ++ [(kx, ox)]) (Y.take j) ∧ (w9.cell? ⟨ob, 1, none⟩ = some (.slice sa j sc) ∧ w9.cell? ⟨ob, 2, none⟩ = some (.slice ha j hc) ∧ (∀ i, w9.frozen? ⟨ob, i, none⟩ = false) ∧ ob < w9.heap.size)) := Lib.hid (fun w8 w9 a2 c2 ho hG => by
          have h := HI6.out.one (y := (kx, ox)) ho (by rw [HKV.out.1]; exact hG)
          exact ⟨h, block_cell h.hob rfl, block_cell h.hob rfl, fun i => block_free h.hob, lt_of_heap h.hob⟩)
        have HTWO : Hid (∀ w9 a2 c2 w8 w10 a3, ∀ {c3 : Nat}, Mid w w9 rb ob m sa ha a2 ha (j + 1) j j sc hc c2 hc (Y.take j ++ [(kx, ox)]) (Y.take j) → Same w9 w8 → Grew 4 1 w8 w10 ha a3 1 (j + 1) hc c3 (((Y.take j).map hasv).flatMap boolc ++ [.bool fl]) → Mid w w10 rb ob m sa ha a2 a3 (j + 1) (j + 1) j sc hc c2 c3 (Y.take j ++ [(kx, ox)]) (Y.take j ++ [(kx, ox)]) ∧ (w10.cell? ⟨ob, 1, none⟩ = some (.slice sa j sc) ∧ w10.cell? ⟨ob, 2, none⟩ = some (.slice ha j hc) ∧ (∀ i, w10.frozen? ⟨ob, i, none⟩ = false) ∧ ob < w10.heap.size)) := Lib.hid (fun w9 a2 c2 w8 w10 a3 c3 hM ho hG => by
          have h := hM.two ho (by rw [HKV.out.2]; exact hG)
          exact ⟨h, block_cell h.hob rfl, block_cell h.hob rfl, fun i => block_free h.hob, lt_of_heap h.hob⟩)
        have HOLD : Hid (∀ (w8 w9 : World) (a2 : Option Addr) (c2 b : Nat) (o : Obj), Same w6 w8 → Grew 38 2 w8 w9 sa a2 1 (j + 1) sc c2 (((Y.take j).map kv).flatMap entc ++ [.int .i64 x1, .int .i64 x2]) → w6.heap.size ≤ b → w8.heap[b]? = some o → w9.heap[b]? = some o) := Lib.hid (fun w8 w9 a2 c2 b o ho hG hb h => hG.only.obj h (fun e => by have := HI6.out.s.row.1.lt b e; omega))
        clear HI6 HI HR HL HM HRB HY HKV hbd hj hml hb
        go_upto_region 6 with fail
        go_region_law (first
          | ((with_reducible show (ite _ (Oper.wp _ _ _ (World.drew (World.alloc w6 _)) _ _) _)); refine step_app (j + 1) (((Y.take j).map kv).flatMap entc ++ [.int .i64 x1, .int .i64 x2]) (by rfl) _ _ _ _ (by rfl) slAE ?_ (H5.out _ (((Only.refl _ w6).alloc _).drew)) ?_ (Src.row (size := 2) (cs := #[.int .i64 x1, .int .i64 x2]) (t := 38) (fr := (0, 0)) Try.underlying29 (show ((w6.alloc (.cells #[.int .i64 x1, .int .i64 x2] 38)).drew).heap[w6.heap.size]? = _ from heap_alloc_new' w6 _ _ rfl) 1 1 rfl (by simp [Value.oneCell'])) rfl rfl (by unfold maxLen; omega) (by omega) ?_; (go_simp); (go_simp); intro a2 c2 w9 hG; have HM := Lib.hid (HONE.out _ _ _ _ (((Only.refl _ w6).alloc _).drew) hG); have p0 := HM.out.2.1; have p1 := HM.out.2.2.1; have pf := HM.out.2.2.2.1; have pl := HM.out.2.2.2.2; clear hG)
          | ((with_reducible show (ite _ (Oper.wp _ _ _ (World.drew (World.alloc (World.alloc w6 (.cells #[.int .i64 x1, .int .i64 x2] 38)) _)) _ _) _)); refine step_app (j + 1) (((Y.take j).map kv).flatMap entc ++ [.int .i64 x1, .int .i64 x2]) (by rfl) _ _ _ _ (by rfl) slAE ?_ (H5.out _ ((((Only.refl _ w6).alloc _).alloc _).drew)) ?_ (Src.row (size := 2) (cs := #[.int .i64 x1, .int .i64 x2]) (t := 38) (fr := (0, 0)) Try.underlying29 (show (((w6.alloc (.cells #[.int .i64 x1, .int .i64 x2] 38)).alloc (.cells #[.bool fl] 4)).drew).heap[w6.heap.size]? = _ from heap_still (((Only.refl _ _).alloc _).drew) (heap_alloc_new' w6 _ _ rfl)) 1 1 rfl (by simp [Value.oneCell'])) rfl rfl (by unfold maxLen; omega) (by omega) ?_; (go_simp); (go_simp); intro a2 c2 w9 hG; have HM := Lib.hid (HONE.out _ _ _ _ ((((Only.refl _ w6).alloc _).alloc _).drew) hG); have p0 := HM.out.2.1; have p1 := HM.out.2.2.1; have pf := HM.out.2.2.2.1; have pl := HM.out.2.2.2.2; have hrow := HOLD.out _ _ _ _ (w6.heap.size + 1) (.cells #[.bool fl] 4) ((((Only.refl _ w6).alloc _).alloc _).drew) hG (Nat.le_succ _) (show (((w6.alloc (.cells #[.int .i64 x1, .int .i64 x2] 38)).alloc (.cells #[.bool fl] 4)).drew).heap[w6.heap.size + 1]? = _ from heap_alloc_new' (w6.alloc (.cells #[.int .i64 x1, .int .i64 x2] 38)) _ _ (by simp only [World.alloc, Array.size_push])); clear hG)
          | ((with_reducible show (ite _ (Oper.wp _ _ _ (World.drew (World.alloc (World.alloc w6 (.cells #[.bool fl] 4)) _)) _ _) _)); refine step_app (j + 1) (((Y.take j).map kv).flatMap entc ++ [.int .i64 x1, .int .i64 x2]) (by rfl) _ _ _ _ (by rfl) slAE ?_ (H5.out _ ((((Only.refl _ w6).alloc _).alloc _).drew)) ?_ (Src.row (size := 2) (cs := #[.int .i64 x1, .int .i64 x2]) (t := 38) (fr := (0, 0)) Try.underlying29 (show (((w6.alloc (.cells #[.bool fl] 4)).alloc (.cells #[.int .i64 x1, .int .i64 x2] 38)).drew).heap[w6.heap.size + 1]? = _ from heap_alloc_new' (w6.alloc (.cells #[.bool fl] 4)) _ _ (by simp only [World.alloc, Array.size_push])) 1 1 rfl (by simp [Value.oneCell'])) rfl rfl (by unfold maxLen; omega) (by omega) ?_; (go_simp); (go_simp); intro a2 c2 w9 hG; have HM := Lib.hid (HONE.out _ _ _ _ ((((Only.refl _ w6).alloc _).alloc _).drew) hG); have p0 := HM.out.2.1; have p1 := HM.out.2.2.1; have pf := HM.out.2.2.2.1; have pl := HM.out.2.2.2.2; have hrow := HOLD.out _ _ _ _ w6.heap.size (.cells #[.bool fl] 4) ((((Only.refl _ w6).alloc _).alloc _).drew) hG (Nat.le_refl _) (show (((w6.alloc (.cells #[.bool fl] 4)).alloc (.cells #[.int .i64 x1, .int .i64 x2] 38)).drew).heap[w6.heap.size]? = _ from heap_still (((Only.refl _ _).alloc _).drew) (heap_alloc_new' w6 _ _ rfl)); clear hG)
          | ((with_reducible show (ite _ (Oper.wp _ _ _ (World.alloc w9 _) _ _) _)); refine step_app (j + 1) (((Y.take j).map hasv).flatMap boolc ++ [.bool fl]) (by rfl) _ _ _ _ (by rfl) slBl ?_ (HM.out.1.h.still ((Only.refl _ w9).alloc _)).row.1 ?_ (Src.row (size := 1) (cs := #[.bool fl]) (t := 4) (fr := (0, 0)) Try.underlying30 (by exact heap_alloc_new' _ _ _ rfl) 1 1 rfl (by simp [Value.oneCell'])) rfl rfl (by unfold maxLen; omega) (by omega) ?_; (go_simp); (go_simp); intro a3 c3 w10 hG; have HN := Lib.hid (HTWO.out _ _ _ _ _ _ HM.out.1 ((Only.refl _ w9).alloc _) hG); have q0 := HN.out.2.1; have q1 := HN.out.2.2.1; have qf := HN.out.2.2.2.1; have ql := HN.out.2.2.2.2; clear hG)
          | ((with_reducible show (ite _ (Oper.wp _ _ _ w9 _ _) _)); refine step_app (j + 1) (((Y.take j).map hasv).flatMap boolc ++ [.bool fl]) (by rfl) _ _ _ _ (by rfl) slBl ?_ (HM.out.1.h.still (Only.refl _ w9)).row.1 ?_ (Src.row (size := 1) (cs := #[.bool fl]) (t := 4) (fr := (0, 0)) Try.underlying30 hrow 1 1 rfl (by simp [Value.oneCell'])) rfl rfl (by unfold maxLen; omega) (by omega) ?_; (go_simp); (go_simp); intro a3 c3 w10 hG; have HN := Lib.hid (HTWO.out _ _ _ _ _ _ HM.out.1 (Only.refl _ w9) hG); have q0 := HN.out.2.1; have q1 := HN.out.2.2.1; have qf := HN.out.2.2.2.1; have ql := HN.out.2.2.2.2; clear hG)
          | fail)
        all_goals
          have HI9 : Hid (At3 w ((w10.setCell ⟨ob, 1, none⟩ (.slice a2 (j + 1) c2)).setCell ⟨ob, 2, none⟩ (.slice a3 (j + 1) c3)) rb ob m a2 a3 (j + 1) c2 c3 (Y.take (j + 1))) := Lib.hid (by rw [HY1.out]; exact HN.out.1.fin)
          first
          | (go_wp2_with fail)
          | skip
          exact ⟨⟨j + 1, a2, a3, c2, c3, by go_num, by omega, HI9⟩, by simp [intOf]; omega⟩
    · have hlt' : ¬ (j : Int) < (n : Int) := by omega
      obtain rfl : j = n := by omega
      have r0 : wr.cell? ⟨rb, 0, none⟩ = some (.int .i64 0) := block_cell HI.out.hrb rfl
      have r1 : wr.cell? ⟨rb, 1, none⟩ = some (.slice none 0 0) := block_cell HI.out.hrb rfl
      have r2 : wr.cell? ⟨rb, 2, none⟩ = some (.slice none 0 0) := block_cell HI.out.hrb rfl
      have rf := fun i => block_free (j := i) HI.out.hrb
      have rl := lt_of_heap HI.out.hrb
      have o0 : wr.cell? ⟨ob, 0, none⟩ = some (.int .i64 (m : Int)) := block_cell HI.out.hob rfl
      have o1 : wr.cell? ⟨ob, 1, none⟩ = some (.slice sa j sc) := block_cell HI.out.hob rfl
      have o2 : wr.cell? ⟨ob, 2, none⟩ = some (.slice ha j hc) := block_cell HI.out.hob rfl
      go_wp2_with fail
      have hF : At3 w wr rb ob m sa ha j sc hc Y := by
        have h := HI.out
        rwa [List.take_of_length_le (by rw [HL.out]; exact Nat.le_refl _)] at h
      have hO : Only (fun k => k = rb) wr (((wr.setCell ⟨rb, 0, none⟩ (.int .i64 (m : Int))).setCell ⟨rb, 1, none⟩ (.slice sa j sc)).setCell ⟨rb, 2, none⟩ (.slice ha j hc)) := only2 (only2 (only2 (Only.refl _ _) rfl) rfl) rfl
      have hrb2 := setCell_heap (setCell_heap (setCell_heap HI.out.hrb 0 (.int .i64 (m : Int))) 1 (.slice sa j sc)) 2 (.slice ha j hc)
      have HE : Hid (SaP L Y w (.returned (SaidV m sa ha j sc hc)) (((wr.setCell ⟨rb, 0, none⟩ (.int .i64 (m : Int))).setCell ⟨rb, 1, none⟩ (.slice sa j sc)).setCell ⟨rb, 2, none⟩ (.slice ha j hc))) := Lib.hid (by
        have h1 := hF.r1
        have hS := new_only hF.same hO (fun k e => by have e' : k = rb := e; omega)
        refine ⟨sa, sc, ha, hc, by rw [HM.out, HL.out], ⟨?_, hS, hF.s.new⟩, ⟨?_, hS, hF.h.new⟩⟩
        · rw [HL.out]
          refine hF.s.row.keep hO (fun k hk e => ?_)
          obtain ⟨cs, hc⟩ := own_type hF.s.row hk
          exact clash hc (e ▸ hF.hrb) (by decide)
        · rw [HL.out]
          refine hF.h.row.keep hO (fun k hk e => ?_)
          obtain ⟨cs, hc⟩ := own_type hF.h.row hk
          exact clash hc (e ▸ hF.hrb) (by decide))
      obtain ⟨w6, hw6⟩ : ∃ w6, (((wr.setCell ⟨rb, 0, none⟩ (.int .i64 (m : Int))).setCell ⟨rb, 1, none⟩ (.slice sa j sc)).setCell ⟨rb, 2, none⟩ (.slice ha j hc)) = w6 := ⟨_, rfl⟩
      rw [hw6] at hrb2 HE ⊢
      have y0 : w6.cell? ⟨rb, 0, none⟩ = some (.int .i64 (m : Int)) := block_cell hrb2 rfl
      have y1 : w6.cell? ⟨rb, 1, none⟩ = some (.slice sa j sc) := block_cell hrb2 rfl
      have y2 : w6.cell? ⟨rb, 2, none⟩ = some (.slice ha j hc) := block_cell hrb2 rfl
      refine bodyPost_ret (v := SaidV m sa ha j sc hc) ?_ rfl HE.out
      simp [results, Try.results22, go_sem, y0, y1, y2, SaidV]
end Go.Proofs.Ytdamanckgmkbiaa.av
