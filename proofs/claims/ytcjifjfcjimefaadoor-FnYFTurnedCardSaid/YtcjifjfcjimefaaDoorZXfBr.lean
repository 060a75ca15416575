/-
  insert: the branch, the links, the walks up. Printed by gen_br.py.
-/
import Derived.Test.YtcjifjfcjimefaaDoorZXfLink
import Derived.Deep.RegionLaw
namespace Go.Proofs.YtcjifjfcjimefaaDoor.xf
open Go.RowKit Go.Proofs.YtcjifjfcjimefaaDoor.base Go.Proofs.YtcjifjfcjimefaaDoor.heap Go.Proofs.YtcjifjfcjimefaaDoor.rows Go.Proofs.YtcjifjfcjimefaaDoor.mapn
set_option linter.unusedVariables false
variable [Inhabited Kd]

noncomputable def tail18 : Code := (Tryd.f49.body.bind (codeFrom 18)).getD .skip

omit [Inhabited Kd] in
theorem step_updN {P : Program} {K e : TypeId} {w : World} {mb : Nat} {f : Nat → Option Value} {ops : Array Oper} {o : Oper} {fr : Act} {KK : Act → World → Prop} {Q : Exit → Act → World → Prop} {E : Prop} (hg : o.guard = none) (m x v : Operand) (t : TypeId) (hop : o.op = Op.mapUpdate t m x v) (hK : P.underlying K = some (.int .u64)) (ht : P.underlying t = some (.map K e))
    (hm : fr.eval m = .map (some mb)) (n : Nat) (hx : fr.eval x = uk n) (val : Value) (hv : fr.eval v = val) (h : MapN w mb f) (hn : f n = none)
    (hk : ∀ w', MapN w' mb (fun k => if k = n then some val else f k) → w.grownBy w' (some mb) → w'.heap.size = w.heap.size → KK (fr.put o.dst undef) w') : if Region.wanted o (yielded ops fr.tmps) = true then Oper.wp P o fr w KK Q else E := by
  have hw : Region.wanted o (yielded ops fr.tmps) = true := by simp [Region.wanted, hg]
  rw [if_pos hw]
  obtain ⟨w', hrun, r1, r2, r3⟩ := h.update hK ht n val hn
  unfold Oper.wp
  simp [execOp, hop, hm, hx, hv, hrun, Result.andThen]
  exact hk w' r1 r2 r3
section
variable {w wr wr' : World} {S : Sh} {D x i tb lb root num : Nat} {v : Int} {nb : Nat → Nat} {md : Nat → Nat} {mn mx : Option Nat}
theorem Gi.still (h : Gi w wr S D x v nb i tb lb root num md mn mx) (ho : Same wr wr') : Gi w wr' S D x v nb i tb lb root num md mn mx :=
  ⟨h.mem.still ho, h.inj, h.tree, h.lay.still ho, h.mdi, h.obj.still ho, h.only.trans ho (fun _ _ f => f.elim), h.new⟩
omit [Inhabited Kd] in
theorem lkg_leaf {k : Nat} (h : i < S.m) : lkg S.m S.lk D x nb i S.m k = S.lk S.m k := by
  unfold lkg
  rw [if_neg (by omega)]
end
set_option maxRecDepth 1000000 in
set_option maxHeartbeats 6400000 in
theorem br18 (w : World) (S : Sh) (D x nD : Nat) (v : Int) (tb lb root num : Nat) (md : Nat → Nat) (mn mx : Option Nat) (pr0 su rt : Option Nat) (V6 V7 V9 : Value) (P : Ending → World → Prop) (hV6 : V6 = op pr0) (hV7 : V7 = op su) (hV9 : V9 = op rt) (hrt : rt = if D = 0 then none else S.lk D (pre S.m D x)) (hNb : Nb0 S x pr0 su) (hP : InsP S D x v tb lb root num md w P) (h : Trie w S tb lb root num md mn mx) (hT : Tabs w) (hd : S.Deep D x) (hn : S.lk D (pre S.m D x) = some nD) (hown : ∀ k, k < 2 → ¬ Own S tb md k) (hnum : num < 1000000) (u2 u3 u11 u12 u13 u14 u15 u16 u17 u18 u19 u20 u21 u22 u23 u24 u25 u26 u27 u28 u29 u30 u31 u32 u33 u34 u35 u36 u37 u38 u39 u40 u41 u42 u43 u44 u45 u46 u47 u48 u49 u50 u51 u52 u53 u54 u55 u56 u57 u58 u59 u60 u61 u62 u63 u64 u65 u66 u67 u68 u69 u70 u71 u72 u73 u74 u75 u76 u77 u78 u79 u80 u81 u82 u83 u84 u85 u86 u87 u88 u89 u90 u91 u92 u93 u94 u95 u96 u97 u98 u99 u100 u101 u102 u103 u104 u105 u106 u107 u108 u109 u110 u111 u112 u113 u114 u115 u116 u117 u118 u119 u120 u121 u122 u123 u124 u125 u126 u127 u128 u129 u130 u131 u132 u133 u134 u135 u136 u137 u138 u139 u140 u141 u142 u143 u144 u145 u146 u147 u148 u149 u150 u151 u152 u153 u154 u155 u156 u157 u158 u159 u160 u161 u162 u163 u164 u165 u166 u167 u168 u169 u170 u171 u172 u173 u174 u175 u176 u177 u178 u179 u180 u181 u182 u183 u184 u185 u186 u187 u188 u189 u190 u191 u192 u193 u194 u195 u196 u197 u198 u199 u200 u201 u202 u203 u204 u205 u206 u207 u208 u209 u210 u211 u212 u213 u214 u215 u216 u217 u218 u219 u220 u221 u222 u223 u224 u225 u226 u227 u228 u229 u230 u231 u232 u233 u234 u235 u236 u237 u238 u239 u240 u241 u242 u243 u244 u245 u246 u247 u248 u249 u250 u251 u252 u253 u254 u255 u256 u257 u258 u259 u260 u261 u262 u263 u264 u265 u266 u267 u268 u269 u270 u271 u272 u273 u274 u275 u276 u277 u278 u279 u280 u281 u282 u283 u284 u285 u286 u287 u288 u289 u290 u291 u292 u293 u294 u295 : Value) :
    Code.wp Tryd.prog tail18 (bodyPost Tryd.prog Tryd.f49 P) ⟨(pb tb :: item x v :: u2 :: u3 :: .int .u64 (x : Int) :: pb nD :: V6 :: V7 :: .int .i64 (D : Int) :: V9 :: .int .u64 0 :: u11 :: u12 :: u13 :: u14 :: u15 :: u16 :: u17 :: u18 :: u19 :: u20 :: u21 :: u22 :: u23 :: u24 :: u25 :: u26 :: u27 :: u28 :: u29 :: u30 :: u31 :: u32 :: u33 :: u34 :: u35 :: u36 :: u37 :: u38 :: u39 :: u40 :: u41 :: u42 :: u43 :: u44 :: u45 :: u46 :: u47 :: u48 :: u49 :: u50 :: u51 :: u52 :: u53 :: u54 :: u55 :: u56 :: u57 :: u58 :: u59 :: u60 :: u61 :: u62 :: u63 :: u64 :: u65 :: u66 :: u67 :: u68 :: u69 :: u70 :: u71 :: u72 :: u73 :: u74 :: u75 :: u76 :: u77 :: u78 :: u79 :: u80 :: u81 :: u82 :: u83 :: u84 :: u85 :: u86 :: u87 :: u88 :: u89 :: u90 :: u91 :: u92 :: u93 :: u94 :: u95 :: u96 :: u97 :: u98 :: u99 :: u100 :: u101 :: u102 :: u103 :: u104 :: u105 :: u106 :: u107 :: u108 :: u109 :: u110 :: u111 :: u112 :: u113 :: u114 :: u115 :: u116 :: u117 :: u118 :: u119 :: u120 :: u121 :: u122 :: u123 :: u124 :: u125 :: u126 :: u127 :: u128 :: u129 :: u130 :: u131 :: u132 :: u133 :: u134 :: u135 :: u136 :: u137 :: u138 :: u139 :: u140 :: u141 :: u142 :: u143 :: u144 :: u145 :: u146 :: u147 :: u148 :: u149 :: u150 :: u151 :: u152 :: u153 :: u154 :: u155 :: u156 :: u157 :: u158 :: u159 :: u160 :: u161 :: u162 :: u163 :: u164 :: u165 :: u166 :: u167 :: u168 :: u169 :: u170 :: u171 :: u172 :: u173 :: u174 :: u175 :: u176 :: u177 :: u178 :: u179 :: u180 :: u181 :: u182 :: u183 :: u184 :: u185 :: u186 :: u187 :: u188 :: u189 :: u190 :: u191 :: u192 :: u193 :: u194 :: u195 :: u196 :: u197 :: u198 :: u199 :: u200 :: u201 :: u202 :: u203 :: u204 :: u205 :: u206 :: u207 :: u208 :: u209 :: u210 :: u211 :: u212 :: u213 :: u214 :: u215 :: u216 :: u217 :: u218 :: u219 :: u220 :: u221 :: u222 :: u223 :: u224 :: u225 :: u226 :: u227 :: u228 :: u229 :: u230 :: u231 :: u232 :: u233 :: u234 :: u235 :: u236 :: u237 :: u238 :: u239 :: u240 :: u241 :: u242 :: u243 :: u244 :: u245 :: u246 :: u247 :: u248 :: u249 :: u250 :: u251 :: u252 :: u253 :: u254 :: u255 :: u256 :: u257 :: u258 :: u259 :: u260 :: u261 :: u262 :: u263 :: u264 :: u265 :: u266 :: u267 :: u268 :: u269 :: u270 :: u271 :: u272 :: u273 :: u274 :: u275 :: u276 :: u277 :: u278 :: u279 :: u280 :: u281 :: u282 :: u283 :: u284 :: u285 :: u286 :: u287 :: u288 :: u289 :: u290 :: u291 :: u292 :: u293 :: u294 :: u295 :: []).toArray, []⟩ w := by
  obtain ⟨hm2, hm64⟩ := h.ok.m2
  have hDm := hd.d
  have HH := Lib.hid h
  have HT := Lib.hid hT
  have HD := Lib.hid hd
  have HLX : Hid (S.lk S.m x = none) := Lib.hid (by
    cases hb : S.lk S.m x with
    | none => rfl
    | some b => exact absurd (show S.K x from fun e => by rw [hb] at e; cases e) (hd.notK h.ok))
  have HG0 : Hid (Gi w w S D x v (fun _ => 0) D tb lb root num md mn mx ∧ lkg S.m S.lk D x (fun _ => 0) D D (pre S.m D x) = some nD) := Lib.hid ⟨Gi.zero v _ h.mem h.ok h.lay h.mdi h.obj hDm HLX.out, by rw [lkg_D]; exact hn⟩
  have hw8 : IntKind.u8.wrap (D : Int) = (D : Int) := by rw [IntKind.wrap_u8]; omega
  have HOWN := Lib.hid hown
  have HV := Lib.hid (And.intro hV6 (And.intro hV7 hV9))
  have HRTN := Lib.hid (And.intro hrt (And.intro hNb hP))
  clear h hT hd hn hown hV6 hV7 hV9 hrt hNb hP
  conv => arg 2; whnf
  go_upto_block 0 with fail
  go_cut [5] (fun n wx => ∃ (b : Nat) (nb : Nat → Nat), n = pb b ∧ Hid (Gi w wx S D x v nb S.m tb lb root num md mn mx ∧ nb S.m = b))
  case first =>
   go_wp2_with fail
   go_loopw [5, 11] (fun n i wr => ∃ (j b : Nat) (nb : Nat → Nat), n = pb b ∧ i = .int .u8 (j : Int) ∧ D ≤ j ∧ j ≤ S.m ∧ Hid (Gi w wr S D x v nb j tb lb root num md mn mx ∧ lkg S.m S.lk D x nb j j (pre S.m j x) = some b)) (fun _ i _ => S.m - (intOf i).toNat)
   case atStart => exact ⟨D, nD, _, rfl, rfl, Nat.le_refl _, by omega, HG0⟩
   case round =>
     clear HG0
     obtain ⟨j, b, nb, rfl, rfl, hDj, hjm, HG⟩ := hrel
     have HO := Lib.hid HG.out.1.obj
     have t3 : wr.cell? ⟨tb, 3, none⟩ = some (.int .u8 (S.m : Int)) := block_cell HO.out.obj rfl
     have lt := lt_of_heap HO.out.obj
     by_cases hlt : j < S.m
     · have hlt' : (j : Int) < (S.m : Int) := by omega
       have t0 : wr.cell? ⟨tb, 0, none⟩ = some (.slice (some ⟨lb, 0, none⟩) S.m S.m) := block_cell HO.out.obj rfl
       have t2 : wr.cell? ⟨tb, 2, none⟩ = some (.int .u64 ((num : Nat) : Int)) := by have := HO.out.obj; rw [if_neg (by omega)] at this; exact block_cell this rfl
       have t4 : wr.cell? ⟨tb, 4, none⟩ = some (.int .u8 ((64 : Int) - (S.m : Int))) := block_cell HO.out.obj rfl
       obtain ⟨t, ht⟩ : ∃ t, 64 - S.m + j = t := ⟨_, rfl⟩
       have ht1 : (t : Int) < 64 := by omega
       have hw : IntKind.u8.wrap ((64 : Int) - (S.m : Int) + (j : Int)) = (t : Int) := by rw [IntKind.wrap_u8]; omega
       obtain ⟨Z, hZ⟩ : ∃ Z : Int, ((2 ^ (63 - t) : Nat) : Int) = Z := ⟨_, rfl⟩
       have TB := Lib.hid (HT.out.keep HG.out.1.only HOWN.out)
       have p0 : wr.cell? ⟨0, t, none⟩ = some (.int .u64 Z) := by rw [← hZ]; exact TB.out.1 t (by omega)
       obtain ⟨A, hA⟩ : ∃ A, x &&& 2 ^ (63 - t) = A := ⟨_, rfl⟩
       have hx64 : x < 2 ^ 64 := Nat.lt_of_lt_of_le HD.out.lt (Nat.pow_le_pow_right (by decide) hm64)
       have hand : bits .and .u64 (x : Int) Z = (A : Int) := by
         rw [← hZ, ← hA, u64_and_nat x _ (by simpa using hx64) (by have := Nat.pow_le_pow_right (n := 2) (by decide) (show 63 - t ≤ 63 by omega); omega)]
       have HAS : Hid (A / 2 ^ (S.m - 1 - j) = side S.m j x) := Lib.hid (by
         rw [← hA, show S.m - 1 - j = 63 - t by omega, and_one]
         unfold side
         rw [show S.m - 1 - j = 63 - t by omega])
       have HT9 : Hid (64 - S.m + j = t) := Lib.hid ht
       clear hZ hA ht hx64
       have hside : (A : Int) / 2 ^ (S.m - 1 - j) = ((side S.m j x : Nat) : Int) := by
         rw [← HAS.out]
         push_cast
         rfl
       obtain ⟨M, hM⟩ : ∃ M : Int, ((2 ^ 64 - 2 ^ (63 - t) : Nat) : Int) = M := ⟨_, rfl⟩
       have p1 : wr.cell? ⟨1, t, none⟩ = some (.int .u64 M) := by rw [← hM]; exact TB.out.2.1 t (by omega)
       have hand2 : bits .and .u64 (x : Int) M = ((cut S.m (j + 1) x : Nat) : Int) := by
         have hx64 : x < 2 ^ 64 := Nat.lt_of_lt_of_le HD.out.lt (Nat.pow_le_pow_right (by decide) hm64)
         have := Nat.two_pow_pos (63 - t)
         rw [← hM, u64_and_nat x _ (by simpa using hx64) (by omega), and_high hx64 (by omega)]
         unfold cut
         rw [show 63 - t = S.m - (j + 1) by have := HT9.out; omega]
       have HM9 := Lib.hid hM
       clear hM
       go_wp2_with fail
       go_quiet (fail)
       obtain ⟨wq, hwq⟩ : ∃ wq, wr.drewN nq = wq := ⟨_, rfl⟩
       have HSQ : Hid (Same wr wq) := Lib.hid (by rw [← hwq]; exact (Only.refl _ _).drewN _)
       rw [hwq]
       have HGQ := Lib.hid (And.intro (HG.out.1.still HSQ.out) HG.out.2)
       have TBQ := Lib.hid (TB.out.still HSQ.out)
       clear hwq t0 t2 t3 t4 lt p0 p1 hside hand HO TB HSQ
       have hnb : Nd wq b .nilIface (chg S.m S.ch D x nb j j (pre S.m j x) 0) (chg S.m S.ch D x nb j j (pre S.m j x) 1) ((S.grow D x v nb j).par j (pre S.m j x)) := Mem.inner (S := S.grow D x v nb j) HGQ.out.1.mem hlt HGQ.out.2
       have HNB := Lib.hid hnb
       have hno := chg_at (nb := nb) HD.out HH.out.ok hDj hlt
       have HNO := Lib.hid hno
       have lb9 := hnb.lt
       have fb := hnb.fr
       have t0 : wq.cell? ⟨tb, 0, none⟩ = some (.slice (some ⟨lb, 0, none⟩) S.m S.m) := block_cell HGQ.out.1.obj.obj rfl
       have t2 : wq.cell? ⟨tb, 2, none⟩ = some (.int .u64 ((num : Nat) : Int)) := by have := HGQ.out.1.obj.obj; rw [if_neg (by omega)] at this; exact block_cell this rfl
       have t3 : wq.cell? ⟨tb, 3, none⟩ = some (.int .u8 (S.m : Int)) := block_cell HGQ.out.1.obj.obj rfl
       have t4 : wq.cell? ⟨tb, 4, none⟩ = some (.int .u8 ((64 : Int) - (S.m : Int))) := block_cell HGQ.out.1.obj.obj rfl
       have lt := lt_of_heap HGQ.out.1.obj.obj
       have tf : ∀ i, wq.frozen? ⟨tb, i, none⟩ = false := fun i => block_free HGQ.out.1.obj.obj
       have r0 := HGQ.out.1.lay.row j hlt
       have rl := HGQ.out.1.lay.lb
       have p1 := TBQ.out.2.1 t (by omega)
       have dbt : b ≠ tb := hnb.ne_T HGQ.out.1.obj
       have dbl : b ≠ lb := Mem.ne_lb (S := S.grow D x v nb j) HGQ.out.1.mem HGQ.out.1.lay (by show j ≤ S.m; omega) HGQ.out.2
       have dtl : tb ≠ lb := HGQ.out.1.obj.ne_lb HGQ.out.1.lay
       have NB2 : ∀ k, k < 2 → k ≠ b := fun k hk e => by
         have h1 := HGQ.out.2
         unfold lkg at h1
         split at h1
         · rename_i h2
           have h3 := HGQ.out.1.new j h2.1 (Nat.le_refl _)
           have h4 := HT.out.2.2
           cases h1
           omega
         · exact HOWN.out k hk (.inr (.inr ⟨j, _, by omega, by rw [h1, e]⟩))
       have db0 : b ≠ 1 := fun e => NB2 1 (by decide) e.symm
       have dt0 : tb ≠ 1 := fun e => HOWN.out 1 (by decide) (.inl e.symm)
       clear hno hnb
       have hs2 := side_lt S.m j x
       rcases Nat.eq_zero_or_pos (side S.m j x) with hs | hs
       · rw [hs]
         have yk := HNB.out.c0
         have HNO0 := Lib.hid HNO.out
         rw [hs] at HNO0
         rcases HNO0.out with hk | ⟨k, hk, hkl⟩
         · rw [hk] at yk
           have yk' : wq.cell? ⟨b, 1, none⟩ = some (.pointer none) := yk
           clear yk hk
           by_cases hlst : j + 1 = S.m
           · have hj1 : j + 1 = S.m := by omega
             have hlast : ¬ (j : Int) < (S.m : Int) - 1 := by omega
             have HNN := Lib.hid (newNode_leaf x v (some b) wq)
             go_wp2_with fail
             refine HNN.out.mono ?_
             rintro e w1 ⟨rfl, hw1⟩
             obtain ⟨bn, hbn⟩ : ∃ bn, wq.heap.size = bn := ⟨_, rfl⟩
             rw [hbn, show op (some bn) = pb bn from rfl]
             have HS1 : Hid (Same wq w1) := Lib.hid (by rw [hw1.out]; exact (Only.refl _ _).alloc _)
             have HNW : Hid (Nd w1 bn (item x v) none none (some b)) := Lib.hid (by rw [hw1.out, ← hbn]; exact heap_alloc_new _ _)
             have HBN : Hid (wq.heap.size ≤ bn) := Lib.hid (by omega)
             clear hw1 hbn t0 t2 t3 t4 lt tf r0 rl p1 lb9 fb
             have HG1 := Lib.hid (HGQ.out.1.still HS1.out)
             have hnb1 := HNB.out.still HS1.out
             have lb9 := hnb1.lt
             have fb := hnb1.fr
             have yb0 := hnb1.c0
             have t0 : w1.cell? ⟨tb, 0, none⟩ = some (.slice (some ⟨lb, 0, none⟩) S.m S.m) := block_cell HG1.out.obj.obj rfl
             have t2 : w1.cell? ⟨tb, 2, none⟩ = some (.int .u64 ((num : Nat) : Int)) := by have := HG1.out.obj.obj; rw [if_neg (by omega)] at this; exact block_cell this rfl
             have t4 : w1.cell? ⟨tb, 4, none⟩ = some (.int .u8 ((64 : Int) - (S.m : Int))) := block_cell HG1.out.obj.obj rfl
             have lt := lt_of_heap HG1.out.obj.obj
             have tf : ∀ i, w1.frozen? ⟨tb, i, none⟩ = false := fun i => block_free HG1.out.obj.obj
             have r0 := HG1.out.lay.row j hlt
             have rl := HG1.out.lay.lb
             have p1 := (TBQ.out.still HS1.out).2.1 t (by omega)
             have l1 := (TBQ.out.still HS1.out).2.2
             clear hnb1
             have hlay1 := HG1.out.lay
             go_upto_region 29 with fail
             obtain ⟨w2, hw2⟩ : ∃ w2, (w1.setCell ⟨tb, 2, none⟩ (.int .u64 ((num : Int) + 1))) = w2 := ⟨_, rfl⟩
             obtain ⟨w3, hw3⟩ : ∃ w3, w2.setCell ⟨b, 1, none⟩ (pb bn) = w3 := ⟨_, rfl⟩
             have HO2 : Hid (Only (fun k => k = tb) w1 w2 ∧ TObj w2 tb lb S.m root (if j + 1 = S.m then num + 1 else num) mn mx) := Lib.hid (by
               rw [← hw2]
               rw [if_pos hj1]
               have h8 := HG1.out.obj
               rw [if_neg (by omega)] at h8
               exact ⟨(Only.refl _ _).setCell ⟨tb, 2, none⟩ _ (fun _ => rfl), ⟨setCell_heap h8.obj 2 _⟩⟩)
             have HO3 : Hid (Only (fun k => k = tb ∨ k = b) w1 w3) := Lib.hid (by
               rw [← hw3]
               exact (HO2.out.1.mono (fun _ _ e => .inl e)).setCell _ _ (fun _ => .inr rfl))
             have HW3 : Hid (w2.setCell ⟨b, side S.m j x + 1, none⟩ (pb bn) = w3) := Lib.hid (by rw [hs]; exact hw3)
             have hlay3 : Lay w3 S.m lb md (lkg S.m S.lk D x nb j) := hlay1.keep HO3.out (fun e => by rcases e with e | e; exact dtl e.symm; exact dbl e.symm) (fun i hi e => by
               obtain ⟨f, h6, _⟩ := hlay1.maps i hi
               rcases e with e | e
               · exact (HG1.out.obj.ne_md h6) e.symm
               · exact ((HNB.out.still HS1.out).ne_md h6) e.symm)
             obtain ⟨f, hmf, hff⟩ := hlay3.maps j hlt
             have HLY3 := Lib.hid hlay3
             have HMF : Hid (MapN w3.drew (md j) f) := Lib.hid (hmf.of_heap rfl)
             have HFF := Lib.hid hff
             have HFN : Hid (f (cut S.m (j + 1) x) = none) := Lib.hid (by rw [hff x HD.out.lt, lkg_free HD.out HH.out.ok hDj hlt]; rfl)
             have hto3 := HO2.out.2
             rw [hw2, hw3]
             clear t0 t2 t4 lt tf r0 rl p1 l1 lb9 fb hw2
             have t0 : w3.cell? ⟨tb, 0, none⟩ = some (.slice (some ⟨lb, 0, none⟩) S.m S.m) := by rw [← hw3]; exact block_cell (hto3.keep ((Only.refl (fun k => k = b) w2).setCell ⟨b, 1, none⟩ _ (fun _ => rfl)) (fun e => dbt e.symm)).obj rfl
             have t4 : w3.cell? ⟨tb, 4, none⟩ = some (.int .u8 ((64 : Int) - (S.m : Int))) := by rw [← hw3]; exact block_cell (hto3.keep ((Only.refl (fun k => k = b) w2).setCell ⟨b, 1, none⟩ _ (fun _ => rfl)) (fun e => dbt e.symm)).obj rfl
             have lt : tb < w3.heap.size := Nat.lt_of_lt_of_le (lt_of_heap HG1.out.obj.obj) HO3.out.size
             have r0 := HLY3.out.row j hlt
             have rl := HLY3.out.lb
             have p1 : w3.cell? ⟨1, t, none⟩ = some (.int .u64 M) := by
               have h9 := (TBQ.out.still HS1.out).keep HO3.out (fun k hk e => by
                 rcases e with e | e
                 · exact (by have := HOWN.out k hk; exact this (.inl e))
                 · exact NB2 k hk e)
               rw [← HM9.out]; exact h9.2.1 t (by omega)
             have hlkb : lb < w3.heap.size := HLY3.out.lb
             obtain ⟨y, hy⟩ : ∃ y, cut S.m (j + 1) x = y := ⟨_, rfl⟩
             rw [hy] at hand2 HFN
             have HY := Lib.hid hy
             clear hto3 hw3 hlay3 hmf hff hlay1 hy
             go_cut [] (fun wx => Hid (MapN wx (md j) (fun k => if k = y then some (pb bn) else f k) ∧ w3.drew.grownBy wx (some (md j))))
             case first =>
               clear HG HGQ HNB HNO HNO0 HG1 HNW HBN HO2 HO3 HW3 TBQ HLY3 HS1 HOWN HLX HH HT HD HAS HT9 HM9 HFF HY NB2 dbt dbl dtl db0 dt0 HNN hs hs2
               obtain ⟨w5, hrun, hM5, hg5, hs5⟩ := HMF.out.update (P := Tryd.prog) (t := 109) Tryd.underlying25 Tryd.underlying109 y (pb bn) HFN.out
               have hrun2 : (Instr.mapUpdate 109 (.map (some (md j))) (.int .u64 (y : Int)) (pb bn)).run Tryd.prog w3.drew = .ok () w5 := hrun
               have HM5 := Lib.hid (And.intro hM5 hg5)
               clear hrun hM5 hg5 HMF HFN
               go_region
               all_goals
                 go_wp2_with fail
                 go_meet
                 exact HM5
             case rest =>
               obtain ⟨w5, hw5⟩ : ∃ w5, w5 = wc := ⟨_, rfl⟩
               rw [← hw5] at hcut ⊢
               have HGN : Hid (Gi w w5 S D x v (setN nb (j + 1) bn) (j + 1) tb lb root num md mn mx) := Lib.hid (by
                 refine HGQ.out.1.step HD.out HH.out.ok hDj hlt HGQ.out.2 HS1.out HBN.out (by rw [if_pos hj1]; exact HNW.out) HO2.out.1 HO2.out.2 (by rw [HW3.out]; exact (Only.refl _ _).drew) HMF.out HFF.out ?_ hcut.out.2
                 rw [HY.out]; exact hcut.out.1)
               have hlk := lkg_succ (lk := S.lk) (m := S.m) (x := x) (nb := nb) (b := bn) hDj
               have HLA : Hid (lkg S.m S.lk D x (setN nb (j + 1) bn) (j + 1) (j + 1) (pre S.m (j + 1) x) = some bn) := Lib.hid (by rw [hlk]; simp)
               have hlj : lkg S.m S.lk D x (setN nb (j + 1) bn) (j + 1) j (pre S.m j x) = some b := by
                 rw [hlk]
                 simp only []
                 rw [if_neg (by omega)]
                 exact HGQ.out.2
               have hnn : Nd w5 b .nilIface (chg S.m S.ch D x (setN nb (j + 1) bn) (j + 1) j (pre S.m j x) 0) (chg S.m S.ch D x (setN nb (j + 1) bn) (j + 1) j (pre S.m j x) 1) _ := Mem.inner (S := S.grow D x v (setN nb (j + 1) bn) (j + 1)) HGN.out.mem hlt hlj
               have hcc : chg S.m S.ch D x (setN nb (j + 1) bn) (j + 1) j (pre S.m j x) 0 = some bn := by
                 unfold chg
                 rw [if_pos ⟨hDj, Nat.lt_succ_self _, rfl, hs.symm⟩]
                 unfold setN
                 rw [if_pos rfl]
               have yz := hnn.c0
               rw [hcc] at yz
               have yz' : w5.cell? ⟨b, 1, none⟩ = some (pb bn) := yz
               have lbz := hnn.lt
               clear hw5 hcut hlk hlj hnn hcc yz t0 t4 r0 rl p1 hand2 hlkb lt HMF HFF HFN HY HLY3 HW3 HO3 HO2 HNW HBN HG1 HS1 HNN hw
               go_wp2_with fail
               go_roundw
               case rel => exact ⟨j + 1, bn, _, rfl, by go_num, by omega, by omega, Lib.hid ⟨HGN.out, HLA.out⟩⟩
               case measure => simp [intOf]; omega
           · have hj1 : j + 1 ≠ S.m := by omega
             have hlast : (j : Int) < (S.m : Int) - 1 := by omega
             have HNN := Lib.hid (newNode_in (some b) wq)
             go_wp2_with fail
             refine HNN.out.mono ?_
             rintro e w1 ⟨rfl, hw1⟩
             obtain ⟨bn, hbn⟩ : ∃ bn, wq.heap.size = bn := ⟨_, rfl⟩
             rw [hbn, show op (some bn) = pb bn from rfl]
             have HS1 : Hid (Same wq w1) := Lib.hid (by rw [hw1.out]; exact (Only.refl _ _).alloc _)
             have HNW : Hid (Nd w1 bn (.nilIface) none none (some b)) := Lib.hid (by rw [hw1.out, ← hbn]; exact heap_alloc_new _ _)
             have HBN : Hid (wq.heap.size ≤ bn) := Lib.hid (by omega)
             clear hw1 hbn t0 t2 t3 t4 lt tf r0 rl p1 lb9 fb
             have HG1 := Lib.hid (HGQ.out.1.still HS1.out)
             have hnb1 := HNB.out.still HS1.out
             have lb9 := hnb1.lt
             have fb := hnb1.fr
             have yb0 := hnb1.c0
             have t0 : w1.cell? ⟨tb, 0, none⟩ = some (.slice (some ⟨lb, 0, none⟩) S.m S.m) := block_cell HG1.out.obj.obj rfl
             have t2 : w1.cell? ⟨tb, 2, none⟩ = some (.int .u64 ((num : Nat) : Int)) := by have := HG1.out.obj.obj; rw [if_neg (by omega)] at this; exact block_cell this rfl
             have t4 : w1.cell? ⟨tb, 4, none⟩ = some (.int .u8 ((64 : Int) - (S.m : Int))) := block_cell HG1.out.obj.obj rfl
             have lt := lt_of_heap HG1.out.obj.obj
             have tf : ∀ i, w1.frozen? ⟨tb, i, none⟩ = false := fun i => block_free HG1.out.obj.obj
             have r0 := HG1.out.lay.row j hlt
             have rl := HG1.out.lay.lb
             have p1 := (TBQ.out.still HS1.out).2.1 t (by omega)
             have l1 := (TBQ.out.still HS1.out).2.2
             clear hnb1
             have hlay1 := HG1.out.lay
             go_upto_region 29 with fail
             obtain ⟨w2, hw2⟩ : ∃ w2, w1 = w2 := ⟨_, rfl⟩
             obtain ⟨w3, hw3⟩ : ∃ w3, w2.setCell ⟨b, 1, none⟩ (pb bn) = w3 := ⟨_, rfl⟩
             have HO2 : Hid (Only (fun k => k = tb) w1 w2 ∧ TObj w2 tb lb S.m root (if j + 1 = S.m then num + 1 else num) mn mx) := Lib.hid (by
               rw [← hw2]
               rw [if_neg hj1]
               have h8 := HG1.out.obj
               rw [if_neg (by omega)] at h8
               exact ⟨Only.refl _ _, h8⟩)
             have HO3 : Hid (Only (fun k => k = tb ∨ k = b) w1 w3) := Lib.hid (by
               rw [← hw3]
               exact (HO2.out.1.mono (fun _ _ e => .inl e)).setCell _ _ (fun _ => .inr rfl))
             have HW3 : Hid (w2.setCell ⟨b, side S.m j x + 1, none⟩ (pb bn) = w3) := Lib.hid (by rw [hs]; exact hw3)
             have hlay3 : Lay w3 S.m lb md (lkg S.m S.lk D x nb j) := hlay1.keep HO3.out (fun e => by rcases e with e | e; exact dtl e.symm; exact dbl e.symm) (fun i hi e => by
               obtain ⟨f, h6, _⟩ := hlay1.maps i hi
               rcases e with e | e
               · exact (HG1.out.obj.ne_md h6) e.symm
               · exact ((HNB.out.still HS1.out).ne_md h6) e.symm)
             obtain ⟨f, hmf, hff⟩ := hlay3.maps j hlt
             have HLY3 := Lib.hid hlay3
             have HMF : Hid (MapN w3.drew (md j) f) := Lib.hid (hmf.of_heap rfl)
             have HFF := Lib.hid hff
             have HFN : Hid (f (cut S.m (j + 1) x) = none) := Lib.hid (by rw [hff x HD.out.lt, lkg_free HD.out HH.out.ok hDj hlt]; rfl)
             have hto3 := HO2.out.2
             rw [hw2, hw3]
             clear t0 t2 t4 lt tf r0 rl p1 l1 lb9 fb hw2
             have t0 : w3.cell? ⟨tb, 0, none⟩ = some (.slice (some ⟨lb, 0, none⟩) S.m S.m) := by rw [← hw3]; exact block_cell (hto3.keep ((Only.refl (fun k => k = b) w2).setCell ⟨b, 1, none⟩ _ (fun _ => rfl)) (fun e => dbt e.symm)).obj rfl
             have t4 : w3.cell? ⟨tb, 4, none⟩ = some (.int .u8 ((64 : Int) - (S.m : Int))) := by rw [← hw3]; exact block_cell (hto3.keep ((Only.refl (fun k => k = b) w2).setCell ⟨b, 1, none⟩ _ (fun _ => rfl)) (fun e => dbt e.symm)).obj rfl
             have lt : tb < w3.heap.size := Nat.lt_of_lt_of_le (lt_of_heap HG1.out.obj.obj) HO3.out.size
             have r0 := HLY3.out.row j hlt
             have rl := HLY3.out.lb
             have p1 : w3.cell? ⟨1, t, none⟩ = some (.int .u64 M) := by
               have h9 := (TBQ.out.still HS1.out).keep HO3.out (fun k hk e => by
                 rcases e with e | e
                 · exact (by have := HOWN.out k hk; exact this (.inl e))
                 · exact NB2 k hk e)
               rw [← HM9.out]; exact h9.2.1 t (by omega)
             have hlkb : lb < w3.heap.size := HLY3.out.lb
             obtain ⟨y, hy⟩ : ∃ y, cut S.m (j + 1) x = y := ⟨_, rfl⟩
             rw [hy] at hand2 HFN
             have HY := Lib.hid hy
             clear hto3 hw3 hlay3 hmf hff hlay1 hy
             go_cut [] (fun wx => Hid (MapN wx (md j) (fun k => if k = y then some (pb bn) else f k) ∧ w3.drew.grownBy wx (some (md j))))
             case first =>
               clear HG HGQ HNB HNO HNO0 HG1 HNW HBN HO2 HO3 HW3 TBQ HLY3 HS1 HOWN HLX HH HT HD HAS HT9 HM9 HFF HY NB2 dbt dbl dtl db0 dt0 HNN hs hs2
               obtain ⟨w5, hrun, hM5, hg5, hs5⟩ := HMF.out.update (P := Tryd.prog) (t := 109) Tryd.underlying25 Tryd.underlying109 y (pb bn) HFN.out
               have hrun2 : (Instr.mapUpdate 109 (.map (some (md j))) (.int .u64 (y : Int)) (pb bn)).run Tryd.prog w3.drew = .ok () w5 := hrun
               have HM5 := Lib.hid (And.intro hM5 hg5)
               clear hrun hM5 hg5 HMF HFN
               go_region
               all_goals
                 go_wp2_with fail
                 go_meet
                 exact HM5
             case rest =>
               obtain ⟨w5, hw5⟩ : ∃ w5, w5 = wc := ⟨_, rfl⟩
               rw [← hw5] at hcut ⊢
               have HGN : Hid (Gi w w5 S D x v (setN nb (j + 1) bn) (j + 1) tb lb root num md mn mx) := Lib.hid (by
                 refine HGQ.out.1.step HD.out HH.out.ok hDj hlt HGQ.out.2 HS1.out HBN.out (by rw [if_neg hj1]; exact HNW.out) HO2.out.1 HO2.out.2 (by rw [HW3.out]; exact (Only.refl _ _).drew) HMF.out HFF.out ?_ hcut.out.2
                 rw [HY.out]; exact hcut.out.1)
               have hlk := lkg_succ (lk := S.lk) (m := S.m) (x := x) (nb := nb) (b := bn) hDj
               have HLA : Hid (lkg S.m S.lk D x (setN nb (j + 1) bn) (j + 1) (j + 1) (pre S.m (j + 1) x) = some bn) := Lib.hid (by rw [hlk]; simp)
               have hlj : lkg S.m S.lk D x (setN nb (j + 1) bn) (j + 1) j (pre S.m j x) = some b := by
                 rw [hlk]
                 simp only []
                 rw [if_neg (by omega)]
                 exact HGQ.out.2
               have hnn : Nd w5 b .nilIface (chg S.m S.ch D x (setN nb (j + 1) bn) (j + 1) j (pre S.m j x) 0) (chg S.m S.ch D x (setN nb (j + 1) bn) (j + 1) j (pre S.m j x) 1) _ := Mem.inner (S := S.grow D x v (setN nb (j + 1) bn) (j + 1)) HGN.out.mem hlt hlj
               have hcc : chg S.m S.ch D x (setN nb (j + 1) bn) (j + 1) j (pre S.m j x) 0 = some bn := by
                 unfold chg
                 rw [if_pos ⟨hDj, Nat.lt_succ_self _, rfl, hs.symm⟩]
                 unfold setN
                 rw [if_pos rfl]
               have yz := hnn.c0
               rw [hcc] at yz
               have yz' : w5.cell? ⟨b, 1, none⟩ = some (pb bn) := yz
               have lbz := hnn.lt
               clear hw5 hcut hlk hlj hnn hcc yz t0 t4 r0 rl p1 hand2 hlkb lt HMF HFF HFN HY HLY3 HW3 HO3 HO2 HNW HBN HG1 HS1 HNN hw
               go_wp2_with fail
               go_roundw
               case rel => exact ⟨j + 1, bn, _, rfl, by go_num, by omega, by omega, Lib.hid ⟨HGN.out, HLA.out⟩⟩
               case measure => simp [intOf]; omega
         · obtain ⟨bk, hbk⟩ := hk.get
           rw [hkl, hbk] at yk
           have yk' : wq.cell? ⟨b, 1, none⟩ = some (pb bk) := yk
           have HIL : Hid (Calls Tryd.prog 65 #[op (some bk)] wq fun en w' => en = .returned (.bool true) ∧ wq = w') := Lib.hid (isLeaf_leaf wq bk k _ _ _ _ (Mem.leaf (S := S.grow D x v nb j) HGQ.out.1.mem (by show lkg S.m S.lk D x nb j S.m k = some bk; rw [lkg_leaf hlt]; exact hbk)))
           clear yk hk hkl hbk
           by_cases hlst : j + 1 = S.m
           · go_wp2_with fail
             refine HIL.out.mono ?_
             rintro e wz ⟨rfl, rfl⟩
             have hj1 : j + 1 = S.m := by omega
             have hlast : ¬ (j : Int) < (S.m : Int) - 1 := by omega
             have HNN := Lib.hid (newNode_leaf x v (some b) wq)
             go_wp2_with fail
             refine HNN.out.mono ?_
             rintro e w1 ⟨rfl, hw1⟩
             obtain ⟨bn, hbn⟩ : ∃ bn, wq.heap.size = bn := ⟨_, rfl⟩
             rw [hbn, show op (some bn) = pb bn from rfl]
             have HS1 : Hid (Same wq w1) := Lib.hid (by rw [hw1.out]; exact (Only.refl _ _).alloc _)
             have HNW : Hid (Nd w1 bn (item x v) none none (some b)) := Lib.hid (by rw [hw1.out, ← hbn]; exact heap_alloc_new _ _)
             have HBN : Hid (wq.heap.size ≤ bn) := Lib.hid (by omega)
             clear hw1 hbn t0 t2 t3 t4 lt tf r0 rl p1 lb9 fb
             have HG1 := Lib.hid (HGQ.out.1.still HS1.out)
             have hnb1 := HNB.out.still HS1.out
             have lb9 := hnb1.lt
             have fb := hnb1.fr
             have yb0 := hnb1.c0
             have t0 : w1.cell? ⟨tb, 0, none⟩ = some (.slice (some ⟨lb, 0, none⟩) S.m S.m) := block_cell HG1.out.obj.obj rfl
             have t2 : w1.cell? ⟨tb, 2, none⟩ = some (.int .u64 ((num : Nat) : Int)) := by have := HG1.out.obj.obj; rw [if_neg (by omega)] at this; exact block_cell this rfl
             have t4 : w1.cell? ⟨tb, 4, none⟩ = some (.int .u8 ((64 : Int) - (S.m : Int))) := block_cell HG1.out.obj.obj rfl
             have lt := lt_of_heap HG1.out.obj.obj
             have tf : ∀ i, w1.frozen? ⟨tb, i, none⟩ = false := fun i => block_free HG1.out.obj.obj
             have r0 := HG1.out.lay.row j hlt
             have rl := HG1.out.lay.lb
             have p1 := (TBQ.out.still HS1.out).2.1 t (by omega)
             have l1 := (TBQ.out.still HS1.out).2.2
             clear hnb1
             have hlay1 := HG1.out.lay
             go_upto_region 29 with fail
             obtain ⟨w2, hw2⟩ : ∃ w2, (w1.setCell ⟨tb, 2, none⟩ (.int .u64 ((num : Int) + 1))) = w2 := ⟨_, rfl⟩
             obtain ⟨w3, hw3⟩ : ∃ w3, w2.setCell ⟨b, 1, none⟩ (pb bn) = w3 := ⟨_, rfl⟩
             have HO2 : Hid (Only (fun k => k = tb) w1 w2 ∧ TObj w2 tb lb S.m root (if j + 1 = S.m then num + 1 else num) mn mx) := Lib.hid (by
               rw [← hw2]
               rw [if_pos hj1]
               have h8 := HG1.out.obj
               rw [if_neg (by omega)] at h8
               exact ⟨(Only.refl _ _).setCell ⟨tb, 2, none⟩ _ (fun _ => rfl), ⟨setCell_heap h8.obj 2 _⟩⟩)
             have HO3 : Hid (Only (fun k => k = tb ∨ k = b) w1 w3) := Lib.hid (by
               rw [← hw3]
               exact (HO2.out.1.mono (fun _ _ e => .inl e)).setCell _ _ (fun _ => .inr rfl))
             have HW3 : Hid (w2.setCell ⟨b, side S.m j x + 1, none⟩ (pb bn) = w3) := Lib.hid (by rw [hs]; exact hw3)
             have hlay3 : Lay w3 S.m lb md (lkg S.m S.lk D x nb j) := hlay1.keep HO3.out (fun e => by rcases e with e | e; exact dtl e.symm; exact dbl e.symm) (fun i hi e => by
               obtain ⟨f, h6, _⟩ := hlay1.maps i hi
               rcases e with e | e
               · exact (HG1.out.obj.ne_md h6) e.symm
               · exact ((HNB.out.still HS1.out).ne_md h6) e.symm)
             obtain ⟨f, hmf, hff⟩ := hlay3.maps j hlt
             have HLY3 := Lib.hid hlay3
             have HMF : Hid (MapN w3.drew (md j) f) := Lib.hid (hmf.of_heap rfl)
             have HFF := Lib.hid hff
             have HFN : Hid (f (cut S.m (j + 1) x) = none) := Lib.hid (by rw [hff x HD.out.lt, lkg_free HD.out HH.out.ok hDj hlt]; rfl)
             have hto3 := HO2.out.2
             rw [hw2, hw3]
             clear t0 t2 t4 lt tf r0 rl p1 l1 lb9 fb hw2
             have t0 : w3.cell? ⟨tb, 0, none⟩ = some (.slice (some ⟨lb, 0, none⟩) S.m S.m) := by rw [← hw3]; exact block_cell (hto3.keep ((Only.refl (fun k => k = b) w2).setCell ⟨b, 1, none⟩ _ (fun _ => rfl)) (fun e => dbt e.symm)).obj rfl
             have t4 : w3.cell? ⟨tb, 4, none⟩ = some (.int .u8 ((64 : Int) - (S.m : Int))) := by rw [← hw3]; exact block_cell (hto3.keep ((Only.refl (fun k => k = b) w2).setCell ⟨b, 1, none⟩ _ (fun _ => rfl)) (fun e => dbt e.symm)).obj rfl
             have lt : tb < w3.heap.size := Nat.lt_of_lt_of_le (lt_of_heap HG1.out.obj.obj) HO3.out.size
             have r0 := HLY3.out.row j hlt
             have rl := HLY3.out.lb
             have p1 : w3.cell? ⟨1, t, none⟩ = some (.int .u64 M) := by
               have h9 := (TBQ.out.still HS1.out).keep HO3.out (fun k hk e => by
                 rcases e with e | e
                 · exact (by have := HOWN.out k hk; exact this (.inl e))
                 · exact NB2 k hk e)
               rw [← HM9.out]; exact h9.2.1 t (by omega)
             have hlkb : lb < w3.heap.size := HLY3.out.lb
             obtain ⟨y, hy⟩ : ∃ y, cut S.m (j + 1) x = y := ⟨_, rfl⟩
             rw [hy] at hand2 HFN
             have HY := Lib.hid hy
             clear hto3 hw3 hlay3 hmf hff hlay1 hy
             go_cut [] (fun wx => Hid (MapN wx (md j) (fun k => if k = y then some (pb bn) else f k) ∧ w3.drew.grownBy wx (some (md j))))
             case first =>
               clear HG HGQ HNB HNO HNO0 HG1 HNW HBN HO2 HO3 HW3 TBQ HLY3 HS1 HOWN HLX HH HT HD HAS HT9 HM9 HFF HY NB2 dbt dbl dtl db0 dt0 HNN hs hs2
               obtain ⟨w5, hrun, hM5, hg5, hs5⟩ := HMF.out.update (P := Tryd.prog) (t := 109) Tryd.underlying25 Tryd.underlying109 y (pb bn) HFN.out
               have hrun2 : (Instr.mapUpdate 109 (.map (some (md j))) (.int .u64 (y : Int)) (pb bn)).run Tryd.prog w3.drew = .ok () w5 := hrun
               have HM5 := Lib.hid (And.intro hM5 hg5)
               clear hrun hM5 hg5 HMF HFN
               go_region
               all_goals
                 go_wp2_with fail
                 go_meet
                 exact HM5
             case rest =>
               obtain ⟨w5, hw5⟩ : ∃ w5, w5 = wc := ⟨_, rfl⟩
               rw [← hw5] at hcut ⊢
               have HGN : Hid (Gi w w5 S D x v (setN nb (j + 1) bn) (j + 1) tb lb root num md mn mx) := Lib.hid (by
                 refine HGQ.out.1.step HD.out HH.out.ok hDj hlt HGQ.out.2 HS1.out HBN.out (by rw [if_pos hj1]; exact HNW.out) HO2.out.1 HO2.out.2 (by rw [HW3.out]; exact (Only.refl _ _).drew) HMF.out HFF.out ?_ hcut.out.2
                 rw [HY.out]; exact hcut.out.1)
               have hlk := lkg_succ (lk := S.lk) (m := S.m) (x := x) (nb := nb) (b := bn) hDj
               have HLA : Hid (lkg S.m S.lk D x (setN nb (j + 1) bn) (j + 1) (j + 1) (pre S.m (j + 1) x) = some bn) := Lib.hid (by rw [hlk]; simp)
               have hlj : lkg S.m S.lk D x (setN nb (j + 1) bn) (j + 1) j (pre S.m j x) = some b := by
                 rw [hlk]
                 simp only []
                 rw [if_neg (by omega)]
                 exact HGQ.out.2
               have hnn : Nd w5 b .nilIface (chg S.m S.ch D x (setN nb (j + 1) bn) (j + 1) j (pre S.m j x) 0) (chg S.m S.ch D x (setN nb (j + 1) bn) (j + 1) j (pre S.m j x) 1) _ := Mem.inner (S := S.grow D x v (setN nb (j + 1) bn) (j + 1)) HGN.out.mem hlt hlj
               have hcc : chg S.m S.ch D x (setN nb (j + 1) bn) (j + 1) j (pre S.m j x) 0 = some bn := by
                 unfold chg
                 rw [if_pos ⟨hDj, Nat.lt_succ_self _, rfl, hs.symm⟩]
                 unfold setN
                 rw [if_pos rfl]
               have yz := hnn.c0
               rw [hcc] at yz
               have yz' : w5.cell? ⟨b, 1, none⟩ = some (pb bn) := yz
               have lbz := hnn.lt
               clear hw5 hcut hlk hlj hnn hcc yz t0 t4 r0 rl p1 hand2 hlkb lt HMF HFF HFN HY HLY3 HW3 HO3 HO2 HNW HBN HG1 HS1 HNN hw
               go_wp2_with fail
               go_roundw
               case rel => exact ⟨j + 1, bn, _, rfl, by go_num, by omega, by omega, Lib.hid ⟨HGN.out, HLA.out⟩⟩
               case measure => simp [intOf]; omega
           · go_wp2_with fail
             refine HIL.out.mono ?_
             rintro e wz ⟨rfl, rfl⟩
             have hj1 : j + 1 ≠ S.m := by omega
             have hlast : (j : Int) < (S.m : Int) - 1 := by omega
             have HNN := Lib.hid (newNode_in (some b) wq)
             go_wp2_with fail
             refine HNN.out.mono ?_
             rintro e w1 ⟨rfl, hw1⟩
             obtain ⟨bn, hbn⟩ : ∃ bn, wq.heap.size = bn := ⟨_, rfl⟩
             rw [hbn, show op (some bn) = pb bn from rfl]
             have HS1 : Hid (Same wq w1) := Lib.hid (by rw [hw1.out]; exact (Only.refl _ _).alloc _)
             have HNW : Hid (Nd w1 bn (.nilIface) none none (some b)) := Lib.hid (by rw [hw1.out, ← hbn]; exact heap_alloc_new _ _)
             have HBN : Hid (wq.heap.size ≤ bn) := Lib.hid (by omega)
             clear hw1 hbn t0 t2 t3 t4 lt tf r0 rl p1 lb9 fb
             have HG1 := Lib.hid (HGQ.out.1.still HS1.out)
             have hnb1 := HNB.out.still HS1.out
             have lb9 := hnb1.lt
             have fb := hnb1.fr
             have yb0 := hnb1.c0
             have t0 : w1.cell? ⟨tb, 0, none⟩ = some (.slice (some ⟨lb, 0, none⟩) S.m S.m) := block_cell HG1.out.obj.obj rfl
             have t2 : w1.cell? ⟨tb, 2, none⟩ = some (.int .u64 ((num : Nat) : Int)) := by have := HG1.out.obj.obj; rw [if_neg (by omega)] at this; exact block_cell this rfl
             have t4 : w1.cell? ⟨tb, 4, none⟩ = some (.int .u8 ((64 : Int) - (S.m : Int))) := block_cell HG1.out.obj.obj rfl
             have lt := lt_of_heap HG1.out.obj.obj
             have tf : ∀ i, w1.frozen? ⟨tb, i, none⟩ = false := fun i => block_free HG1.out.obj.obj
             have r0 := HG1.out.lay.row j hlt
             have rl := HG1.out.lay.lb
             have p1 := (TBQ.out.still HS1.out).2.1 t (by omega)
             have l1 := (TBQ.out.still HS1.out).2.2
             clear hnb1
             have hlay1 := HG1.out.lay
             go_upto_region 29 with fail
             obtain ⟨w2, hw2⟩ : ∃ w2, w1 = w2 := ⟨_, rfl⟩
             obtain ⟨w3, hw3⟩ : ∃ w3, w2.setCell ⟨b, 1, none⟩ (pb bn) = w3 := ⟨_, rfl⟩
             have HO2 : Hid (Only (fun k => k = tb) w1 w2 ∧ TObj w2 tb lb S.m root (if j + 1 = S.m then num + 1 else num) mn mx) := Lib.hid (by
               rw [← hw2]
               rw [if_neg hj1]
               have h8 := HG1.out.obj
               rw [if_neg (by omega)] at h8
               exact ⟨Only.refl _ _, h8⟩)
             have HO3 : Hid (Only (fun k => k = tb ∨ k = b) w1 w3) := Lib.hid (by
               rw [← hw3]
               exact (HO2.out.1.mono (fun _ _ e => .inl e)).setCell _ _ (fun _ => .inr rfl))
             have HW3 : Hid (w2.setCell ⟨b, side S.m j x + 1, none⟩ (pb bn) = w3) := Lib.hid (by rw [hs]; exact hw3)
             have hlay3 : Lay w3 S.m lb md (lkg S.m S.lk D x nb j) := hlay1.keep HO3.out (fun e => by rcases e with e | e; exact dtl e.symm; exact dbl e.symm) (fun i hi e => by
               obtain ⟨f, h6, _⟩ := hlay1.maps i hi
               rcases e with e | e
               · exact (HG1.out.obj.ne_md h6) e.symm
               · exact ((HNB.out.still HS1.out).ne_md h6) e.symm)
             obtain ⟨f, hmf, hff⟩ := hlay3.maps j hlt
             have HLY3 := Lib.hid hlay3
             have HMF : Hid (MapN w3.drew (md j) f) := Lib.hid (hmf.of_heap rfl)
             have HFF := Lib.hid hff
             have HFN : Hid (f (cut S.m (j + 1) x) = none) := Lib.hid (by rw [hff x HD.out.lt, lkg_free HD.out HH.out.ok hDj hlt]; rfl)
             have hto3 := HO2.out.2
             rw [hw2, hw3]
             clear t0 t2 t4 lt tf r0 rl p1 l1 lb9 fb hw2
             have t0 : w3.cell? ⟨tb, 0, none⟩ = some (.slice (some ⟨lb, 0, none⟩) S.m S.m) := by rw [← hw3]; exact block_cell (hto3.keep ((Only.refl (fun k => k = b) w2).setCell ⟨b, 1, none⟩ _ (fun _ => rfl)) (fun e => dbt e.symm)).obj rfl
             have t4 : w3.cell? ⟨tb, 4, none⟩ = some (.int .u8 ((64 : Int) - (S.m : Int))) := by rw [← hw3]; exact block_cell (hto3.keep ((Only.refl (fun k => k = b) w2).setCell ⟨b, 1, none⟩ _ (fun _ => rfl)) (fun e => dbt e.symm)).obj rfl
             have lt : tb < w3.heap.size := Nat.lt_of_lt_of_le (lt_of_heap HG1.out.obj.obj) HO3.out.size
             have r0 := HLY3.out.row j hlt
             have rl := HLY3.out.lb
             have p1 : w3.cell? ⟨1, t, none⟩ = some (.int .u64 M) := by
               have h9 := (TBQ.out.still HS1.out).keep HO3.out (fun k hk e => by
                 rcases e with e | e
                 · exact (by have := HOWN.out k hk; exact this (.inl e))
                 · exact NB2 k hk e)
               rw [← HM9.out]; exact h9.2.1 t (by omega)
             have hlkb : lb < w3.heap.size := HLY3.out.lb
             obtain ⟨y, hy⟩ : ∃ y, cut S.m (j + 1) x = y := ⟨_, rfl⟩
             rw [hy] at hand2 HFN
             have HY := Lib.hid hy
             clear hto3 hw3 hlay3 hmf hff hlay1 hy
             go_cut [] (fun wx => Hid (MapN wx (md j) (fun k => if k = y then some (pb bn) else f k) ∧ w3.drew.grownBy wx (some (md j))))
             case first =>
               clear HG HGQ HNB HNO HNO0 HG1 HNW HBN HO2 HO3 HW3 TBQ HLY3 HS1 HOWN HLX HH HT HD HAS HT9 HM9 HFF HY NB2 dbt dbl dtl db0 dt0 HNN hs hs2
               obtain ⟨w5, hrun, hM5, hg5, hs5⟩ := HMF.out.update (P := Tryd.prog) (t := 109) Tryd.underlying25 Tryd.underlying109 y (pb bn) HFN.out
               have hrun2 : (Instr.mapUpdate 109 (.map (some (md j))) (.int .u64 (y : Int)) (pb bn)).run Tryd.prog w3.drew = .ok () w5 := hrun
               have HM5 := Lib.hid (And.intro hM5 hg5)
               clear hrun hM5 hg5 HMF HFN
               go_region
               all_goals
                 go_wp2_with fail
                 go_meet
                 exact HM5
             case rest =>
               obtain ⟨w5, hw5⟩ : ∃ w5, w5 = wc := ⟨_, rfl⟩
               rw [← hw5] at hcut ⊢
               have HGN : Hid (Gi w w5 S D x v (setN nb (j + 1) bn) (j + 1) tb lb root num md mn mx) := Lib.hid (by
                 refine HGQ.out.1.step HD.out HH.out.ok hDj hlt HGQ.out.2 HS1.out HBN.out (by rw [if_neg hj1]; exact HNW.out) HO2.out.1 HO2.out.2 (by rw [HW3.out]; exact (Only.refl _ _).drew) HMF.out HFF.out ?_ hcut.out.2
                 rw [HY.out]; exact hcut.out.1)
               have hlk := lkg_succ (lk := S.lk) (m := S.m) (x := x) (nb := nb) (b := bn) hDj
               have HLA : Hid (lkg S.m S.lk D x (setN nb (j + 1) bn) (j + 1) (j + 1) (pre S.m (j + 1) x) = some bn) := Lib.hid (by rw [hlk]; simp)
               have hlj : lkg S.m S.lk D x (setN nb (j + 1) bn) (j + 1) j (pre S.m j x) = some b := by
                 rw [hlk]
                 simp only []
                 rw [if_neg (by omega)]
                 exact HGQ.out.2
               have hnn : Nd w5 b .nilIface (chg S.m S.ch D x (setN nb (j + 1) bn) (j + 1) j (pre S.m j x) 0) (chg S.m S.ch D x (setN nb (j + 1) bn) (j + 1) j (pre S.m j x) 1) _ := Mem.inner (S := S.grow D x v (setN nb (j + 1) bn) (j + 1)) HGN.out.mem hlt hlj
               have hcc : chg S.m S.ch D x (setN nb (j + 1) bn) (j + 1) j (pre S.m j x) 0 = some bn := by
                 unfold chg
                 rw [if_pos ⟨hDj, Nat.lt_succ_self _, rfl, hs.symm⟩]
                 unfold setN
                 rw [if_pos rfl]
               have yz := hnn.c0
               rw [hcc] at yz
               have yz' : w5.cell? ⟨b, 1, none⟩ = some (pb bn) := yz
               have lbz := hnn.lt
               clear hw5 hcut hlk hlj hnn hcc yz t0 t4 r0 rl p1 hand2 hlkb lt HMF HFF HFN HY HLY3 HW3 HO3 HO2 HNW HBN HG1 HS1 HNN hw
               go_wp2_with fail
               go_roundw
               case rel => exact ⟨j + 1, bn, _, rfl, by go_num, by omega, by omega, Lib.hid ⟨HGN.out, HLA.out⟩⟩
               case measure => simp [intOf]; omega
       · have hs : side S.m j x = 1 := by omega
         rw [hs]
         have yk := HNB.out.c1
         have HNO0 := Lib.hid HNO.out
         rw [hs] at HNO0
         rcases HNO0.out with hk | ⟨k, hk, hkl⟩
         · rw [hk] at yk
           have yk' : wq.cell? ⟨b, 2, none⟩ = some (.pointer none) := yk
           clear yk hk
           by_cases hlst : j + 1 = S.m
           · have hj1 : j + 1 = S.m := by omega
             have hlast : ¬ (j : Int) < (S.m : Int) - 1 := by omega
             have HNN := Lib.hid (newNode_leaf x v (some b) wq)
             go_wp2_with fail
             refine HNN.out.mono ?_
             rintro e w1 ⟨rfl, hw1⟩
             obtain ⟨bn, hbn⟩ : ∃ bn, wq.heap.size = bn := ⟨_, rfl⟩
             rw [hbn, show op (some bn) = pb bn from rfl]
             have HS1 : Hid (Same wq w1) := Lib.hid (by rw [hw1.out]; exact (Only.refl _ _).alloc _)
             have HNW : Hid (Nd w1 bn (item x v) none none (some b)) := Lib.hid (by rw [hw1.out, ← hbn]; exact heap_alloc_new _ _)
             have HBN : Hid (wq.heap.size ≤ bn) := Lib.hid (by omega)
             clear hw1 hbn t0 t2 t3 t4 lt tf r0 rl p1 lb9 fb
             have HG1 := Lib.hid (HGQ.out.1.still HS1.out)
             have hnb1 := HNB.out.still HS1.out
             have lb9 := hnb1.lt
             have fb := hnb1.fr
             have yb1 := hnb1.c1
             have t0 : w1.cell? ⟨tb, 0, none⟩ = some (.slice (some ⟨lb, 0, none⟩) S.m S.m) := block_cell HG1.out.obj.obj rfl
             have t2 : w1.cell? ⟨tb, 2, none⟩ = some (.int .u64 ((num : Nat) : Int)) := by have := HG1.out.obj.obj; rw [if_neg (by omega)] at this; exact block_cell this rfl
             have t4 : w1.cell? ⟨tb, 4, none⟩ = some (.int .u8 ((64 : Int) - (S.m : Int))) := block_cell HG1.out.obj.obj rfl
             have lt := lt_of_heap HG1.out.obj.obj
             have tf : ∀ i, w1.frozen? ⟨tb, i, none⟩ = false := fun i => block_free HG1.out.obj.obj
             have r0 := HG1.out.lay.row j hlt
             have rl := HG1.out.lay.lb
             have p1 := (TBQ.out.still HS1.out).2.1 t (by omega)
             have l1 := (TBQ.out.still HS1.out).2.2
             clear hnb1
             have hlay1 := HG1.out.lay
             go_upto_region 29 with fail
             obtain ⟨w2, hw2⟩ : ∃ w2, (w1.setCell ⟨tb, 2, none⟩ (.int .u64 ((num : Int) + 1))) = w2 := ⟨_, rfl⟩
             obtain ⟨w3, hw3⟩ : ∃ w3, w2.setCell ⟨b, 2, none⟩ (pb bn) = w3 := ⟨_, rfl⟩
             have HO2 : Hid (Only (fun k => k = tb) w1 w2 ∧ TObj w2 tb lb S.m root (if j + 1 = S.m then num + 1 else num) mn mx) := Lib.hid (by
               rw [← hw2]
               rw [if_pos hj1]
               have h8 := HG1.out.obj
               rw [if_neg (by omega)] at h8
               exact ⟨(Only.refl _ _).setCell ⟨tb, 2, none⟩ _ (fun _ => rfl), ⟨setCell_heap h8.obj 2 _⟩⟩)
             have HO3 : Hid (Only (fun k => k = tb ∨ k = b) w1 w3) := Lib.hid (by
               rw [← hw3]
               exact (HO2.out.1.mono (fun _ _ e => .inl e)).setCell _ _ (fun _ => .inr rfl))
             have HW3 : Hid (w2.setCell ⟨b, side S.m j x + 1, none⟩ (pb bn) = w3) := Lib.hid (by rw [hs]; exact hw3)
             have hlay3 : Lay w3 S.m lb md (lkg S.m S.lk D x nb j) := hlay1.keep HO3.out (fun e => by rcases e with e | e; exact dtl e.symm; exact dbl e.symm) (fun i hi e => by
               obtain ⟨f, h6, _⟩ := hlay1.maps i hi
               rcases e with e | e
               · exact (HG1.out.obj.ne_md h6) e.symm
               · exact ((HNB.out.still HS1.out).ne_md h6) e.symm)
             obtain ⟨f, hmf, hff⟩ := hlay3.maps j hlt
             have HLY3 := Lib.hid hlay3
             have HMF : Hid (MapN w3.drew (md j) f) := Lib.hid (hmf.of_heap rfl)
             have HFF := Lib.hid hff
             have HFN : Hid (f (cut S.m (j + 1) x) = none) := Lib.hid (by rw [hff x HD.out.lt, lkg_free HD.out HH.out.ok hDj hlt]; rfl)
             have hto3 := HO2.out.2
             rw [hw2, hw3]
             clear t0 t2 t4 lt tf r0 rl p1 l1 lb9 fb hw2
             have t0 : w3.cell? ⟨tb, 0, none⟩ = some (.slice (some ⟨lb, 0, none⟩) S.m S.m) := by rw [← hw3]; exact block_cell (hto3.keep ((Only.refl (fun k => k = b) w2).setCell ⟨b, 2, none⟩ _ (fun _ => rfl)) (fun e => dbt e.symm)).obj rfl
             have t4 : w3.cell? ⟨tb, 4, none⟩ = some (.int .u8 ((64 : Int) - (S.m : Int))) := by rw [← hw3]; exact block_cell (hto3.keep ((Only.refl (fun k => k = b) w2).setCell ⟨b, 2, none⟩ _ (fun _ => rfl)) (fun e => dbt e.symm)).obj rfl
             have lt : tb < w3.heap.size := Nat.lt_of_lt_of_le (lt_of_heap HG1.out.obj.obj) HO3.out.size
             have r0 := HLY3.out.row j hlt
             have rl := HLY3.out.lb
             have p1 : w3.cell? ⟨1, t, none⟩ = some (.int .u64 M) := by
               have h9 := (TBQ.out.still HS1.out).keep HO3.out (fun k hk e => by
                 rcases e with e | e
                 · exact (by have := HOWN.out k hk; exact this (.inl e))
                 · exact NB2 k hk e)
               rw [← HM9.out]; exact h9.2.1 t (by omega)
             have hlkb : lb < w3.heap.size := HLY3.out.lb
             obtain ⟨y, hy⟩ : ∃ y, cut S.m (j + 1) x = y := ⟨_, rfl⟩
             rw [hy] at hand2 HFN
             have HY := Lib.hid hy
             clear hto3 hw3 hlay3 hmf hff hlay1 hy
             go_cut [] (fun wx => Hid (MapN wx (md j) (fun k => if k = y then some (pb bn) else f k) ∧ w3.drew.grownBy wx (some (md j))))
             case first =>
               clear HG HGQ HNB HNO HNO0 HG1 HNW HBN HO2 HO3 HW3 TBQ HLY3 HS1 HOWN HLX HH HT HD HAS HT9 HM9 HFF HY NB2 dbt dbl dtl db0 dt0 HNN hs hs2
               obtain ⟨w5, hrun, hM5, hg5, hs5⟩ := HMF.out.update (P := Tryd.prog) (t := 109) Tryd.underlying25 Tryd.underlying109 y (pb bn) HFN.out
               have hrun2 : (Instr.mapUpdate 109 (.map (some (md j))) (.int .u64 (y : Int)) (pb bn)).run Tryd.prog w3.drew = .ok () w5 := hrun
               have HM5 := Lib.hid (And.intro hM5 hg5)
               clear hrun hM5 hg5 HMF HFN
               go_region
               all_goals
                 go_wp2_with fail
                 go_meet
                 exact HM5
             case rest =>
               obtain ⟨w5, hw5⟩ : ∃ w5, w5 = wc := ⟨_, rfl⟩
               rw [← hw5] at hcut ⊢
               have HGN : Hid (Gi w w5 S D x v (setN nb (j + 1) bn) (j + 1) tb lb root num md mn mx) := Lib.hid (by
                 refine HGQ.out.1.step HD.out HH.out.ok hDj hlt HGQ.out.2 HS1.out HBN.out (by rw [if_pos hj1]; exact HNW.out) HO2.out.1 HO2.out.2 (by rw [HW3.out]; exact (Only.refl _ _).drew) HMF.out HFF.out ?_ hcut.out.2
                 rw [HY.out]; exact hcut.out.1)
               have hlk := lkg_succ (lk := S.lk) (m := S.m) (x := x) (nb := nb) (b := bn) hDj
               have HLA : Hid (lkg S.m S.lk D x (setN nb (j + 1) bn) (j + 1) (j + 1) (pre S.m (j + 1) x) = some bn) := Lib.hid (by rw [hlk]; simp)
               have hlj : lkg S.m S.lk D x (setN nb (j + 1) bn) (j + 1) j (pre S.m j x) = some b := by
                 rw [hlk]
                 simp only []
                 rw [if_neg (by omega)]
                 exact HGQ.out.2
               have hnn : Nd w5 b .nilIface (chg S.m S.ch D x (setN nb (j + 1) bn) (j + 1) j (pre S.m j x) 0) (chg S.m S.ch D x (setN nb (j + 1) bn) (j + 1) j (pre S.m j x) 1) _ := Mem.inner (S := S.grow D x v (setN nb (j + 1) bn) (j + 1)) HGN.out.mem hlt hlj
               have hcc : chg S.m S.ch D x (setN nb (j + 1) bn) (j + 1) j (pre S.m j x) 1 = some bn := by
                 unfold chg
                 rw [if_pos ⟨hDj, Nat.lt_succ_self _, rfl, hs.symm⟩]
                 unfold setN
                 rw [if_pos rfl]
               have yz := hnn.c1
               rw [hcc] at yz
               have yz' : w5.cell? ⟨b, 2, none⟩ = some (pb bn) := yz
               have lbz := hnn.lt
               clear hw5 hcut hlk hlj hnn hcc yz t0 t4 r0 rl p1 hand2 hlkb lt HMF HFF HFN HY HLY3 HW3 HO3 HO2 HNW HBN HG1 HS1 HNN hw
               go_wp2_with fail
               go_roundw
               case rel => exact ⟨j + 1, bn, _, rfl, by go_num, by omega, by omega, Lib.hid ⟨HGN.out, HLA.out⟩⟩
               case measure => simp [intOf]; omega
           · have hj1 : j + 1 ≠ S.m := by omega
             have hlast : (j : Int) < (S.m : Int) - 1 := by omega
             have HNN := Lib.hid (newNode_in (some b) wq)
             go_wp2_with fail
             refine HNN.out.mono ?_
             rintro e w1 ⟨rfl, hw1⟩
             obtain ⟨bn, hbn⟩ : ∃ bn, wq.heap.size = bn := ⟨_, rfl⟩
             rw [hbn, show op (some bn) = pb bn from rfl]
             have HS1 : Hid (Same wq w1) := Lib.hid (by rw [hw1.out]; exact (Only.refl _ _).alloc _)
             have HNW : Hid (Nd w1 bn (.nilIface) none none (some b)) := Lib.hid (by rw [hw1.out, ← hbn]; exact heap_alloc_new _ _)
             have HBN : Hid (wq.heap.size ≤ bn) := Lib.hid (by omega)
             clear hw1 hbn t0 t2 t3 t4 lt tf r0 rl p1 lb9 fb
             have HG1 := Lib.hid (HGQ.out.1.still HS1.out)
             have hnb1 := HNB.out.still HS1.out
             have lb9 := hnb1.lt
             have fb := hnb1.fr
             have yb1 := hnb1.c1
             have t0 : w1.cell? ⟨tb, 0, none⟩ = some (.slice (some ⟨lb, 0, none⟩) S.m S.m) := block_cell HG1.out.obj.obj rfl
             have t2 : w1.cell? ⟨tb, 2, none⟩ = some (.int .u64 ((num : Nat) : Int)) := by have := HG1.out.obj.obj; rw [if_neg (by omega)] at this; exact block_cell this rfl
             have t4 : w1.cell? ⟨tb, 4, none⟩ = some (.int .u8 ((64 : Int) - (S.m : Int))) := block_cell HG1.out.obj.obj rfl
             have lt := lt_of_heap HG1.out.obj.obj
             have tf : ∀ i, w1.frozen? ⟨tb, i, none⟩ = false := fun i => block_free HG1.out.obj.obj
             have r0 := HG1.out.lay.row j hlt
             have rl := HG1.out.lay.lb
             have p1 := (TBQ.out.still HS1.out).2.1 t (by omega)
             have l1 := (TBQ.out.still HS1.out).2.2
             clear hnb1
             have hlay1 := HG1.out.lay
             go_upto_region 29 with fail
             obtain ⟨w2, hw2⟩ : ∃ w2, w1 = w2 := ⟨_, rfl⟩
             obtain ⟨w3, hw3⟩ : ∃ w3, w2.setCell ⟨b, 2, none⟩ (pb bn) = w3 := ⟨_, rfl⟩
             have HO2 : Hid (Only (fun k => k = tb) w1 w2 ∧ TObj w2 tb lb S.m root (if j + 1 = S.m then num + 1 else num) mn mx) := Lib.hid (by
               rw [← hw2]
               rw [if_neg hj1]
               have h8 := HG1.out.obj
               rw [if_neg (by omega)] at h8
               exact ⟨Only.refl _ _, h8⟩)
             have HO3 : Hid (Only (fun k => k = tb ∨ k = b) w1 w3) := Lib.hid (by
               rw [← hw3]
               exact (HO2.out.1.mono (fun _ _ e => .inl e)).setCell _ _ (fun _ => .inr rfl))
             have HW3 : Hid (w2.setCell ⟨b, side S.m j x + 1, none⟩ (pb bn) = w3) := Lib.hid (by rw [hs]; exact hw3)
             have hlay3 : Lay w3 S.m lb md (lkg S.m S.lk D x nb j) := hlay1.keep HO3.out (fun e => by rcases e with e | e; exact dtl e.symm; exact dbl e.symm) (fun i hi e => by
               obtain ⟨f, h6, _⟩ := hlay1.maps i hi
               rcases e with e | e
               · exact (HG1.out.obj.ne_md h6) e.symm
               · exact ((HNB.out.still HS1.out).ne_md h6) e.symm)
             obtain ⟨f, hmf, hff⟩ := hlay3.maps j hlt
             have HLY3 := Lib.hid hlay3
             have HMF : Hid (MapN w3.drew (md j) f) := Lib.hid (hmf.of_heap rfl)
             have HFF := Lib.hid hff
             have HFN : Hid (f (cut S.m (j + 1) x) = none) := Lib.hid (by rw [hff x HD.out.lt, lkg_free HD.out HH.out.ok hDj hlt]; rfl)
             have hto3 := HO2.out.2
             rw [hw2, hw3]
             clear t0 t2 t4 lt tf r0 rl p1 l1 lb9 fb hw2
             have t0 : w3.cell? ⟨tb, 0, none⟩ = some (.slice (some ⟨lb, 0, none⟩) S.m S.m) := by rw [← hw3]; exact block_cell (hto3.keep ((Only.refl (fun k => k = b) w2).setCell ⟨b, 2, none⟩ _ (fun _ => rfl)) (fun e => dbt e.symm)).obj rfl
             have t4 : w3.cell? ⟨tb, 4, none⟩ = some (.int .u8 ((64 : Int) - (S.m : Int))) := by rw [← hw3]; exact block_cell (hto3.keep ((Only.refl (fun k => k = b) w2).setCell ⟨b, 2, none⟩ _ (fun _ => rfl)) (fun e => dbt e.symm)).obj rfl
             have lt : tb < w3.heap.size := Nat.lt_of_lt_of_le (lt_of_heap HG1.out.obj.obj) HO3.out.size
             have r0 := HLY3.out.row j hlt
             have rl := HLY3.out.lb
             have p1 : w3.cell? ⟨1, t, none⟩ = some (.int .u64 M) := by
               have h9 := (TBQ.out.still HS1.out).keep HO3.out (fun k hk e => by
                 rcases e with e | e
                 · exact (by have := HOWN.out k hk; exact this (.inl e))
                 · exact NB2 k hk e)
               rw [← HM9.out]; exact h9.2.1 t (by omega)
             have hlkb : lb < w3.heap.size := HLY3.out.lb
             obtain ⟨y, hy⟩ : ∃ y, cut S.m (j + 1) x = y := ⟨_, rfl⟩
             rw [hy] at hand2 HFN
             have HY := Lib.hid hy
             clear hto3 hw3 hlay3 hmf hff hlay1 hy
             go_cut [] (fun wx => Hid (MapN wx (md j) (fun k => if k = y then some (pb bn) else f k) ∧ w3.drew.grownBy wx (some (md j))))
             case first =>
               clear HG HGQ HNB HNO HNO0 HG1 HNW HBN HO2 HO3 HW3 TBQ HLY3 HS1 HOWN HLX HH HT HD HAS HT9 HM9 HFF HY NB2 dbt dbl dtl db0 dt0 HNN hs hs2
               obtain ⟨w5, hrun, hM5, hg5, hs5⟩ := HMF.out.update (P := Tryd.prog) (t := 109) Tryd.underlying25 Tryd.underlying109 y (pb bn) HFN.out
               have hrun2 : (Instr.mapUpdate 109 (.map (some (md j))) (.int .u64 (y : Int)) (pb bn)).run Tryd.prog w3.drew = .ok () w5 := hrun
               have HM5 := Lib.hid (And.intro hM5 hg5)
               clear hrun hM5 hg5 HMF HFN
               go_region
               all_goals
                 go_wp2_with fail
                 go_meet
                 exact HM5
             case rest =>
               obtain ⟨w5, hw5⟩ : ∃ w5, w5 = wc := ⟨_, rfl⟩
               rw [← hw5] at hcut ⊢
               have HGN : Hid (Gi w w5 S D x v (setN nb (j + 1) bn) (j + 1) tb lb root num md mn mx) := Lib.hid (by
                 refine HGQ.out.1.step HD.out HH.out.ok hDj hlt HGQ.out.2 HS1.out HBN.out (by rw [if_neg hj1]; exact HNW.out) HO2.out.1 HO2.out.2 (by rw [HW3.out]; exact (Only.refl _ _).drew) HMF.out HFF.out ?_ hcut.out.2
                 rw [HY.out]; exact hcut.out.1)
               have hlk := lkg_succ (lk := S.lk) (m := S.m) (x := x) (nb := nb) (b := bn) hDj
               have HLA : Hid (lkg S.m S.lk D x (setN nb (j + 1) bn) (j + 1) (j + 1) (pre S.m (j + 1) x) = some bn) := Lib.hid (by rw [hlk]; simp)
               have hlj : lkg S.m S.lk D x (setN nb (j + 1) bn) (j + 1) j (pre S.m j x) = some b := by
                 rw [hlk]
                 simp only []
                 rw [if_neg (by omega)]
                 exact HGQ.out.2
               have hnn : Nd w5 b .nilIface (chg S.m S.ch D x (setN nb (j + 1) bn) (j + 1) j (pre S.m j x) 0) (chg S.m S.ch D x (setN nb (j + 1) bn) (j + 1) j (pre S.m j x) 1) _ := Mem.inner (S := S.grow D x v (setN nb (j + 1) bn) (j + 1)) HGN.out.mem hlt hlj
               have hcc : chg S.m S.ch D x (setN nb (j + 1) bn) (j + 1) j (pre S.m j x) 1 = some bn := by
                 unfold chg
                 rw [if_pos ⟨hDj, Nat.lt_succ_self _, rfl, hs.symm⟩]
                 unfold setN
                 rw [if_pos rfl]
               have yz := hnn.c1
               rw [hcc] at yz
               have yz' : w5.cell? ⟨b, 2, none⟩ = some (pb bn) := yz
               have lbz := hnn.lt
               clear hw5 hcut hlk hlj hnn hcc yz t0 t4 r0 rl p1 hand2 hlkb lt HMF HFF HFN HY HLY3 HW3 HO3 HO2 HNW HBN HG1 HS1 HNN hw
               go_wp2_with fail
               go_roundw
               case rel => exact ⟨j + 1, bn, _, rfl, by go_num, by omega, by omega, Lib.hid ⟨HGN.out, HLA.out⟩⟩
               case measure => simp [intOf]; omega
         · obtain ⟨bk, hbk⟩ := hk.get
           rw [hkl, hbk] at yk
           have yk' : wq.cell? ⟨b, 2, none⟩ = some (pb bk) := yk
           have HIL : Hid (Calls Tryd.prog 65 #[op (some bk)] wq fun en w' => en = .returned (.bool true) ∧ wq = w') := Lib.hid (isLeaf_leaf wq bk k _ _ _ _ (Mem.leaf (S := S.grow D x v nb j) HGQ.out.1.mem (by show lkg S.m S.lk D x nb j S.m k = some bk; rw [lkg_leaf hlt]; exact hbk)))
           clear yk hk hkl hbk
           by_cases hlst : j + 1 = S.m
           · go_wp2_with fail
             refine HIL.out.mono ?_
             rintro e wz ⟨rfl, rfl⟩
             have hj1 : j + 1 = S.m := by omega
             have hlast : ¬ (j : Int) < (S.m : Int) - 1 := by omega
             have HNN := Lib.hid (newNode_leaf x v (some b) wq)
             go_wp2_with fail
             refine HNN.out.mono ?_
             rintro e w1 ⟨rfl, hw1⟩
             obtain ⟨bn, hbn⟩ : ∃ bn, wq.heap.size = bn := ⟨_, rfl⟩
             rw [hbn, show op (some bn) = pb bn from rfl]
             have HS1 : Hid (Same wq w1) := Lib.hid (by rw [hw1.out]; exact (Only.refl _ _).alloc _)
             have HNW : Hid (Nd w1 bn (item x v) none none (some b)) := Lib.hid (by rw [hw1.out, ← hbn]; exact heap_alloc_new _ _)
             have HBN : Hid (wq.heap.size ≤ bn) := Lib.hid (by omega)
             clear hw1 hbn t0 t2 t3 t4 lt tf r0 rl p1 lb9 fb
             have HG1 := Lib.hid (HGQ.out.1.still HS1.out)
             have hnb1 := HNB.out.still HS1.out
             have lb9 := hnb1.lt
             have fb := hnb1.fr
             have yb1 := hnb1.c1
             have t0 : w1.cell? ⟨tb, 0, none⟩ = some (.slice (some ⟨lb, 0, none⟩) S.m S.m) := block_cell HG1.out.obj.obj rfl
             have t2 : w1.cell? ⟨tb, 2, none⟩ = some (.int .u64 ((num : Nat) : Int)) := by have := HG1.out.obj.obj; rw [if_neg (by omega)] at this; exact block_cell this rfl
             have t4 : w1.cell? ⟨tb, 4, none⟩ = some (.int .u8 ((64 : Int) - (S.m : Int))) := block_cell HG1.out.obj.obj rfl
             have lt := lt_of_heap HG1.out.obj.obj
             have tf : ∀ i, w1.frozen? ⟨tb, i, none⟩ = false := fun i => block_free HG1.out.obj.obj
             have r0 := HG1.out.lay.row j hlt
             have rl := HG1.out.lay.lb
             have p1 := (TBQ.out.still HS1.out).2.1 t (by omega)
             have l1 := (TBQ.out.still HS1.out).2.2
             clear hnb1
             have hlay1 := HG1.out.lay
             go_upto_region 29 with fail
             obtain ⟨w2, hw2⟩ : ∃ w2, (w1.setCell ⟨tb, 2, none⟩ (.int .u64 ((num : Int) + 1))) = w2 := ⟨_, rfl⟩
             obtain ⟨w3, hw3⟩ : ∃ w3, w2.setCell ⟨b, 2, none⟩ (pb bn) = w3 := ⟨_, rfl⟩
             have HO2 : Hid (Only (fun k => k = tb) w1 w2 ∧ TObj w2 tb lb S.m root (if j + 1 = S.m then num + 1 else num) mn mx) := Lib.hid (by
               rw [← hw2]
               rw [if_pos hj1]
               have h8 := HG1.out.obj
               rw [if_neg (by omega)] at h8
               exact ⟨(Only.refl _ _).setCell ⟨tb, 2, none⟩ _ (fun _ => rfl), ⟨setCell_heap h8.obj 2 _⟩⟩)
             have HO3 : Hid (Only (fun k => k = tb ∨ k = b) w1 w3) := Lib.hid (by
               rw [← hw3]
               exact (HO2.out.1.mono (fun _ _ e => .inl e)).setCell _ _ (fun _ => .inr rfl))
             have HW3 : Hid (w2.setCell ⟨b, side S.m j x + 1, none⟩ (pb bn) = w3) := Lib.hid (by rw [hs]; exact hw3)
             have hlay3 : Lay w3 S.m lb md (lkg S.m S.lk D x nb j) := hlay1.keep HO3.out (fun e => by rcases e with e | e; exact dtl e.symm; exact dbl e.symm) (fun i hi e => by
               obtain ⟨f, h6, _⟩ := hlay1.maps i hi
               rcases e with e | e
               · exact (HG1.out.obj.ne_md h6) e.symm
               · exact ((HNB.out.still HS1.out).ne_md h6) e.symm)
             obtain ⟨f, hmf, hff⟩ := hlay3.maps j hlt
             have HLY3 := Lib.hid hlay3
             have HMF : Hid (MapN w3.drew (md j) f) := Lib.hid (hmf.of_heap rfl)
             have HFF := Lib.hid hff
             have HFN : Hid (f (cut S.m (j + 1) x) = none) := Lib.hid (by rw [hff x HD.out.lt, lkg_free HD.out HH.out.ok hDj hlt]; rfl)
             have hto3 := HO2.out.2
             rw [hw2, hw3]
             clear t0 t2 t4 lt tf r0 rl p1 l1 lb9 fb hw2
             have t0 : w3.cell? ⟨tb, 0, none⟩ = some (.slice (some ⟨lb, 0, none⟩) S.m S.m) := by rw [← hw3]; exact block_cell (hto3.keep ((Only.refl (fun k => k = b) w2).setCell ⟨b, 2, none⟩ _ (fun _ => rfl)) (fun e => dbt e.symm)).obj rfl
             have t4 : w3.cell? ⟨tb, 4, none⟩ = some (.int .u8 ((64 : Int) - (S.m : Int))) := by rw [← hw3]; exact block_cell (hto3.keep ((Only.refl (fun k => k = b) w2).setCell ⟨b, 2, none⟩ _ (fun _ => rfl)) (fun e => dbt e.symm)).obj rfl
             have lt : tb < w3.heap.size := Nat.lt_of_lt_of_le (lt_of_heap HG1.out.obj.obj) HO3.out.size
             have r0 := HLY3.out.row j hlt
             have rl := HLY3.out.lb
             have p1 : w3.cell? ⟨1, t, none⟩ = some (.int .u64 M) := by
               have h9 := (TBQ.out.still HS1.out).keep HO3.out (fun k hk e => by
                 rcases e with e | e
                 · exact (by have := HOWN.out k hk; exact this (.inl e))
                 · exact NB2 k hk e)
               rw [← HM9.out]; exact h9.2.1 t (by omega)
             have hlkb : lb < w3.heap.size := HLY3.out.lb
             obtain ⟨y, hy⟩ : ∃ y, cut S.m (j + 1) x = y := ⟨_, rfl⟩
             rw [hy] at hand2 HFN
             have HY := Lib.hid hy
             clear hto3 hw3 hlay3 hmf hff hlay1 hy
             go_cut [] (fun wx => Hid (MapN wx (md j) (fun k => if k = y then some (pb bn) else f k) ∧ w3.drew.grownBy wx (some (md j))))
             case first =>
               clear HG HGQ HNB HNO HNO0 HG1 HNW HBN HO2 HO3 HW3 TBQ HLY3 HS1 HOWN HLX HH HT HD HAS HT9 HM9 HFF HY NB2 dbt dbl dtl db0 dt0 HNN hs hs2
               obtain ⟨w5, hrun, hM5, hg5, hs5⟩ := HMF.out.update (P := Tryd.prog) (t := 109) Tryd.underlying25 Tryd.underlying109 y (pb bn) HFN.out
               have hrun2 : (Instr.mapUpdate 109 (.map (some (md j))) (.int .u64 (y : Int)) (pb bn)).run Tryd.prog w3.drew = .ok () w5 := hrun
               have HM5 := Lib.hid (And.intro hM5 hg5)
               clear hrun hM5 hg5 HMF HFN
               go_region
               all_goals
                 go_wp2_with fail
                 go_meet
                 exact HM5
             case rest =>
               obtain ⟨w5, hw5⟩ : ∃ w5, w5 = wc := ⟨_, rfl⟩
               rw [← hw5] at hcut ⊢
               have HGN : Hid (Gi w w5 S D x v (setN nb (j + 1) bn) (j + 1) tb lb root num md mn mx) := Lib.hid (by
                 refine HGQ.out.1.step HD.out HH.out.ok hDj hlt HGQ.out.2 HS1.out HBN.out (by rw [if_pos hj1]; exact HNW.out) HO2.out.1 HO2.out.2 (by rw [HW3.out]; exact (Only.refl _ _).drew) HMF.out HFF.out ?_ hcut.out.2
                 rw [HY.out]; exact hcut.out.1)
               have hlk := lkg_succ (lk := S.lk) (m := S.m) (x := x) (nb := nb) (b := bn) hDj
               have HLA : Hid (lkg S.m S.lk D x (setN nb (j + 1) bn) (j + 1) (j + 1) (pre S.m (j + 1) x) = some bn) := Lib.hid (by rw [hlk]; simp)
               have hlj : lkg S.m S.lk D x (setN nb (j + 1) bn) (j + 1) j (pre S.m j x) = some b := by
                 rw [hlk]
                 simp only []
                 rw [if_neg (by omega)]
                 exact HGQ.out.2
               have hnn : Nd w5 b .nilIface (chg S.m S.ch D x (setN nb (j + 1) bn) (j + 1) j (pre S.m j x) 0) (chg S.m S.ch D x (setN nb (j + 1) bn) (j + 1) j (pre S.m j x) 1) _ := Mem.inner (S := S.grow D x v (setN nb (j + 1) bn) (j + 1)) HGN.out.mem hlt hlj
               have hcc : chg S.m S.ch D x (setN nb (j + 1) bn) (j + 1) j (pre S.m j x) 1 = some bn := by
                 unfold chg
                 rw [if_pos ⟨hDj, Nat.lt_succ_self _, rfl, hs.symm⟩]
                 unfold setN
                 rw [if_pos rfl]
               have yz := hnn.c1
               rw [hcc] at yz
               have yz' : w5.cell? ⟨b, 2, none⟩ = some (pb bn) := yz
               have lbz := hnn.lt
               clear hw5 hcut hlk hlj hnn hcc yz t0 t4 r0 rl p1 hand2 hlkb lt HMF HFF HFN HY HLY3 HW3 HO3 HO2 HNW HBN HG1 HS1 HNN hw
               go_wp2_with fail
               go_roundw
               case rel => exact ⟨j + 1, bn, _, rfl, by go_num, by omega, by omega, Lib.hid ⟨HGN.out, HLA.out⟩⟩
               case measure => simp [intOf]; omega
           · go_wp2_with fail
             refine HIL.out.mono ?_
             rintro e wz ⟨rfl, rfl⟩
             have hj1 : j + 1 ≠ S.m := by omega
             have hlast : (j : Int) < (S.m : Int) - 1 := by omega
             have HNN := Lib.hid (newNode_in (some b) wq)
             go_wp2_with fail
             refine HNN.out.mono ?_
             rintro e w1 ⟨rfl, hw1⟩
             obtain ⟨bn, hbn⟩ : ∃ bn, wq.heap.size = bn := ⟨_, rfl⟩
             rw [hbn, show op (some bn) = pb bn from rfl]
             have HS1 : Hid (Same wq w1) := Lib.hid (by rw [hw1.out]; exact (Only.refl _ _).alloc _)
             have HNW : Hid (Nd w1 bn (.nilIface) none none (some b)) := Lib.hid (by rw [hw1.out, ← hbn]; exact heap_alloc_new _ _)
             have HBN : Hid (wq.heap.size ≤ bn) := Lib.hid (by omega)
             clear hw1 hbn t0 t2 t3 t4 lt tf r0 rl p1 lb9 fb
             have HG1 := Lib.hid (HGQ.out.1.still HS1.out)
             have hnb1 := HNB.out.still HS1.out
             have lb9 := hnb1.lt
             have fb := hnb1.fr
             have yb1 := hnb1.c1
             have t0 : w1.cell? ⟨tb, 0, none⟩ = some (.slice (some ⟨lb, 0, none⟩) S.m S.m) := block_cell HG1.out.obj.obj rfl
             have t2 : w1.cell? ⟨tb, 2, none⟩ = some (.int .u64 ((num : Nat) : Int)) := by have := HG1.out.obj.obj; rw [if_neg (by omega)] at this; exact block_cell this rfl
             have t4 : w1.cell? ⟨tb, 4, none⟩ = some (.int .u8 ((64 : Int) - (S.m : Int))) := block_cell HG1.out.obj.obj rfl
             have lt := lt_of_heap HG1.out.obj.obj
             have tf : ∀ i, w1.frozen? ⟨tb, i, none⟩ = false := fun i => block_free HG1.out.obj.obj
             have r0 := HG1.out.lay.row j hlt
             have rl := HG1.out.lay.lb
             have p1 := (TBQ.out.still HS1.out).2.1 t (by omega)
             have l1 := (TBQ.out.still HS1.out).2.2
             clear hnb1
             have hlay1 := HG1.out.lay
             go_upto_region 29 with fail
             obtain ⟨w2, hw2⟩ : ∃ w2, w1 = w2 := ⟨_, rfl⟩
             obtain ⟨w3, hw3⟩ : ∃ w3, w2.setCell ⟨b, 2, none⟩ (pb bn) = w3 := ⟨_, rfl⟩
             have HO2 : Hid (Only (fun k => k = tb) w1 w2 ∧ TObj w2 tb lb S.m root (if j + 1 = S.m then num + 1 else num) mn mx) := Lib.hid (by
               rw [← hw2]
               rw [if_neg hj1]
               have h8 := HG1.out.obj
               rw [if_neg (by omega)] at h8
               exact ⟨Only.refl _ _, h8⟩)
             have HO3 : Hid (Only (fun k => k = tb ∨ k = b) w1 w3) := Lib.hid (by
               rw [← hw3]
               exact (HO2.out.1.mono (fun _ _ e => .inl e)).setCell _ _ (fun _ => .inr rfl))
             have HW3 : Hid (w2.setCell ⟨b, side S.m j x + 1, none⟩ (pb bn) = w3) := Lib.hid (by rw [hs]; exact hw3)
             have hlay3 : Lay w3 S.m lb md (lkg S.m S.lk D x nb j) := hlay1.keep HO3.out (fun e => by rcases e with e | e; exact dtl e.symm; exact dbl e.symm) (fun i hi e => by
               obtain ⟨f, h6, _⟩ := hlay1.maps i hi
               rcases e with e | e
               · exact (HG1.out.obj.ne_md h6) e.symm
               · exact ((HNB.out.still HS1.out).ne_md h6) e.symm)
             obtain ⟨f, hmf, hff⟩ := hlay3.maps j hlt
             have HLY3 := Lib.hid hlay3
             have HMF : Hid (MapN w3.drew (md j) f) := Lib.hid (hmf.of_heap rfl)
             have HFF := Lib.hid hff
             have HFN : Hid (f (cut S.m (j + 1) x) = none) := Lib.hid (by rw [hff x HD.out.lt, lkg_free HD.out HH.out.ok hDj hlt]; rfl)
             have hto3 := HO2.out.2
             rw [hw2, hw3]
             clear t0 t2 t4 lt tf r0 rl p1 l1 lb9 fb hw2
             have t0 : w3.cell? ⟨tb, 0, none⟩ = some (.slice (some ⟨lb, 0, none⟩) S.m S.m) := by rw [← hw3]; exact block_cell (hto3.keep ((Only.refl (fun k => k = b) w2).setCell ⟨b, 2, none⟩ _ (fun _ => rfl)) (fun e => dbt e.symm)).obj rfl
             have t4 : w3.cell? ⟨tb, 4, none⟩ = some (.int .u8 ((64 : Int) - (S.m : Int))) := by rw [← hw3]; exact block_cell (hto3.keep ((Only.refl (fun k => k = b) w2).setCell ⟨b, 2, none⟩ _ (fun _ => rfl)) (fun e => dbt e.symm)).obj rfl
             have lt : tb < w3.heap.size := Nat.lt_of_lt_of_le (lt_of_heap HG1.out.obj.obj) HO3.out.size
             have r0 := HLY3.out.row j hlt
             have rl := HLY3.out.lb
             have p1 : w3.cell? ⟨1, t, none⟩ = some (.int .u64 M) := by
               have h9 := (TBQ.out.still HS1.out).keep HO3.out (fun k hk e => by
                 rcases e with e | e
                 · exact (by have := HOWN.out k hk; exact this (.inl e))
                 · exact NB2 k hk e)
               rw [← HM9.out]; exact h9.2.1 t (by omega)
             have hlkb : lb < w3.heap.size := HLY3.out.lb
             obtain ⟨y, hy⟩ : ∃ y, cut S.m (j + 1) x = y := ⟨_, rfl⟩
             rw [hy] at hand2 HFN
             have HY := Lib.hid hy
             clear hto3 hw3 hlay3 hmf hff hlay1 hy
             go_cut [] (fun wx => Hid (MapN wx (md j) (fun k => if k = y then some (pb bn) else f k) ∧ w3.drew.grownBy wx (some (md j))))
             case first =>
               clear HG HGQ HNB HNO HNO0 HG1 HNW HBN HO2 HO3 HW3 TBQ HLY3 HS1 HOWN HLX HH HT HD HAS HT9 HM9 HFF HY NB2 dbt dbl dtl db0 dt0 HNN hs hs2
               obtain ⟨w5, hrun, hM5, hg5, hs5⟩ := HMF.out.update (P := Tryd.prog) (t := 109) Tryd.underlying25 Tryd.underlying109 y (pb bn) HFN.out
               have hrun2 : (Instr.mapUpdate 109 (.map (some (md j))) (.int .u64 (y : Int)) (pb bn)).run Tryd.prog w3.drew = .ok () w5 := hrun
               have HM5 := Lib.hid (And.intro hM5 hg5)
               clear hrun hM5 hg5 HMF HFN
               go_region
               all_goals
                 go_wp2_with fail
                 go_meet
                 exact HM5
             case rest =>
               obtain ⟨w5, hw5⟩ : ∃ w5, w5 = wc := ⟨_, rfl⟩
               rw [← hw5] at hcut ⊢
               have HGN : Hid (Gi w w5 S D x v (setN nb (j + 1) bn) (j + 1) tb lb root num md mn mx) := Lib.hid (by
                 refine HGQ.out.1.step HD.out HH.out.ok hDj hlt HGQ.out.2 HS1.out HBN.out (by rw [if_neg hj1]; exact HNW.out) HO2.out.1 HO2.out.2 (by rw [HW3.out]; exact (Only.refl _ _).drew) HMF.out HFF.out ?_ hcut.out.2
                 rw [HY.out]; exact hcut.out.1)
               have hlk := lkg_succ (lk := S.lk) (m := S.m) (x := x) (nb := nb) (b := bn) hDj
               have HLA : Hid (lkg S.m S.lk D x (setN nb (j + 1) bn) (j + 1) (j + 1) (pre S.m (j + 1) x) = some bn) := Lib.hid (by rw [hlk]; simp)
               have hlj : lkg S.m S.lk D x (setN nb (j + 1) bn) (j + 1) j (pre S.m j x) = some b := by
                 rw [hlk]
                 simp only []
                 rw [if_neg (by omega)]
                 exact HGQ.out.2
               have hnn : Nd w5 b .nilIface (chg S.m S.ch D x (setN nb (j + 1) bn) (j + 1) j (pre S.m j x) 0) (chg S.m S.ch D x (setN nb (j + 1) bn) (j + 1) j (pre S.m j x) 1) _ := Mem.inner (S := S.grow D x v (setN nb (j + 1) bn) (j + 1)) HGN.out.mem hlt hlj
               have hcc : chg S.m S.ch D x (setN nb (j + 1) bn) (j + 1) j (pre S.m j x) 1 = some bn := by
                 unfold chg
                 rw [if_pos ⟨hDj, Nat.lt_succ_self _, rfl, hs.symm⟩]
                 unfold setN
                 rw [if_pos rfl]
               have yz := hnn.c1
               rw [hcc] at yz
               have yz' : w5.cell? ⟨b, 2, none⟩ = some (pb bn) := yz
               have lbz := hnn.lt
               clear hw5 hcut hlk hlj hnn hcc yz t0 t4 r0 rl p1 hand2 hlkb lt HMF HFF HFN HY HLY3 HW3 HO3 HO2 HNW HBN HG1 HS1 HNN hw
               go_wp2_with fail
               go_roundw
               case rel => exact ⟨j + 1, bn, _, rfl, by go_num, by omega, by omega, Lib.hid ⟨HGN.out, HLA.out⟩⟩
               case measure => simp [intOf]; omega
     · have hlt' : ¬ (j : Int) < (S.m : Int) := by omega
       obtain rfl : j = S.m := by omega
       have HZ : Hid (nb S.m = b) := Lib.hid (by
         have h1 := HG.out.2
         rw [lkg_at hDm] at h1
         cases h1; rfl)
       go_wp2_with fail
       go_meet
       exact ⟨b, nb, rfl, Lib.hid ⟨HG.out.1, HZ.out⟩⟩
  case rest =>
    obtain ⟨b, nb, rfl, hG⟩ := hcut
    obtain ⟨hrt, hNb, hP⟩ := HRTN.out
    obtain ⟨hV6, hV7, hV9⟩ := HV.out
    have hL : Lnk w S D x v nb b tb lb root num md mn mx rt P := ⟨HH.out.ok, HD.out, hG.out.1.inj, hG.out.1.tree, hG.out.1.mdi, hG.out.2, HH.out.root, HH.out.ends, hrt, hP⟩
    have hB := hG.out.1.bd
    refine (‹∀ (a : Act) (w_1 : World), Code.wp _ _ _ a w_1 → _› _ _ ?_)
    rcases hNb with ⟨h0, e1, e2⟩ | ⟨ks, h1, h2, h3, e1, e2⟩ | ⟨ks, h1, h2, h3, h4, e1, e2⟩ | ⟨kp, h1, h2, h3, e1, e2⟩
    · exact lk31E w wc S D x v nb b tb lb root num md mn mx rt V6 V7 V9 P hL hB (by rw [hV6, e1]; rfl) (by rw [hV7, e2]; rfl) h0 hV9 _ _ _ _ _ _ _ _ _ _ _ _ _ _ _ _ _ _ _ _ _ _ _ _ _ _ _ _ _ _ _ _ _ _ _ _ _ _ _ _ _ _ _ _ _ _ _ _ _ _ _ _ _ _ _ _ _ _ _ _ _ _ _ _ _ _ _ _ _ _ _ _ _ _ _ _ _ _ _ _ _ _ _ _ _ _ _ _ _ _ _ _ _ _ _ _ _ _ _ _ _ _ _ _ _ _ _ _ _ _ _ _ _ _ _ _ _ _ _ _ _ _ _ _ _ _ _ _ _ _ _ _ _ _ _ _ _ _ _ _ _ _ _ _ _ _ _ _ _ _ _ _ _ _ _ _ _ _ _ _ _ _ _ _ _ _ _ _ _ _ _ _ _ _ _ _ _ _ _ _ _ _ _ _ _ _ _ _ _ _ _ _ _ _ _ _ _ _ _ _ _ _ _ _ _ _ _ _ _ _ _ _ _ _ _ _ _ _ _ _ _ _ _ _ _ _ _ _ _ _ _ _ _ _ _ _ _ _ _ _ _ _ _ _ _ _ _ _ _ _ _ _ _ _ _ _ _ _ _ _ _ _ _ _ _ _ _ _ _ _ _ _ _ _ _ _ _ _ _ _ _ _ _ _ _ _ _ _ _ _
    · exact lk31A w wc S D x v nb b tb lb root num md mn mx rt V6 V7 V9 P hL hB ks h1 h2 h3 (by rw [hV6, e1]; rfl) (by rw [hV7, e2]) hV9 _ _ _ _ _ _ _ _ _ _ _ _ _ _ _ _ _ _ _ _ _ _ _ _ _ _ _ _ _ _ _ _ _ _ _ _ _ _ _ _ _ _ _ _ _ _ _ _ _ _ _ _ _ _ _ _ _ _ _ _ _ _ _ _ _ _ _ _ _ _ _ _ _ _ _ _ _ _ _ _ _ _ _ _ _ _ _ _ _ _ _ _ _ _ _ _ _ _ _ _ _ _ _ _ _ _ _ _ _ _ _ _ _ _ _ _ _ _ _ _ _ _ _ _ _ _ _ _ _ _ _ _ _ _ _ _ _ _ _ _ _ _ _ _ _ _ _ _ _ _ _ _ _ _ _ _ _ _ _ _ _ _ _ _ _ _ _ _ _ _ _ _ _ _ _ _ _ _ _ _ _ _ _ _ _ _ _ _ _ _ _ _ _ _ _ _ _ _ _ _ _ _ _ _ _ _ _ _ _ _ _ _ _ _ _ _ _ _ _ _ _ _ _ _ _ _ _ _ _ _ _ _ _ _ _ _ _ _ _ _ _ _ _ _ _ _ _ _ _ _ _ _ _ _ _ _ _ _ _ _ _ _ _ _ _ _ _ _ _ _ _ _ _ _ _ _ _ _ _ _ _ _ _ _ _ _ _ _ _ _
    · obtain ⟨kp, g1, g2, g3⟩ := HH.out.ok.prev h1 h2
      exact lk31B w wc S D x v nb b tb lb root num md mn mx rt V6 V7 V9 P hL hB kp ks g1 h1 g3 h2 h3 h4 g2 (by rw [hV6, e1]; rfl) (by rw [hV7, e2]) hV9 _ _ _ _ _ _ _ _ _ _ _ _ _ _ _ _ _ _ _ _ _ _ _ _ _ _ _ _ _ _ _ _ _ _ _ _ _ _ _ _ _ _ _ _ _ _ _ _ _ _ _ _ _ _ _ _ _ _ _ _ _ _ _ _ _ _ _ _ _ _ _ _ _ _ _ _ _ _ _ _ _ _ _ _ _ _ _ _ _ _ _ _ _ _ _ _ _ _ _ _ _ _ _ _ _ _ _ _ _ _ _ _ _ _ _ _ _ _ _ _ _ _ _ _ _ _ _ _ _ _ _ _ _ _ _ _ _ _ _ _ _ _ _ _ _ _ _ _ _ _ _ _ _ _ _ _ _ _ _ _ _ _ _ _ _ _ _ _ _ _ _ _ _ _ _ _ _ _ _ _ _ _ _ _ _ _ _ _ _ _ _ _ _ _ _ _ _ _ _ _ _ _ _ _ _ _ _ _ _ _ _ _ _ _ _ _ _ _ _ _ _ _ _ _ _ _ _ _ _ _ _ _ _ _ _ _ _ _ _ _ _ _ _ _ _ _ _ _ _ _ _ _ _ _ _ _ _ _ _ _ _ _ _ _ _ _ _ _ _ _ _ _ _ _ _ _ _ _ _ _ _ _ _ _ _ _ _ _ _ _
    · exact lk31C w wc S D x v nb b tb lb root num md mn mx rt V6 V7 V9 P hL hB kp h1 h2 h3 (by rw [hV6, e1]) (by rw [hV7, e2]; rfl) hV9 _ _ _ _ _ _ _ _ _ _ _ _ _ _ _ _ _ _ _ _ _ _ _ _ _ _ _ _ _ _ _ _ _ _ _ _ _ _ _ _ _ _ _ _ _ _ _ _ _ _ _ _ _ _ _ _ _ _ _ _ _ _ _ _ _ _ _ _ _ _ _ _ _ _ _ _ _ _ _ _ _ _ _ _ _ _ _ _ _ _ _ _ _ _ _ _ _ _ _ _ _ _ _ _ _ _ _ _ _ _ _ _ _ _ _ _ _ _ _ _ _ _ _ _ _ _ _ _ _ _ _ _ _ _ _ _ _ _ _ _ _ _ _ _ _ _ _ _ _ _ _ _ _ _ _ _ _ _ _ _ _ _ _ _ _ _ _ _ _ _ _ _ _ _ _ _ _ _ _ _ _ _ _ _ _ _ _ _ _ _ _ _ _ _ _ _ _ _ _ _ _ _ _ _ _ _ _ _ _ _ _ _ _ _ _ _ _ _ _ _ _ _ _ _ _ _ _ _ _ _ _ _ _ _ _ _ _ _ _ _ _ _ _ _ _ _ _ _ _ _ _ _ _ _ _ _ _ _ _ _ _ _ _ _ _ _ _ _ _ _ _ _ _ _ _ _ _ _ _ _ _ _ _ _ _ _ _ _ _ _
end Go.Proofs.YtcjifjfcjimefaaDoor.xf
