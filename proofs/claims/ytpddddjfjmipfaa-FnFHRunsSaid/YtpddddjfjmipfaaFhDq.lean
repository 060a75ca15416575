/-
  DequeueMin.
-/
import Derived.Test.YtpddddjfjmipfaaFhTail
import Derived.Deep.LoopGhost
import Derived.Deep.RegionLaw
namespace Go.Proofs.Ytpddddjfjmipfaa.fh
open Go.RowKit Go.Proofs.Ytpddddjfjmipfaa.base Go.Proofs.Ytpddddjfjmipfaa.heap Go.Proofs.Ytpddddjfjmipfaa.rows Go.Proofs.Ytpddddjfjmipfaa.flt
set_option linter.unusedVariables false

set_option maxRecDepth 100000 in
theorem dq_none (hb : Nat) (pr : Nat → Nat) (w : World) (h : HpX w hb [] pr) : Calls Try.prog 27 #[pp hb] w (DqP hb [] pr w) := by
  obtain ⟨F, G, mn, hp, hpr⟩ := h
  have HE := Lib.hid (isEmpty w hb 0 mn hp.obj)
  clear hp hpr
  go_enter Try.func27, Try.ntmps27
  go_wp2_with (go_at_call 18; (with_reducible refine HE.out.mono ?_); rintro e w1 ⟨rfl, rfl⟩)
  go_ret2
  exact .inl ⟨rfl, rfl, _, ⟨_, _, rfl⟩, rfl⟩

noncomputable def tail17 : Code := (Try.f27.body.bind (codeFrom 17)).getD .skip
noncomputable def tail10 : Code := (Try.f27.body.bind (codeFrom 10)).getD .skip

set_option maxRecDepth 1000000 in
set_option maxHeartbeats 6400000 in
theorem dqC (hb x n : Nat) (A : List Nat) (pr : Nat → Nat) (w w2 : World) (F : Fs) (G : Gs) (hp : Hp w hb F G A (some x)) (hpr : ∀ u ∈ A, F.pr u = pr u) (hl : Least F G x) (hn : (A.erase x).length = n) (hxA : x ∈ A) (hnb : n < 1000000) (hR : R2 hb x n F (G (.kid x)) A w w2) (u1 u5 u6 u7 u8 u9 u10 u11 u12 u13 u14 u15 u16 u17 u18 u19 u20 u21 u22 u23 u24 u25 u26 u27 u28 u29 u30 u31 u32 u33 u34 u35 u36 u37 u38 u39 u40 u41 u42 u43 u44 u45 u46 u47 u48 u49 u50 u51 u52 u53 u54 u55 u56 u57 u58 u59 u60 u61 u62 u63 u64 u65 u66 u67 u68 u69 u70 u71 u72 u73 u74 u75 u76 u77 u78 u79 u80 u81 u82 u83 u84 u85 u86 u87 u88 u89 u90 u91 u92 u93 u94 u95 u96 u97 u98 u99 u100 u101 u102 u103 u104 u105 u106 u107 u108 u109 u110 u111 u112 u113 u114 u115 u116 u117 u118 u119 u120 u121 u122 u123 u124 u125 u126 u127 u128 u129 u130 u131 u132 u133 u134 u135 u136 u137 u138 u139 u140 u141 u142 u143 u144 u145 u146 u147 u148 u149 u150 u151 u152 u153 u154 u155 u156 u157 u158 u159 u160 u161 u162 u163 u164 u165 u166 u167 u168 u169 u170 u171 u172 u173 u174 u175 u176 u177 u178 u179 u180 u181 u182 u183 u184 u185 u186 u187 u188 u189 u190 u191 u192 u193 u194 u195 u196 u197 u198 u199 u200 u201 u202 u203 u204 u205 u206 u207 u208 u209 u210 u211 u212 u213 u214 u215 u216 u217 u218 u219 u220 u221 u222 u223 u224 u225 u226 u227 u228 u229 u230 u231 u232 u233 u234 u235 u236 u237 u238 u239 u240 u241 u242 u243 u244 u245 u246 u247 u248 u249 u250 u251 u252 u253 u254 u255 u256 u257 u258 u259 u260 u261 u262 u263 u264 u265 u266 u267 u268 u269 u270 u271 u272 u273 u274 u275 u276 u277 u278 u279 : Value) :
    Code.wp Try.prog tail17 (bodyPost Try.prog Try.f27 (DqP hb A pr w)) ⟨(pp hb :: u1 :: .pointer none :: .nilIface :: pp x :: u5 :: u6 :: u7 :: u8 :: u9 :: u10 :: u11 :: u12 :: u13 :: u14 :: u15 :: u16 :: u17 :: u18 :: u19 :: u20 :: u21 :: u22 :: u23 :: u24 :: u25 :: u26 :: u27 :: u28 :: u29 :: u30 :: u31 :: u32 :: u33 :: u34 :: u35 :: u36 :: u37 :: u38 :: u39 :: u40 :: u41 :: u42 :: u43 :: u44 :: u45 :: u46 :: u47 :: u48 :: u49 :: u50 :: u51 :: u52 :: u53 :: u54 :: u55 :: u56 :: u57 :: u58 :: u59 :: u60 :: u61 :: u62 :: u63 :: u64 :: u65 :: u66 :: u67 :: u68 :: u69 :: u70 :: u71 :: u72 :: u73 :: u74 :: u75 :: u76 :: u77 :: u78 :: u79 :: u80 :: u81 :: u82 :: u83 :: u84 :: u85 :: u86 :: u87 :: u88 :: u89 :: u90 :: u91 :: u92 :: u93 :: u94 :: u95 :: u96 :: u97 :: u98 :: u99 :: u100 :: u101 :: u102 :: u103 :: u104 :: u105 :: u106 :: u107 :: u108 :: u109 :: u110 :: u111 :: u112 :: u113 :: u114 :: u115 :: u116 :: u117 :: u118 :: u119 :: u120 :: u121 :: u122 :: u123 :: u124 :: u125 :: u126 :: u127 :: u128 :: u129 :: u130 :: u131 :: u132 :: u133 :: u134 :: u135 :: u136 :: u137 :: u138 :: u139 :: u140 :: u141 :: u142 :: u143 :: u144 :: u145 :: u146 :: u147 :: u148 :: u149 :: u150 :: u151 :: u152 :: u153 :: u154 :: u155 :: u156 :: u157 :: u158 :: u159 :: u160 :: u161 :: u162 :: u163 :: u164 :: u165 :: u166 :: u167 :: u168 :: u169 :: u170 :: u171 :: u172 :: u173 :: u174 :: u175 :: u176 :: u177 :: u178 :: u179 :: u180 :: u181 :: u182 :: u183 :: u184 :: u185 :: u186 :: u187 :: u188 :: u189 :: u190 :: u191 :: u192 :: u193 :: u194 :: u195 :: u196 :: u197 :: u198 :: u199 :: u200 :: u201 :: u202 :: u203 :: u204 :: u205 :: u206 :: u207 :: u208 :: u209 :: u210 :: u211 :: u212 :: u213 :: u214 :: u215 :: u216 :: u217 :: u218 :: u219 :: u220 :: u221 :: u222 :: u223 :: u224 :: u225 :: u226 :: u227 :: u228 :: u229 :: u230 :: u231 :: u232 :: u233 :: u234 :: u235 :: u236 :: u237 :: u238 :: u239 :: u240 :: u241 :: u242 :: u243 :: u244 :: u245 :: u246 :: u247 :: u248 :: u249 :: u250 :: u251 :: u252 :: u253 :: u254 :: u255 :: u256 :: u257 :: u258 :: u259 :: u260 :: u261 :: u262 :: u263 :: u264 :: u265 :: u266 :: u267 :: u268 :: u269 :: u270 :: u271 :: u272 :: u273 :: u274 :: u275 :: u276 :: u277 :: u278 :: u279 :: []).toArray, []⟩ w2 := by
  have HP := Lib.hid hp
  have HL := Lib.hid (And.intro hl hpr)
  have HN := Lib.hid (And.intro hn hxA)
  have HR2 := Lib.hid hR
  clear hp hpr hl hn hxA hR
  conv => arg 2; whnf
  obtain ⟨oc, hoc⟩ : ∃ oc, F.ch x = oc := ⟨_, rfl⟩
  have HOC := Lib.hid hoc
  clear hoc
  obtain ⟨om, hom⟩ : ∃ om, mn1 F x = om := ⟨_, rfl⟩
  have d0 := HR2.out.1.c0
  rw [hom] at d0
  have d1 := HR2.out.2.1.ch HN.out.2
  rw [show ({ F1 F x with pa := paOut F (G (.kid x)) } : Fs).ch x = oc from (congrFun (f1_ch F x) x).trans HOC.out] at d1
  have d2 := HR2.out.1.fr
  have HMC : Hid (∀ wx, Same w2 wx → Calls Try.prog 40 #[po om, po oc] wx fun e w3 => ∃ z : Option Nat, e = .returned (po z) ∧ HObj w3 hb om (A.erase x).length ∧ ∀ w4, w4 = w3.setCell ⟨hb, 0, none⟩ (po z) → S1 hb x A pr w w4) := Lib.hid (fun wx hs => by
    have := dq_merge (wx := wx) HP.out HL.out.2 HL.out.1.1 (by rw [HN.out.1]; exact ⟨HR2.out.1.keep hs id, HR2.out.2.1.still hs, Only.trans (S := Fp hb A) HR2.out.2.2 hs (fun _ _ f => f.elim)⟩)
    rwa [hom, HOC.out] at this)
  clear hom
  obtain ⟨vm, hvm⟩ : ∃ vm, po om = vm := ⟨_, rfl⟩
  obtain ⟨vc, hvc⟩ : ∃ vc, po oc = vc := ⟨_, rfl⟩
  rw [hvm] at d0 HMC
  rw [hvc] at d1 HMC
  clear hvm hvc
  go_upto_region 17 with fail
  go_cut [4] (fun y wx => y = pp x ∧ Hid (S1 hb x A pr w wx))
  case first =>
    go_region_law (first | (go_simp; go_at_call 40; refine (HMC.out _ (Only.drew (Only.refl _ _))).mono ?_; rintro e w4 ⟨z, rfl, hob, h4⟩; have d3 := hob.c0; have d4 := hob.fr; have H4 := Lib.hid (h4 _ rfl); clear hob h4))
    all_goals
      go_wp2_with fail
      go_meet
      exact ⟨rfl, H4⟩
  case rest =>
    obtain ⟨rfl, HS1⟩ := hcut
    obtain ⟨w3, hw3⟩ : ∃ w3, w3 = wc := ⟨_, rfl⟩
    rw [← hw3] at HS1 ⊢
    clear hw3 HR2 d0 d1 d2 HMC
    have HLL : Hid (∀ u ∈ A, fval (pr x) ≤ fval (pr u)) := Lib.hid (fun u hu => by
      have := HP.out.fo.least HP.out.ord HL.out.1 u hu
      rwa [HL.out.2 x HN.out.2, HL.out.2 u hu] at this)
    have HOLD : Hid (∀ k, Fp hb A k → k < w.heap.size) := Lib.hid (fun k hk => by
      rcases hk with rfl | hk
      · exact HP.out.obj.lt
      · exact HP.out.mem.lt hk)
    have HXN : Hid (x ∉ A.erase x) := Lib.hid (fun h9 => (HP.out.fo.nodup.mem_erase_iff.1 h9).1 rfl)
    have hT := tail hb x n A pr w w3 HS1.out HN.out.1 hnb HLL.out HOLD.out HXN.out
    clear HS1 HLL HOLD HXN HN HL HP HOC
    refine (‹∀ (a : Act) (w_1 : World), Code.wp _ _ _ a w_1 → _› _ _ ?_)
    exact hT _ _ _ _ _ _ _ _ _ _ _ _ _ _ _ _ _ _ _ _ _ _ _ _ _ _ _ _ _ _ _ _ _ _ _ _ _ _ _ _ _ _ _ _ _ _ _ _ _ _ _ _ _ _ _ _ _ _ _ _ _ _ _ _ _ _ _ _ _ _ _ _ _ _ _ _ _ _ _ _ _ _ _ _ _ _ _ _ _ _ _ _ _ _ _ _ _ _ _ _ _ _ _ _ _ _ _ _ _ _ _ _ _ _ _ _ _ _ _ _ _ _ _ _ _ _ _ _ _ _ _ _ _ _ _ _ _ _ _ _ _ _ _ _ _ _ _ _ _ _ _ _ _ _ _ _ _ _ _ _ _ _ _ _ _ _ _ _ _ _ _ _ _ _ _ _ _ _ _ _ _ _ _ _ _ _ _ _ _ _ _ _ _ _ _ _ _ _ _ _ _ _ _ _ _ _ _ _ _ _ _ _ _ _ _ _ _ _ _ _ _ _ _ _ _ _ _ _ _ _ _ _ _ _ _ _ _ _ _ _ _ _ _ _ _ _ _ _ _ _ _ _ _ _ _ _ _ _ _ _ _ _ _ _ _ _ _ _ _ _ _ _ _ _ _ _

set_option maxRecDepth 1000000 in
set_option maxHeartbeats 6400000 in
theorem dqB (hb x n : Nat) (A : List Nat) (pr : Nat → Nat) (w w1 : World) (F : Fs) (G : Gs) (hp : Hp w hb F G A (some x)) (hpr : ∀ u ∈ A, F.pr u = pr u) (hl : Least F G x) (hn : (A.erase x).length = n) (hxA : x ∈ A) (hnb : n < 1000000) (hR : R1 hb x n F A w w1) (u1 u5 u6 u7 u8 u9 u10 u11 u12 u13 u14 u15 u16 u17 u18 u19 u20 u21 u22 u23 u24 u25 u26 u27 u28 u29 u30 u31 u32 u33 u34 u35 u36 u37 u38 u39 u40 u41 u42 u43 u44 u45 u46 u47 u48 u49 u50 u51 u52 u53 u54 u55 u56 u57 u58 u59 u60 u61 u62 u63 u64 u65 u66 u67 u68 u69 u70 u71 u72 u73 u74 u75 u76 u77 u78 u79 u80 u81 u82 u83 u84 u85 u86 u87 u88 u89 u90 u91 u92 u93 u94 u95 u96 u97 u98 u99 u100 u101 u102 u103 u104 u105 u106 u107 u108 u109 u110 u111 u112 u113 u114 u115 u116 u117 u118 u119 u120 u121 u122 u123 u124 u125 u126 u127 u128 u129 u130 u131 u132 u133 u134 u135 u136 u137 u138 u139 u140 u141 u142 u143 u144 u145 u146 u147 u148 u149 u150 u151 u152 u153 u154 u155 u156 u157 u158 u159 u160 u161 u162 u163 u164 u165 u166 u167 u168 u169 u170 u171 u172 u173 u174 u175 u176 u177 u178 u179 u180 u181 u182 u183 u184 u185 u186 u187 u188 u189 u190 u191 u192 u193 u194 u195 u196 u197 u198 u199 u200 u201 u202 u203 u204 u205 u206 u207 u208 u209 u210 u211 u212 u213 u214 u215 u216 u217 u218 u219 u220 u221 u222 u223 u224 u225 u226 u227 u228 u229 u230 u231 u232 u233 u234 u235 u236 u237 u238 u239 u240 u241 u242 u243 u244 u245 u246 u247 u248 u249 u250 u251 u252 u253 u254 u255 u256 u257 u258 u259 u260 u261 u262 u263 u264 u265 u266 u267 u268 u269 u270 u271 u272 u273 u274 u275 u276 u277 u278 u279 : Value) :
    Code.wp Try.prog tail10 (bodyPost Try.prog Try.f27 (DqP hb A pr w)) ⟨(pp hb :: u1 :: .pointer none :: .nilIface :: pp x :: u5 :: u6 :: u7 :: u8 :: u9 :: u10 :: u11 :: u12 :: u13 :: u14 :: u15 :: u16 :: u17 :: u18 :: u19 :: u20 :: u21 :: u22 :: u23 :: u24 :: u25 :: u26 :: u27 :: u28 :: u29 :: u30 :: u31 :: u32 :: u33 :: u34 :: u35 :: u36 :: u37 :: u38 :: u39 :: u40 :: u41 :: u42 :: u43 :: u44 :: u45 :: u46 :: u47 :: u48 :: u49 :: u50 :: u51 :: u52 :: u53 :: u54 :: u55 :: u56 :: u57 :: u58 :: u59 :: u60 :: u61 :: u62 :: u63 :: u64 :: u65 :: u66 :: u67 :: u68 :: u69 :: u70 :: u71 :: u72 :: u73 :: u74 :: u75 :: u76 :: u77 :: u78 :: u79 :: u80 :: u81 :: u82 :: u83 :: u84 :: u85 :: u86 :: u87 :: u88 :: u89 :: u90 :: u91 :: u92 :: u93 :: u94 :: u95 :: u96 :: u97 :: u98 :: u99 :: u100 :: u101 :: u102 :: u103 :: u104 :: u105 :: u106 :: u107 :: u108 :: u109 :: u110 :: u111 :: u112 :: u113 :: u114 :: u115 :: u116 :: u117 :: u118 :: u119 :: u120 :: u121 :: u122 :: u123 :: u124 :: u125 :: u126 :: u127 :: u128 :: u129 :: u130 :: u131 :: u132 :: u133 :: u134 :: u135 :: u136 :: u137 :: u138 :: u139 :: u140 :: u141 :: u142 :: u143 :: u144 :: u145 :: u146 :: u147 :: u148 :: u149 :: u150 :: u151 :: u152 :: u153 :: u154 :: u155 :: u156 :: u157 :: u158 :: u159 :: u160 :: u161 :: u162 :: u163 :: u164 :: u165 :: u166 :: u167 :: u168 :: u169 :: u170 :: u171 :: u172 :: u173 :: u174 :: u175 :: u176 :: u177 :: u178 :: u179 :: u180 :: u181 :: u182 :: u183 :: u184 :: u185 :: u186 :: u187 :: u188 :: u189 :: u190 :: u191 :: u192 :: u193 :: u194 :: u195 :: u196 :: u197 :: u198 :: u199 :: u200 :: u201 :: u202 :: u203 :: u204 :: u205 :: u206 :: u207 :: u208 :: u209 :: u210 :: u211 :: u212 :: u213 :: u214 :: u215 :: u216 :: u217 :: u218 :: u219 :: u220 :: u221 :: u222 :: u223 :: u224 :: u225 :: u226 :: u227 :: u228 :: u229 :: u230 :: u231 :: u232 :: u233 :: u234 :: u235 :: u236 :: u237 :: u238 :: u239 :: u240 :: u241 :: u242 :: u243 :: u244 :: u245 :: u246 :: u247 :: u248 :: u249 :: u250 :: u251 :: u252 :: u253 :: u254 :: u255 :: u256 :: u257 :: u258 :: u259 :: u260 :: u261 :: u262 :: u263 :: u264 :: u265 :: u266 :: u267 :: u268 :: u269 :: u270 :: u271 :: u272 :: u273 :: u274 :: u275 :: u276 :: u277 :: u278 :: u279 :: []).toArray, []⟩ w1 := by
  have HP := Lib.hid hp
  have HL := Lib.hid (And.intro hl hpr)
  have HN := Lib.hid (And.intro hn hxA)
  have HR := Lib.hid hR
  clear hp hpr hl hn hxA hR
  conv => arg 2; whnf
  obtain ⟨oc, hoc⟩ : ∃ oc, F.ch x = oc := ⟨_, rfl⟩
  have HOC := Lib.hid hoc
  have c4 := HR.out.2.1.ch HN.out.2
  rw [f1_ch, hoc] at c4
  clear hoc
  go_upto_if 84 with fail
  go_cut [4] (fun y wx => y = pp x ∧ Hid (R2 hb x n F (G (.kid x)) A w wx))
  case first =>
    cases oc with
    | none =>
      have HR2 : Hid (R2 hb x n F (G (.kid x)) A w w1) := Lib.hid (by
        have hC : G (.kid x) = [] := by
          rcases HP.out.fo.ch x HN.out.2 with ⟨_, h⟩ | ⟨c, h, _⟩
          · exact h
          · rw [HOC.out] at h; cases h
        have e2 : ({ F1 F x with pa := paOut F (G (.kid x)) } : Fs) = F1 F x := by rw [hC, paOut_nil]; exact f1_pa_self F x
        exact ⟨HR.out.1, by rw [e2]; exact HR.out.2.1, HR.out.2.2⟩)
      go_wp2_with fail
      go_meet
      exact ⟨rfl, HR2⟩
    | some c =>
      have hcC : c ∈ G (.kid x) := by
        rcases HP.out.fo.ch x HN.out.2 with ⟨h, _⟩ | ⟨c', h, h2⟩
        · rw [HOC.out] at h; cases h
        · rw [HOC.out] at h; cases h; exact h2
      obtain ⟨C, hK⟩ := HP.out.fo.kidsOf hcC
      have HK := Lib.hid hK
      have HCA : Hid (∀ b ∈ C, b ∈ A ∧ (F1 F x).nx b = F.nx b) := Lib.hid (fun b hb => by
        have h1 := (hK.mem b).1 hb
        exact ⟨HP.out.fo.mem h1, f1_nx HP.out.fo HL.out.1.1 h1⟩)
      obtain ⟨cl, hcl⟩ : ∃ cl, C.length = cl := ⟨_, rfl⟩
      have HCL := Lib.hid hcl
      have hcl0 : 0 < cl := by
        have := hK.head
        have := (List.getElem?_eq_some_iff.1 this).1
        omega
      have HS0 : Hid (KidS hb x n F C A w 0 w1) := Lib.hid (by
        have e2 : ({ F1 F x with pa := paOut F (C.take 0) } : Fs) = F1 F x := by rw [List.take_zero, paOut_nil]; exact f1_pa_self F x
        exact ⟨HR.out.1, by rw [e2]; exact HR.out.2.1, HR.out.2.2⟩)
      have HCC := Lib.hid (show (C[0]?).getD c = c by rw [hK.head]; rfl)
      clear hK hcC hcl HR
      go_wp2_with fail
      go_loopg [5, 6] cl (fun kx y t wr => ∃ (j b : Nat) (tt : Bool), y = pp b ∧ t = .bool tt ∧ Hid (tt = true ↔ j < cl) ∧ j ≤ cl ∧ cl - j ≤ kx ∧ Hid ((C[j]?).getD c = b) ∧ Hid (KidS hb x n F C A w j wr))
      case atStart => exact ⟨0, c, true, rfl, rfl, Lib.hid ⟨fun _ => hcl0, fun _ => rfl⟩, Nat.zero_le _, by omega, HCC, HS0⟩
      case round =>
        clear HS0 HCC c4
        obtain ⟨j, b, tt, rfl, rfl, HT, hj, hkx, HB, HI⟩ := hrel
        cases tt with
        | true =>
          have hjl : j < cl := HT.out.1 rfl
          obtain ⟨b', hb'⟩ : ∃ b', C[j]? = some b' := ⟨C[j]'(by have := HCL.out; omega), List.getElem?_eq_getElem _⟩
          have hbb : b' = b := by have := HB.out; rw [hb'] at this; simpa using this
          subst hbb
          have HBJ := Lib.hid hb'
          have hbA := HCA.out b' (List.mem_of_getElem? hb')
          obtain ⟨nb, hnb⟩ : ∃ nb, (C[j + 1]?).getD c = nb := ⟨_, rfl⟩
          have d0 := HI.out.2.1.nx hbA.1
          have e0 : ({ F1 F x with pa := paOut F (C.take j) } : Fs).nx b' = nb := by
            show (F1 F x).nx b' = nb
            rw [hbA.2, HK.out.next j b' hb', hnb]
          rw [e0] at d0
          have d1 := HI.out.2.1.pa hbA.1
          have d2 := HI.out.2.1.fr hbA.1
          have d3 := HI.out.2.1.ch HN.out.2
          rw [show ({ F1 F x with pa := paOut F (C.take j) } : Fs).ch x = some c from (congrFun (f1_ch F x) x).trans HOC.out] at d3
          replace d3 : wr.cell? ⟨x, 4, none⟩ = some (pp c) := d3
          have hcA : c ∈ A := HCA.out c (List.mem_of_getElem? HK.out.head) |>.1
          have hnA : nb ∈ A := by
            rw [← hnb]
            cases h9 : C[j + 1]? with
            | none => exact hcA
            | some y => exact (HCA.out y (List.mem_of_getElem? h9)).1
          have Lb : Liv wr nb := HI.out.2.1.liv hnA
          have Lc : Liv wr c := HI.out.2.1.liv hcA
          have HN2 : Hid (KidS hb x n F C A w (j + 1) (wr.setCell ⟨b', 5, none⟩ (.pointer none))) := Lib.hid (by
            obtain ⟨h1, h2, h3⟩ := HI.out
            have h4 := h2.setPa hbA.1 none
            have hO : Only (· ∈ A) wr (wr.setCell ⟨b', 5, none⟩ (.pointer none)) := (Only.refl (· ∈ A) wr).setCell ⟨b', 5, none⟩ _ (fun _ => hbA.1)
            refine ⟨h1.keep hO HP.out.nin, ?_, h3.trans hO (fun k _ hk => .inr hk)⟩
            have e5 : put (paOut F (C.take j)) b' none = paOut F (C.take (j + 1)) := paOut_step hb'
            have h5 : Mem (wr.setCell ⟨b', 5, none⟩ (.pointer none)) { F1 F x with pa := put (paOut F (C.take j)) b' none } (· ∈ A) := h4
            rw [e5] at h5
            exact h5)
          have hqt : (!(nb == c)) = decide (j + 1 < cl) := by
            rw [← hnb]
            by_cases h9 : j + 1 < cl
            · have h10 : C[j + 1]? = some (C[j + 1]'(by have := HCL.out; omega)) := List.getElem?_eq_getElem _
              have hne : C[j + 1]'(by have := HCL.out; omega) ≠ c := fun e => by
                have h0 := HK.out.head
                have h11 := (List.getElem?_eq_some_iff.1 h0).2
                have := (List.getElem_inj HK.out.nodup (i := j + 1) (j := 0) (h₀ := by have := HCL.out; omega) (h₁ := by have := HCL.out; omega)).1 (e.trans h11.symm)
                omega
              rw [h10, decide_eq_true h9]
              simpa using hne
            · have h10 : C[j + 1]? = none := List.getElem?_eq_none (by have := HCL.out; omega)
              rw [h10, decide_eq_false h9]
              simp
          have HNB := Lib.hid hnb
          have HQT := Lib.hid hqt
          clear hb' hbA e0 hcA hnA hnb hqt HI HT HB HBJ
          go_wp2_with fail
          rw [neq_pp (u := nb) (x := c) (Lb.set _ _ _) (Lc.set _ _ _), HQT.out]
          go_wp2_with fail
          go_roundg (cl - (j + 1))
          case measure => omega
          case rel => exact ⟨j + 1, nb, _, rfl, rfl, Lib.hid (by rw [decide_eq_true_iff]), by omega, by omega, HNB, HN2⟩
        | false =>
          have hjl : j = cl := by
            have : ¬ j < cl := fun h => by have := HT.out.2 h; cases this
            omega
          have HR2 : Hid (R2 hb x n F (G (.kid x)) A w wr) := Lib.hid (by
            obtain ⟨h1, h2, h3⟩ := HI.out
            have e2 : paOut F (C.take j) = paOut F (G (.kid x)) := by
              rw [hjl, List.take_of_length_le (by have := HCL.out; omega)]
              exact paOut_perm HK.out.mem
            rw [e2] at h2
            exact ⟨h1, h2, h3⟩)
          clear HI HT HB hjl
          go_wp2_with fail
          go_meet
          exact ⟨rfl, HR2⟩
  case rest =>
    obtain ⟨rfl, HR2⟩ := hcut
    have hT := dqC hb x n A pr w wc F G HP.out HL.out.2 HL.out.1 HN.out.1 HN.out.2 hnb HR2.out
    refine (‹∀ (a : Act) (w_1 : World), Code.wp _ _ _ a w_1 → _› _ _ ?_)
    exact hT _ _ _ _ _ _ _ _ _ _ _ _ _ _ _ _ _ _ _ _ _ _ _ _ _ _ _ _ _ _ _ _ _ _ _ _ _ _ _ _ _ _ _ _ _ _ _ _ _ _ _ _ _ _ _ _ _ _ _ _ _ _ _ _ _ _ _ _ _ _ _ _ _ _ _ _ _ _ _ _ _ _ _ _ _ _ _ _ _ _ _ _ _ _ _ _ _ _ _ _ _ _ _ _ _ _ _ _ _ _ _ _ _ _ _ _ _ _ _ _ _ _ _ _ _ _ _ _ _ _ _ _ _ _ _ _ _ _ _ _ _ _ _ _ _ _ _ _ _ _ _ _ _ _ _ _ _ _ _ _ _ _ _ _ _ _ _ _ _ _ _ _ _ _ _ _ _ _ _ _ _ _ _ _ _ _ _ _ _ _ _ _ _ _ _ _ _ _ _ _ _ _ _ _ _ _ _ _ _ _ _ _ _ _ _ _ _ _ _ _ _ _ _ _ _ _ _ _ _ _ _ _ _ _ _ _ _ _ _ _ _ _ _ _ _ _ _ _ _ _ _ _ _ _ _ _ _ _ _ _ _ _ _ _ _ _ _ _ _ _ _ _ _ _ _ _

set_option maxRecDepth 100000 in
set_option maxHeartbeats 2000000 in
theorem dq_main (hb x n : Nat) (A : List Nat) (pr : Nat → Nat) (w : World) (F : Fs) (G : Gs) (hp : Hp w hb F G A (some x)) (hpr : ∀ u ∈ A, F.pr u = pr u) (hl : Least F G x) (hn : (A.erase x).length = n) (hsz : A.length < 1000000) :
    Calls Try.prog 27 #[pp hb] w (DqP hb A pr w) := by
  have hxA := hp.fo.mem hl.1
  have hnn : A.length = n + 1 := by
    rw [List.length_erase_of_mem hxA] at hn
    have := List.length_pos_of_mem hxA
    omega
  have hnb : n < 1000000 := by omega
  have HE := Lib.hid (isEmpty w hb A.length (some x) hp.obj)
  rw [hnn, show (n + 1 == 0) = false by simp] at HE
  have hbx : hb ≠ x := fun e => hp.nin (e ▸ hxA)
  have c0 := hp.obj.c0
  replace c0 : w.cell? ⟨hb, 0, none⟩ = some (pp x) := c0
  have c1 := hp.obj.c1
  rw [hnn] at c1
  have s1 : ((n + 1 : Nat) : Int) - 1 = (n : Int) := by omega
  have s2 : IntKind.u64.wrap (n : Int) = (n : Int) := IntWalk.u64_in _ (by omega)
  replace c1 : w.cell? ⟨hb, 1, none⟩ = some (.int .u64 ((n : Int) + 1)) := c1
  have s3 : (n : Int) + 1 - 1 = (n : Int) := by omega
  have fh := hp.obj.fr
  have hring := hp.fo.rings.ring .root
  have hur := ring_nx_mem hring x hl.1
  have hvr := ring_pv_mem hring x hl.1
  have huA := hp.fo.mem hur
  have hvA := hp.fo.mem hvr
  obtain ⟨u, hu⟩ : ∃ u, F.nx x = u := ⟨_, rfl⟩
  obtain ⟨v, hv⟩ : ∃ v, F.pv x = v := ⟨_, rfl⟩
  have c2 := hp.mem.nx hxA
  have c3 := hp.mem.pv hxA
  have c4 := hp.mem.ch hxA
  have fx := hp.mem.fr hxA
  have fu := hp.mem.fr huA
  have fv := hp.mem.fr hvA
  have c5 := hp.mem.pv huA
  have c6 := hp.mem.nx hvA
  rw [hu] at c2 fu c5 huA
  rw [hv] at c3 fv c6 hvA
  have Lx : Liv w x := hp.mem.liv hxA
  have Lu : Liv w u := hp.mem.liv huA
  have hux : F.nx x ≠ x → v ≠ x := fun e => by rw [← hv]; exact hp.fo.pv_ne hl.1 e
  have hbu : hb ≠ u := fun e => hp.nin (e ▸ huA)
  have hbv : hb ≠ v := fun e => hp.nin (e ▸ hvA)
  have HR1a : Hid (u = x → R1 hb x n F A w ((w.setCell ⟨hb, 1, none⟩ (.int .u64 (n : Int))).setCell ⟨hb, 0, none⟩ (.pointer none))) := Lib.hid (fun e => by
    have ha : F.nx x = x := hu.trans e
    have hO : Only (fun k => k = hb) w ((w.setCell ⟨hb, 1, none⟩ (.int .u64 (n : Int))).setCell ⟨hb, 0, none⟩ (.pointer none)) := ((Only.refl (fun k => k = hb) w).setCell ⟨hb, 1, none⟩ _ (fun _ => rfl)).setCell ⟨hb, 0, none⟩ _ (fun _ => rfl)
    refine ⟨?_, ?_, hO.mono (fun k _ hk => .inl hk)⟩
    · rw [show mn1 F x = none from if_pos ha]
      exact (hp.obj.set1 n).set0 none
    · rw [show F1 F x = F from if_pos ha]
      exact hp.mem.keep hO (fun j hj e => hp.nin (by rw [← (show j = hb from e)]; exact hj)))
  have HR1b : Hid (u ≠ x → R1 hb x n F A w (((((w.setCell ⟨hb, 1, none⟩ (.int .u64 (n : Int))).setCell ⟨v, 2, none⟩ (pp u)).setCell ⟨u, 3, none⟩ (pp v)).setCell ⟨hb, 0, none⟩ (pp u)).drew.drew)) := Lib.hid (fun e => by
    have ha : F.nx x ≠ x := fun e2 => e (hu.symm.trans e2)
    have hO1 : Only (fun k => k = hb) w (w.setCell ⟨hb, 1, none⟩ (.int .u64 (n : Int))) := (Only.refl (fun k => k = hb) w).setCell ⟨hb, 1, none⟩ _ (fun _ => rfl)
    have hM1 : Mem (w.setCell ⟨hb, 1, none⟩ (.int .u64 (n : Int))) F (· ∈ A) := hp.mem.keep hO1 (fun j hj e => hp.nin (by rw [← (show j = hb from e)]; exact hj))
    have hM2 := (hM1.setNx hvA u).setPv huA v
    have hO2 : Only (· ∈ A) (w.setCell ⟨hb, 1, none⟩ (.int .u64 (n : Int))) (((w.setCell ⟨hb, 1, none⟩ (.int .u64 (n : Int))).setCell ⟨v, 2, none⟩ (pp u)).setCell ⟨u, 3, none⟩ (pp v)) := ((Only.refl (· ∈ A) _).setCell ⟨v, 2, none⟩ _ (fun _ => hvA)).setCell ⟨u, 3, none⟩ _ (fun _ => huA)
    have hO3 : Only (fun k => k = hb) (((w.setCell ⟨hb, 1, none⟩ (.int .u64 (n : Int))).setCell ⟨v, 2, none⟩ (pp u)).setCell ⟨u, 3, none⟩ (pp v)) ((((w.setCell ⟨hb, 1, none⟩ (.int .u64 (n : Int))).setCell ⟨v, 2, none⟩ (pp u)).setCell ⟨u, 3, none⟩ (pp v)).setCell ⟨hb, 0, none⟩ (pp u)) := (Only.refl (fun k => k = hb) _).setCell ⟨hb, 0, none⟩ _ (fun _ => rfl)
    have hM3 := hM2.keep hO3 (fun j hj e => hp.nin (by rw [← (show j = hb from e)]; exact hj))
    have hob := HObj.set0 ((hp.obj.set1 n).keep hO2 hp.nin) (some u)
    refine ⟨?_, ?_, (((hO1.mono (fun k _ hk => .inl hk)).trans hO2 (fun k _ hk => .inr hk)).trans hO3 (fun k _ hk => .inl hk)).drew.drew⟩
    · rw [show mn1 F x = some (F.nx x) from if_neg ha, hu]
      exact hob
    · rw [show F1 F x = OutF F x from if_neg ha]
      have e3 : OutF F x = { F with nx := put F.nx v u, pv := put F.pv u v } := by unfold OutF; rw [hu, hv]
      rw [e3]
      exact hM3)
  have HP := Lib.hid hp
  have HL := Lib.hid (And.intro hl hpr)
  have HN := Lib.hid (And.intro hn hxA)
  have HU := Lib.hid hu
  have Hux := Lib.hid hux
  generalize F.pv u = pu at c5
  generalize F.nx v = nv at c6
  generalize po (F.ch x) = pc at c4
  clear hp hpr hl hn hxA hring hur hvr huA hvA hsz hnn hu hv hux s1
  go_enter Try.func27, Try.ntmps27
  go_wp2_with (go_at_call 18; (with_reducible refine HE.out.mono ?_); rintro e w1 ⟨rfl, rfl⟩)
  rw [eql_pp (u := u) (x := x) (Lu.set _ _ _) (Lx.set _ _ _)]
  go_upto_if 34 with fail
  go_cut [4] (fun y wx => y = pp x ∧ Hid (R1 hb x n F A w wx))
  case first =>
    by_cases e : u = x
    · have HR := Lib.hid (HR1a.out e)
      have hq : (u == x) = true := by simpa using e
      rw [hq]
      clear e HR1a HR1b hq
      go_wp2_with fail
      go_meet
      exact ⟨rfl, HR⟩
    · have HR := Lib.hid (HR1b.out e)
      have hq : (u == x) = false := by simpa using e
      have hxu : x ≠ u := fun e2 => e e2.symm
      have hvx : v ≠ x := Hux.out (by rw [HU.out]; exact e)
      have hxv : x ≠ v := fun e2 => hvx e2.symm
      rw [hq]
      clear HR1a HR1b hq
      go_wp2_with fail
      go_region
      go_wp2_with fail
      go_region
      go_wp2_with fail
      go_meet
      exact ⟨rfl, HR⟩
  case rest =>
    obtain ⟨rfl, HR⟩ := hcut
    have hT := dqB hb x n A pr w wc F G HP.out HL.out.2 HL.out.1 HN.out.1 HN.out.2 hnb HR.out
    refine (‹∀ (a : Act) (w_1 : World), Code.wp _ _ _ a w_1 → _› _ _ ?_)
    exact hT _ _ _ _ _ _ _ _ _ _ _ _ _ _ _ _ _ _ _ _ _ _ _ _ _ _ _ _ _ _ _ _ _ _ _ _ _ _ _ _ _ _ _ _ _ _ _ _ _ _ _ _ _ _ _ _ _ _ _ _ _ _ _ _ _ _ _ _ _ _ _ _ _ _ _ _ _ _ _ _ _ _ _ _ _ _ _ _ _ _ _ _ _ _ _ _ _ _ _ _ _ _ _ _ _ _ _ _ _ _ _ _ _ _ _ _ _ _ _ _ _ _ _ _ _ _ _ _ _ _ _ _ _ _ _ _ _ _ _ _ _ _ _ _ _ _ _ _ _ _ _ _ _ _ _ _ _ _ _ _ _ _ _ _ _ _ _ _ _ _ _ _ _ _ _ _ _ _ _ _ _ _ _ _ _ _ _ _ _ _ _ _ _ _ _ _ _ _ _ _ _ _ _ _ _ _ _ _ _ _ _ _ _ _ _ _ _ _ _ _ _ _ _ _ _ _ _ _ _ _ _ _ _ _ _ _ _ _ _ _ _ _ _ _ _ _ _ _ _ _ _ _ _ _ _ _ _ _ _ _ _ _ _ _ _ _ _ _ _ _ _ _ _ _ _ _
theorem dequeue (hb : Nat) (A : List Nat) (pr : Nat → Nat) (w : World) (h : HpX w hb A pr) (hsz : A.length < 1000000) : Calls Try.prog 27 #[pp hb] w (DqP hb A pr w) := by
  obtain ⟨F, G, mn, hp, hpr⟩ := id h
  rcases hp.min with ⟨rfl, hA⟩ | ⟨m, rfl, hl⟩
  · subst hA
    exact dq_none hb pr w h
  · exact dq_main hb m _ A pr w F G hp hpr hl rfl hsz
end Go.Proofs.Ytpddddjfjmipfaa.fh
