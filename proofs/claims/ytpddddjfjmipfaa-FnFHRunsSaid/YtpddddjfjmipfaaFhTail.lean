/-
  DequeueMin: the code behind the merge of the roots and the children. Printed by gen_tail.py.
-/
import Derived.Test.YtpddddjfjmipfaaFhCon
import Derived.Deep.LoopGhost
import Derived.Deep.RegionLaw
namespace Go.Proofs.Ytpddddjfjmipfaa.fh
open Go.RowKit Go.Proofs.Ytpddddjfjmipfaa.base Go.Proofs.Ytpddddjfjmipfaa.heap Go.Proofs.Ytpddddjfjmipfaa.rows Go.Proofs.Ytpddddjfjmipfaa.flt
set_option linter.unusedVariables false

/-- what DequeueMin hands back -/
def DqP (hb : Nat) (A : List Nat) (pr : Nat → Nat) (w : World) (e : Ending) (w' : World) : Prop :=
  (A = [] ∧ w = w' ∧ ∃ er, IsErr er ∧ e = .returned (.tuple #[.pointer none, er])) ∨
  ∃ x ∈ A, (∀ u ∈ A, fval (pr x) ≤ fval (pr u)) ∧ e = .returned (.tuple #[pp x, .nilIface]) ∧ HpX w' hb (A.erase x) pr ∧ Only (Fp hb A) w w' ∧ X6 w' x (pr x)

/-- the code from a region on -/
def firstReg : Code → Option Nat
  | .region n _ _ => some n
  | .seq a _ => firstReg a
  | .block _ c => firstReg c
  | .scope c => firstReg c
  | .loop c => firstReg c
  | _ => none
def codeFrom (n : Nat) : Code → Option Code
  | .seq a b => if firstReg (.seq a b) = some n then some (.seq a b) else
    match codeFrom n a with
    | some c => some c
    | none => codeFrom n b
  | .block i c => if firstReg c = some n then some (.block i c) else codeFrom n c
  | .scope c => if firstReg c = some n then some (.scope c) else codeFrom n c
  | .loop c => if firstReg c = some n then some (.loop c) else codeFrom n c
  | .region m o d => if m = n then some (.region m o d) else none
  | .cond t a b => match codeFrom n a with
    | some c => some c
    | none => codeFrom n b
  | _ => none
noncomputable def tail18 : Code := (Try.f27.body.bind (codeFrom 18)).getD .skip

set_option maxRecDepth 1000000 in
set_option maxHeartbeats 6400000 in
theorem tail (hb x n : Nat) (A : List Nat) (pr : Nat → Nat) (w w3 : World) (hS : S1 hb x A pr w w3) (hn : (A.erase x).length = n) (hnb : n < 1000000) (hle : ∀ u ∈ A, fval (pr x) ≤ fval (pr u)) (hold : ∀ k, Fp hb A k → k < w.heap.size) (hxn : x ∉ A.erase x) (u1 u5 u6 u7 u8 u9 u10 u11 u12 u13 u14 u15 u16 u17 u18 u19 u20 u21 u22 u23 u24 u25 u26 u27 u28 u29 u30 u31 u32 u33 u34 u35 u36 u37 u38 u39 u40 u41 u42 u43 u44 u45 u46 u47 u48 u49 u50 u51 u52 u53 u54 u55 u56 u57 u58 u59 u60 u61 u62 u63 u64 u65 u66 u67 u68 u69 u70 u71 u72 u73 u74 u75 u76 u77 u78 u79 u80 u81 u82 u83 u84 u85 u86 u87 u88 u89 u90 u91 u92 u93 u94 u95 u96 u97 u98 u99 u100 u101 u102 u103 u104 u105 u106 u107 u108 u109 u110 u111 u112 u113 u114 u115 u116 u117 u118 u119 u120 u121 u122 u123 u124 u125 u126 u127 u128 u129 u130 u131 u132 u133 u134 u135 u136 u137 u138 u139 u140 u141 u142 u143 u144 u145 u146 u147 u148 u149 u150 u151 u152 u153 u154 u155 u156 u157 u158 u159 u160 u161 u162 u163 u164 u165 u166 u167 u168 u169 u170 u171 u172 u173 u174 u175 u176 u177 u178 u179 u180 u181 u182 u183 u184 u185 u186 u187 u188 u189 u190 u191 u192 u193 u194 u195 u196 u197 u198 u199 u200 u201 u202 u203 u204 u205 u206 u207 u208 u209 u210 u211 u212 u213 u214 u215 u216 u217 u218 u219 u220 u221 u222 u223 u224 u225 u226 u227 u228 u229 u230 u231 u232 u233 u234 u235 u236 u237 u238 u239 u240 u241 u242 u243 u244 u245 u246 u247 u248 u249 u250 u251 u252 u253 u254 u255 u256 u257 u258 u259 u260 u261 u262 u263 u264 u265 u266 u267 u268 u269 u270 u271 u272 u273 u274 u275 u276 u277 u278 u279 : Value) :
    Code.wp Try.prog tail18 (bodyPost Try.prog Try.f27 (DqP hb A pr w)) ⟨#[pp hb, u1, .pointer none, .nilIface, pp x, u5, u6, u7, u8, u9, u10, u11, u12, u13, u14, u15, u16, u17, u18, u19, u20, u21, u22, u23, u24, u25, u26, u27, u28, u29, u30, u31, u32, u33, u34, u35, u36, u37, u38, u39, u40, u41, u42, u43, u44, u45, u46, u47, u48, u49, u50, u51, u52, u53, u54, u55, u56, u57, u58, u59, u60, u61, u62, u63, u64, u65, u66, u67, u68, u69, u70, u71, u72, u73, u74, u75, u76, u77, u78, u79, u80, u81, u82, u83, u84, u85, u86, u87, u88, u89, u90, u91, u92, u93, u94, u95, u96, u97, u98, u99, u100, u101, u102, u103, u104, u105, u106, u107, u108, u109, u110, u111, u112, u113, u114, u115, u116, u117, u118, u119, u120, u121, u122, u123, u124, u125, u126, u127, u128, u129, u130, u131, u132, u133, u134, u135, u136, u137, u138, u139, u140, u141, u142, u143, u144, u145, u146, u147, u148, u149, u150, u151, u152, u153, u154, u155, u156, u157, u158, u159, u160, u161, u162, u163, u164, u165, u166, u167, u168, u169, u170, u171, u172, u173, u174, u175, u176, u177, u178, u179, u180, u181, u182, u183, u184, u185, u186, u187, u188, u189, u190, u191, u192, u193, u194, u195, u196, u197, u198, u199, u200, u201, u202, u203, u204, u205, u206, u207, u208, u209, u210, u211, u212, u213, u214, u215, u216, u217, u218, u219, u220, u221, u222, u223, u224, u225, u226, u227, u228, u229, u230, u231, u232, u233, u234, u235, u236, u237, u238, u239, u240, u241, u242, u243, u244, u245, u246, u247, u248, u249, u250, u251, u252, u253, u254, u255, u256, u257, u258, u259, u260, u261, u262, u263, u264, u265, u266, u267, u268, u269, u270, u271, u272, u273, u274, u275, u276, u277, u278, u279], []⟩ w3 := by
  obtain ⟨F, G, mn, hob, hM, hfo, hor, hmn, hpr, hni, hon, hx6, hxA⟩ := hS
  have e0 := hob.c0
  have e1 := hob.c1
  have e2 := hob.fr
  rw [hn] at e1
  conv => arg 2; whnf
  rcases hmn with ⟨rfl, hA0⟩ | ⟨u, rfl, hu⟩
  · have HF : Hid (HpX w3 hb (A.erase x) pr ∧ Only (Fp hb A) w w3 ∧ X6 w3 x (pr x)) := Lib.hid ⟨⟨F, G, none, ⟨hob, hM, hfo, hor, .inl ⟨rfl, hA0⟩, fun h => hni (List.mem_of_mem_erase h)⟩, hpr⟩, hon, hx6⟩
    have HLL := Lib.hid hle
    have HXA := Lib.hid hxA
    replace e0 : w3.cell? ⟨hb, 0, none⟩ = some (.pointer none) := e0
    clear hob hM hfo hor hpr hni hon hx6 hA0 hle hn hxA hold hxn
    go_wp2_with fail
    go_ret2
    exact .inr ⟨x, HXA.out, HLL.out, rfl, HF.out.1, HF.out.2.1, HF.out.2.2⟩
  · obtain ⟨G1, l, hv1, hv2, hv3, hf1⟩ := hfo.front hu
    have HC : Hid (Cs hb x A pr w w3 F G1 u) := Lib.hid ⟨hob, hM, hf1, hor.perm hv3, hpr, hni, hon, hx6, hxA, hold, hxn⟩
    obtain ⟨V, hV⟩ : ∃ V, u :: l = V := ⟨_, rfl⟩
    have hring := hf1.rings.ring .root
    have hnd := hf1.rings.nodup .root
    rw [hv1] at hring hnd
    have HV : Hid (V[0]? = some u ∧ G1 .root = V ∧ V.Nodup ∧ (∀ j b, V[j]? = some b → b ∈ A.erase x ∧ F.nx b = (V[j + 1]?).getD u)) := Lib.hid ⟨by rw [← hV]; rfl, by rw [hv1, hV], by rw [← hV]; exact hnd, fun j b hb' => ⟨hf1.mem (k := .root) (by rw [hv1, hV]; exact List.mem_of_getElem? hb'), by rw [← hV] at hb' ⊢; exact ring_next hring hb'⟩⟩
    have HLL := Lib.hid hle
    have HXA := Lib.hid hxA
    have HN := Lib.hid hn
    obtain ⟨nv, hnv⟩ : ∃ nv, V.length = nv := ⟨_, rfl⟩
    have hnv0 : 0 < nv := by rw [← hnv, ← hV]; simp
    have hnvn : nv ≤ n := by
      rw [← hnv, ← hn]
      exact len_sub (HV.out.2.2.1) (fun b hb' => by obtain ⟨j, hj⟩ := List.getElem?_of_mem hb'; exact (HV.out.2.2.2 j b hj).1)
    have HNV := Lib.hid hnv
    have HO3 : Hid (w.heap.size ≤ w3.heap.size) := Lib.hid hon.size
    have hmk := make_ents n hnb
    have lhb := hob.lt
    have hr1 : u ∈ G1 .root := (hv3 .root).mem_iff.2 hu
    replace e0 : w3.cell? ⟨hb, 0, none⟩ = some (pp u) := e0
    clear hob hM hfo hor hpr hni hon hx6 hle hn hxA hold hxn hf1 hV hring hnd hnv hv1 hv2 hv3
    go_upto_region 22 with fail
    obtain ⟨ta, hta⟩ : ∃ ta : Option Addr, ta = some ⟨w3.heap.size, 0, none⟩ := ⟨_, rfl⟩
    obtain ⟨va0, hva⟩ : ∃ va : Option Addr, va = some ⟨w3.heap.size + 1, 0, none⟩ := ⟨_, rfl⟩
    have HS0 : Hid (Cs hb x A pr w ((w3.alloc (.cells (madeCells #[Value.pointer none] n) 45)).alloc (.cells (madeCells #[Value.pointer none] n) 45)) F G1 u ∧ Sl w ((w3.alloc (.cells (madeCells #[Value.pointer none] n) 45)).alloc (.cells (madeCells #[Value.pointer none] n) 45)) va0 0 n [] ta 0 n []) := Lib.hid (by
      rw [hta, hva]
      exact ⟨HC.out.keep (S := fun _ => False) (((Only.refl _ w3).alloc _).alloc _) (fun _ h => h.elim), Sl.made n hnb HO3.out⟩)
    rw [← hta, ← hva]
    generalize ((w3.alloc (.cells (madeCells #[Value.pointer none] n) 45)).alloc (.cells (madeCells #[Value.pointer none] n) 45)) = w4 at HS0 ⊢
    clear hta hva hmk HC lhb e0 e1 e2 HO3
    have e0 := HS0.out.1.ob.c0
    replace e0 : w4.cell? ⟨hb, 0, none⟩ = some (pp u) := e0
    have HU0 : Hid ((V[0]?).getD u = u) := Lib.hid (by rw [HV.out.1]; rfl)
    go_wp2_with fail
    go_loopg [8, 9] nv (fun kx y t wr => ∃ (j : Nat) (va : Option Addr) (vc b : Nat), y = .slice va j vc ∧ t = pp b ∧ j ≤ nv ∧ nv - j ≤ kx ∧ Hid ((V[j]?).getD u = b) ∧ Hid (Cs hb x A pr w wr F G1 u ∧ Sl w wr va j vc (V.take j) ta 0 n []))
    case atStart => exact ⟨0, va0, n, u, rfl, rfl, Nat.zero_le _, by omega, HU0, HS0⟩
    case round =>
      clear HS0 e0 HU0
      obtain ⟨j, va, vc, b, rfl, rfl, hj, hkx, HB, HI⟩ := hrel
      cases j with
      | zero =>
        have hb0 : V[0]? = some b := by have := HB.out; rw [HV.out.1] at this ⊢; exact this ▸ rfl
        have HBJ := Lib.hid hb0
        have HBA := Lib.hid (HV.out.2.2.2 0 b hb0)
        have HOW : Hid (OL 45 pp wr va 0 vc (V.take 0)) := Lib.hid HI.out.2.vi
        have HAP : Hid (∀ va' vc' w6, Grew 45 1 (wr.alloc (.cells #[pp b] 45)) w6 va va' 1 1 vc vc' ((V.take 0).map pp ++ [pp b]) → (Cs hb x A pr w w6 F G1 u ∧ Sl w w6 va' 1 vc' (V.take 1) ta 0 n [])) := Lib.hid (fun va' vc' w6 hG => by
          obtain ⟨h1, h2⟩ := HI.out
          have hO : Only (At va) wr w6 := Only.trans (S := At va) ((Only.refl (At va) wr).alloc _) hG.only (fun _ _ h => h)
          refine ⟨h1.keep hO h2.vf, ⟨h2.tr.keep hO (fun k hk h9 => h2.dj k hk h9), ⟨?_, ?_⟩, h2.tf, fun k hk => ?_, fun k h9 hk => ?_⟩⟩
          · rw [take_snoc V 0 b HBJ.out, List.map_append]; exact hG.own
          · rw [List.length_take]; have := HNV.out; omega
          · rcases hG.fresh k hk with h8 | h8
            · exact h2.vf k h8
            · have := h1.only.size; simp at h8; omega
          · rcases hG.fresh k hk with h8 | h8
            · exact h2.dj k h9 h8
            · have := h2.tr.1.lt k h9; simp at h8; omega)
        clear hb0 HB HI
        go_wp2_with (at_builtin; refine wpList_append 1 ((V.take 0).map pp ++ [pp b]) rfl _ _ _ _ rfl slE rfl (HOW.out.1.keep (S := fun _ => False) (by repeat (first | exact Only.refl _ _ | apply Only.alloc | apply Only.drew)) (fun _ _ => id)) rfl (Src.row (size := 1) (cs := #[pp b]) (t := 45) (fr := (0, 0)) Try.underlying52 (by exact heap_alloc_new _ _) 1 1 rfl (by simp [Value.oneCell'])) rfl rfl (by unfold maxLen; omega) (by omega) ?_)
        intro va2 vc2 w6 hG
        have HN6 := Lib.hid (HAP.out va2 vc2 w6 hG)
        clear hG HAP HOW
        have d0 := HN6.out.1.mem.nx HBA.out.1
        rw [HBA.out.2] at d0
        go_wp2_with fail
        go_roundg (nv - 1)
        case measure => omega
        case rel => exact ⟨1, va2, vc2, _, rfl, rfl, by omega, by omega, Lib.hid rfl, HN6⟩
      | succ j =>
        have h2 := HI.out.2.vi
        obtain ⟨bv, rfl, hbv, hcell⟩ := h2.1.at (by omega)
        have c0 : wr.cell? ⟨bv, 0, none⟩ = some (pp u) := by
          have := hcell 0 (pp u) (by rw [List.getElem?_map, List.getElem?_take_of_lt (by omega), HV.out.1]; rfl)
          simpa using this
        have huB : u ∈ A.erase x := (HV.out.2.2.2 0 u HV.out.1).1
        by_cases hjn : j + 1 < nv
        · have hb0 : V[j + 1]? = some b := by
            have h9 : V[j + 1]? = some (V[j + 1]'(by have := HNV.out; omega)) := List.getElem?_eq_getElem _
            have := HB.out
            rw [h9] at this ⊢
            exact congrArg some this
          have HBJ := Lib.hid hb0
          have HBA := Lib.hid (HV.out.2.2.2 (j + 1) b hb0)
          have hub : (u == b) = false := beq_eq_false_iff_ne.2 (fun e => by
            have := nodup_at HV.out.2.2.1 HV.out.1 (by rw [e]; exact hb0)
            omega)
          have HOW : Hid (OL 45 pp wr (some ⟨bv, 0, none⟩) (j + 1) vc (V.take (j + 1))) := Lib.hid h2
          have HAP : Hid (∀ va' vc' w6, Grew 45 1 (wr.alloc (.cells #[pp b] 45)) w6 (some ⟨bv, 0, none⟩) va' 1 (j + 1 + 1) vc vc' ((V.take (j + 1)).map pp ++ [pp b]) → (Cs hb x A pr w w6 F G1 u ∧ Sl w w6 va' (j + 1 + 1) vc' (V.take (j + 1 + 1)) ta 0 n [])) := Lib.hid (fun va' vc' w6 hG => by
            obtain ⟨h1, h2⟩ := HI.out
            have hO : Only (At (some ⟨bv, 0, none⟩)) wr w6 := Only.trans (S := At (some ⟨bv, 0, none⟩)) ((Only.refl (At (some ⟨bv, 0, none⟩)) wr).alloc _) hG.only (fun _ _ h => h)
            refine ⟨h1.keep hO h2.vf, ⟨h2.tr.keep hO (fun k hk h9 => h2.dj k hk h9), ⟨?_, ?_⟩, h2.tf, fun k hk => ?_, fun k h9 hk => ?_⟩⟩
            · rw [take_snoc V (j + 1) b HBJ.out, List.map_append]; exact hG.own
            · rw [List.length_take]; have := HNV.out; omega
            · rcases hG.fresh k hk with h8 | h8
              · exact h2.vf k h8
              · have := h1.only.size; simp at h8; omega
            · rcases hG.fresh k hk with h8 | h8
              · exact h2.dj k h9 h8
              · have := h2.tr.1.lt k h9; simp at h8; omega)
          have Lu : Liv wr u := HI.out.1.mem.liv huB
          have Lb : Liv wr b := HI.out.1.mem.liv HBA.out.1
          clear hb0 HB HI h2 hbv hcell huB
          go_wp2_with fail
          rw [neq_pp (u := u) (x := b) Lu Lb, hub]
          go_wp2_with (at_builtin; refine wpList_append (j + 1 + 1) ((V.take (j + 1)).map pp ++ [pp b]) rfl _ _ _ _ rfl slE rfl (HOW.out.1.keep (S := fun _ => False) (by repeat (first | exact Only.refl _ _ | apply Only.alloc | apply Only.drew)) (fun _ _ => id)) rfl (Src.row (size := 1) (cs := #[pp b]) (t := 45) (fr := (0, 0)) Try.underlying52 (by exact heap_alloc_new _ _) 1 1 rfl (by simp [Value.oneCell'])) rfl rfl (by unfold maxLen; omega) (by omega) ?_)
          intro va2 vc2 w6 hG
          rw [← List.map_take] at hG
          have HN6 := Lib.hid (HAP.out va2 vc2 w6 hG)
          clear hG HAP HOW
          have d0 := HN6.out.1.mem.nx HBA.out.1
          rw [HBA.out.2] at d0
          go_wp2_with fail
          go_roundg (nv - (j + 1 + 1))
          case measure => omega
          case rel => exact ⟨j + 1 + 1, va2, vc2, _, rfl, rfl, by omega, by omega, Lib.hid rfl, HN6⟩
        · have hjn2 : j + 1 = nv := by omega
          have hbu : b = u := by
            have h9 : V[j + 1]? = none := List.getElem?_eq_none (by have := HNV.out; omega)
            have := HB.out
            rw [h9] at this
            exact this.symm
          subst hbu
          have HS5 : Hid (Cs hb x A pr w wr F G1 b ∧ Sl w wr (some ⟨bv, 0, none⟩) nv vc V ta 0 n []) := Lib.hid (by
            have := HI.out
            rw [hjn2, List.take_of_length_le (by have := HNV.out; omega)] at this
            exact this)
          rw [hjn2]
          have Lb : Liv wr b := HI.out.1.mem.liv huB
          have hu1 : b ∈ G1 .root := hr1
          have hvp : (0 : Nat) < nv := hnv0
          clear HB HI h2 hbv hcell huB hjn hj hkx hjn2
          go_wp2_with fail
          rw [neq_pp (u := b) (x := b) Lb Lb, show (b == b) = true from beq_self_eq_true b]
          go_upto_region 26 with fail
          rw [show ((nv : Int) == 0) = false from beq_eq_false_iff_ne.2 (by omega)]
          have HP0 : Hid (Pl F G1 V [] 0 b) := Lib.hid ⟨fun r hr => by rw [HV.out.2.1] at hr; exact hr, fun k c _ hk => by rw [HV.out.2.1]; exact List.mem_of_getElem? hk, fun d t ht => (by cases ht), hu1, fun k v hk => absurd hk (Nat.not_lt_zero k)⟩
          have HVN := Lib.hid HV.out.2.2.1
          have hnl : (A.erase x).length = n := HN.out
          have HS6 := HS5
          clear HS5 HV HN hu1 Lb
          go_wp2_with fail
          go_loopg [7, 155] nv (fun kx y t wr => ∃ (i : Nat) (ta : Option Addr) (m tc : Nat) (T : List (Option Nat)) (h : Nat) (F : Fs) (G : Gs), y = .slice ta m tc ∧ t = .int .i64 (i : Int) ∧ i ≤ nv ∧ nv - i ≤ kx ∧ m ≤ 1000000 ∧ Hid (Cs hb x A pr w wr F G h ∧ Sl w wr (some ⟨bv, 0, none⟩) nv vc V ta m tc T ∧ Pl F G V T i h))
          case atStart => exact ⟨0, ta, 0, n, [], b, F, G1, rfl, rfl, Nat.zero_le _, by omega, by omega, Lib.hid ⟨HS6.out.1, HS6.out.2, HP0.out⟩⟩
          case round =>
            clear HS6 HP0
            skip
            obtain ⟨i, ta, m, tc, T, h, F, G, rfl, rfl, hi, hkx, hm, HI⟩ := hrel
            by_cases hin : i < nv
            · have hin' : (i : Int) < (nv : Int) := by omega
              obtain ⟨c, hc⟩ : ∃ c, V[i]? = some c := ⟨V[i]'(by have := HNV.out; omega), List.getElem?_eq_getElem _⟩
              have c7 : wr.cell? ⟨bv, i, none⟩ = some (pp c) := by
                obtain ⟨bw, hbw, _, hcell⟩ := HI.out.2.1.vi.1.at hnv0
                cases hbw
                have := hcell i (pp c) (by rw [List.getElem?_map, hc]; rfl)
                simpa using this
              have HP1 : Hid (Cs hb x A pr w wr F G h ∧ Sl w wr (some ⟨bv, 0, none⟩) nv vc V ta m tc T ∧ Pc F G V T i h c) := Lib.hid ⟨HI.out.1, HI.out.2.1, HI.out.2.2.start HVN.out hc⟩
              have HBH : Hid (h ∈ A.erase x) := Lib.hid (HI.out.1.fo.mem HI.out.2.2.hr)
              clear HI hc
              go_wp2_with fail
              go_loopg [7, 11] ((G .root).length) (fun kx y t wr => ∃ (ta : Option Addr) (m tc : Nat) (T : List (Option Nat)) (c : Nat) (F : Fs) (G : Gs), y = .slice ta m tc ∧ t = pp c ∧ (G .root).length ≤ kx ∧ m ≤ 1000000 ∧ Hid (Cs hb x A pr w wr F G h ∧ Sl w wr (some ⟨bv, 0, none⟩) nv vc V ta m tc T ∧ Pc F G V T i h c))
              case atStart => exact ⟨ta, m, tc, T, c, F, G, rfl, rfl, Nat.le_refl _, hm, HP1⟩
              case round =>
                clear HP1 c7 hm
                obtain ⟨ta, m, tc, T, c, F, G, rfl, rfl, hkx4, hm, HI⟩ := hrel
                have hcB := HI.out.1.fo.mem HI.out.2.2.cr
                obtain ⟨d, hd⟩ : ∃ d, d = (G (.kid c)).length := ⟨_, rfl⟩
                have HD : Hid (F.deg c = (d : Int)) := Lib.hid (by rw [HI.out.1.fo.deg c hcB, hd])
                have hdn : d ≤ n := by
                  rw [hd, ← hnl]
                  exact len_sub (HI.out.1.fo.rings.nodup _) (fun b hb' => HI.out.1.fo.mem hb')
                have HCB := Lib.hid hcB
                clear hd hcB
                go_wp2_with fail
                go_loopg [7] (d + 1 - m) (fun kx y wr => ∃ (ta : Option Addr) (m tc : Nat) (T : List (Option Nat)), y = .slice ta m tc ∧ d + 1 - m ≤ kx ∧ m ≤ 1000000 ∧ Hid (Cs hb x A pr w wr F G h ∧ Sl w wr (some ⟨bv, 0, none⟩) nv vc V ta m tc T ∧ Pc F G V T i h c))
                case atStart => exact ⟨ta, m, tc, T, rfl, Nat.le_refl _, hm, HI⟩
                case round =>
                  clear HI hm
                  obtain ⟨ta, m, tc, T, rfl, hkx5, hm, HI⟩ := hrel
                  have c0 := HI.out.1.mem.deg HCB.out
                  rw [HD.out] at c0
                  by_cases hdm : d < m
                  · have hdm1 : (d : Int) < (m : Int) := by omega
                    have hdm' : ¬ (m : Int) ≤ (d : Int) := by omega
                    obtain ⟨bt, v, rfl, ct, ht, ft⟩ := HI.out.2.1.at hdm
                    cases v with
                    | none =>
                      replace ct : wr.cell? ⟨bt, d, none⟩ = some (.pointer none) := ct
                      have HI6 : Hid (Cs hb x A pr w (wr.setCell ⟨bt, d, none⟩ (pp c)) F G h ∧ Sl w (wr.setCell ⟨bt, d, none⟩ (pp c)) (some ⟨bv, 0, none⟩) nv vc V (some ⟨bt, 0, none⟩) m tc (T.set d (some c)) ∧ Pl F G V (T.set d (some c)) (i + 1) (if fval (F.pr c) ≤ fval (F.pr h) then c else h)) := Lib.hid ⟨HI.out.1.setT HI.out.2.1 _, HI.out.2.1.set hdm (some c), HI.out.2.2.done HVN.out HD.out⟩
                      clear HI ht hkx5
                      go_upto_region 50 with fail
                      generalize wr.setCell ⟨bt, d, none⟩ (pp c) = w6 at HI6 ⊢
                      clear c0 ct ft hkx4 hdm hdm1 hdm'
                      have c0 := HI6.out.1.mem.pr HCB.out
                      have c1 := HI6.out.1.ob.c0
                      replace c1 : w6.cell? ⟨hb, 0, none⟩ = some (pp h) := c1
                      have c2 := HI6.out.1.mem.pr HBH.out
                      have c3 := HI6.out.1.ob.fr
                      have HLE := Lib.hid (le_words (HI6.out.1.fo.fin c HCB.out) (HI6.out.1.fo.fin h HBH.out))
                      have HFH := Lib.hid (HI6.out.1.old hb (.inl rfl))
                      by_cases hle : fval (F.pr c) ≤ fval (F.pr h)
                      · have hl := HLE.out
                        rw [decide_eq_true hle] at hl
                        have HR : Hid (∀ k, Cs hb x A pr w ((w6.drewN k).setCell ⟨hb, 0, none⟩ (pp c)) F G c ∧ Sl w ((w6.drewN k).setCell ⟨hb, 0, none⟩ (pp c)) (some ⟨bv, 0, none⟩) nv vc V (some ⟨bt, 0, none⟩) m tc (T.set d (some c)) ∧ Pl F G V (T.set d (some c)) (i + 1) c) := Lib.hid (fun k => by
                          have h3 := HI6.out.2.2
                          rw [if_pos hle] at h3
                          exact ⟨(HI6.out.1.drewN k).setMin c, (HI6.out.2.1.drewN k).setMin HFH.out _, h3⟩)
                        clear HI6 HLE hle
                        go_region
                        go_wp2_with fail
                        go_roundg (nv - (i + 1))
                        case measure => omega
                        case rel => exact ⟨i + 1, _, m, tc, _, c, F, G, rfl, rfl, by omega, by omega, hm, Lib.hid (HR.out _)⟩
                      · have hl := HLE.out
                        rw [decide_eq_false hle] at hl
                        have HR : Hid (∀ k, Cs hb x A pr w (w6.drewN k) F G h ∧ Sl w (w6.drewN k) (some ⟨bv, 0, none⟩) nv vc V (some ⟨bt, 0, none⟩) m tc (T.set d (some c)) ∧ Pl F G V (T.set d (some c)) (i + 1) h) := Lib.hid (fun k => by
                          have h3 := HI6.out.2.2
                          rw [if_neg hle] at h3
                          exact ⟨HI6.out.1.drewN k, HI6.out.2.1.drewN k, h3⟩)
                        clear HI6 HLE hle
                        go_region
                        go_wp2_with fail
                        go_roundg (nv - (i + 1))
                        case measure => omega
                        case rel => exact ⟨i + 1, _, m, tc, _, h, F, G, rfl, rfl, by omega, by omega, hm, Lib.hid (HR.out _)⟩
                    | some o =>
                      have hoP := HI.out.2.2.tree d o ht
                      have HOR := Lib.hid hoP.1
                      have HOD := Lib.hid hoP.2.1
                      have HOC := Lib.hid hoP.2.2.1
                      have HCR := Lib.hid HI.out.2.2.cr
                      have HT := Lib.hid ht
                      have HOB : Hid (o ∈ A.erase x) := Lib.hid (HI.out.1.fo.mem hoP.1)
                      replace ct : wr.cell? ⟨bt, d, none⟩ = some (pp o) := ct
                      have HI6 : Hid (Cs hb x A pr w (wr.setCell ⟨bt, d, none⟩ (.pointer none)) F G h ∧ Sl w (wr.setCell ⟨bt, d, none⟩ (.pointer none)) (some ⟨bv, 0, none⟩) nv vc V (some ⟨bt, 0, none⟩) m tc (T.set d none)) := Lib.hid ⟨HI.out.1.setT HI.out.2.1 _, HI.out.2.1.set hdm none⟩
                      have HP6 := Lib.hid HI.out.2.2
                      clear HI ht hkx5 hoP
                      go_upto_region 36 with fail
                      generalize wr.setCell ⟨bt, d, none⟩ (.pointer none) = w6 at HI6 ⊢
                      clear c0 ct ft hdm hdm1 hdm'
                      have c0 := HI6.out.1.mem.pr HOB.out
                      have c1 := HI6.out.1.mem.pr HCB.out
                      have HLT := Lib.hid (lt_words (HI6.out.1.fo.fin o HOB.out) (HI6.out.1.fo.fin c HCB.out))
                      by_cases hlt : fval (F.pr o) < fval (F.pr c)
                      · have hl : (FloatKind.f64.format.order (F.pr o) (F.pr c) == some .lt) = true := by have := HLT.out; rw [decide_eq_true hlt] at this; exact this
                        have HLE : Hid (fval (F.pr o) ≤ fval (F.pr c)) := Lib.hid (by omega)
                        have hax : o ∈ G .root := HOR.out
                        have hzx : c ∈ G .root := HCR.out
                        have hne : o ≠ c := HOC.out
                        clear HLT hlt
                        go_region
                        go_upto_region 41 with fail
                        refine gen_wp (S := fun w7 => Cs hb x A pr w w7 F G h ∧ Sl w w7 (some ⟨bv, 0, none⟩) nv vc V (some ⟨bt, 0, none⟩) m tc (T.set d none)) (by first | exact HI6.out | exact ⟨HI6.out.1.drewN _, HI6.out.2.drewN _⟩ | exact ⟨(HI6.out.1.drewN _).drewN _, (HI6.out.2.drewN _).drewN _⟩) ?_
                        intro w7 H7
                        have H7 := Lib.hid H7
                        clear HI6 c0 c1 hl
                        obtain ⟨n1, n2, n3, n4⟩ := uk_ne H7.out.1.fo hax hzx hne
                        have HZB : Hid (c ∈ A.erase x) := Lib.hid (H7.out.1.fo.mem hzx)
                        have HAB : Hid (o ∈ A.erase x) := Lib.hid (H7.out.1.fo.mem hax)
                        obtain ⟨u, hu⟩ : ∃ u, F.nx c = u := ⟨_, rfl⟩
                        obtain ⟨v, hv⟩ : ∃ v, F.pv c = v := ⟨_, rfl⟩
                        rw [hu] at n1 n3
                        rw [hv] at n2 n4
                        have n5 : c ≠ u := fun e => n1 e.symm
                        have n6 : c ≠ v := fun e => n2 e.symm
                        have q0 := H7.out.1.mem.nx HZB.out
                        have q1 := H7.out.1.mem.pv HZB.out
                        have q2 := H7.out.1.mem.pv n3
                        have q3 := H7.out.1.mem.nx n4
                        have f0 := H7.out.1.mem.fr HZB.out
                        have f1 := H7.out.1.mem.fr n3
                        have f2 := H7.out.1.mem.fr n4
                        rw [hu] at q0
                        rw [hv] at q1
                        have HM0 : Hid (Mem (ukW w7 u v c) (Lk1 F c) (· ∈ A.erase x)) := Lib.hid (uk_mem H7.out.1.mem HZB.out n3 n4 hu hv)
                        have HB3 := Lib.hid n3
                        have HB4 := Lib.hid n4
                        have HAX := Lib.hid (And.intro hax (And.intro hzx hne))
                        generalize F.pv u = pu at q2
                        generalize F.nx v = nw at q3
                        clear hu hv n3 n4 hax hzx
                        go_region
                        go_upto_region 42 with fail
                        go_region
                        go_upto_region 45 with fail
                        refine gen_wp (S := fun w8 => Mem w8 (Lk1 F c) (· ∈ A.erase x) ∧ Only (· ∈ A.erase x) w7 w8) ⟨HM0.out.of_heap (by rfl), by repeat (first | exact Only.refl _ _ | exact Only.drewN (Only.refl _ _) _ | apply Only.drewN | apply Only.drew | refine Only.setCell ?_ _ _ (fun _ => by first | exact HZB.out | exact HB3.out | exact HB4.out))⟩ ?_
                        intro w8 H8
                        have H8 := Lib.hid H8
                        clear HM0 q0 q1 q2 q3 f0 f1 f2 n1 n2 n5 n6 hne
                        have q4 := H8.out.1.ch HAB.out
                        replace q4 : w8.cell? ⟨o, 4, none⟩ = some (po (F.ch o)) := q4
                        have HMC := Lib.hid (link_merge H7.out.1.fo HAX.out.1 HAX.out.2.1 HAX.out.2.2 H8.out.1)
                        generalize po (F.ch o) = vch at q4 HMC
                        have HDA : Hid (F.deg o = (d : Int)) := Lib.hid HOD.out
                        have s1 : IntKind.i64.wrap ((d : Int) + 1) = (d : Int) + 1 := IntWalk.i64_in _ (by omega)
                        go_wp2_with (go_at_call 40; (with_reducible refine HMC.out.mono ?_); rintro e w9 ⟨y, F1, G', rfl, H9⟩; have H9 := Lib.hid H9; have g0 := H9.out.1.ch HAB.out; have g1 := H9.out.1.pa HZB.out; have g2 := H9.out.1.mrk HZB.out; have g3 := H9.out.1.deg HAB.out; rw [H9.out.2.2.1, HDA.out] at g3; have f3 := H9.out.1.fr HAB.out; have f4 := H9.out.1.fr HZB.out; clear HMC q4)
                        obtain ⟨h9a, h9b, h9c, h9d, h9e, h9f, h9g⟩ := H9.out
                        have HNX := link_all H7.out.1 H7.out.2 HP6.out HVN.out HD.out HT.out (.inl ⟨rfl, rfl⟩) HLE.out HAX.out.1 HAX.out.2.1 HAX.out.2.2 (H8.out.2.trans h9b (fun _ _ h => h)) h9a h9c h9d h9e h9f h9g
                        unfold lkW at HNX
                        rw [h9c, HDA.out] at HNX
                        have HNX := Lib.hid HNX
                        clear h9a h9b h9c h9d h9e h9f h9g
                        go_roundg ((G' .root).length)
                        case measure => have := HNX.out.2.2.2; omega
                        case rel => exact ⟨_, m, tc, _, o, _, G', rfl, rfl, Nat.le_refl _, hm, Lib.hid ⟨HNX.out.1, HNX.out.2.1, HNX.out.2.2.1⟩⟩
                      · have hl : (FloatKind.f64.format.order (F.pr o) (F.pr c) == some .lt) = false := by have := HLT.out; rw [decide_eq_false hlt] at this; exact this
                        have HLE : Hid (fval (F.pr c) ≤ fval (F.pr o)) := Lib.hid (by omega)
                        have hax : c ∈ G .root := HCR.out
                        have hzx : o ∈ G .root := HOR.out
                        have hne : c ≠ o := (fun e => HOC.out e.symm)
                        clear HLT hlt
                        go_region
                        go_upto_region 41 with fail
                        refine gen_wp (S := fun w7 => Cs hb x A pr w w7 F G h ∧ Sl w w7 (some ⟨bv, 0, none⟩) nv vc V (some ⟨bt, 0, none⟩) m tc (T.set d none)) (by first | exact HI6.out | exact ⟨HI6.out.1.drewN _, HI6.out.2.drewN _⟩ | exact ⟨(HI6.out.1.drewN _).drewN _, (HI6.out.2.drewN _).drewN _⟩) ?_
                        intro w7 H7
                        have H7 := Lib.hid H7
                        clear HI6 c0 c1 hl
                        obtain ⟨n1, n2, n3, n4⟩ := uk_ne H7.out.1.fo hax hzx hne
                        have HZB : Hid (o ∈ A.erase x) := Lib.hid (H7.out.1.fo.mem hzx)
                        have HAB : Hid (c ∈ A.erase x) := Lib.hid (H7.out.1.fo.mem hax)
                        obtain ⟨u, hu⟩ : ∃ u, F.nx o = u := ⟨_, rfl⟩
                        obtain ⟨v, hv⟩ : ∃ v, F.pv o = v := ⟨_, rfl⟩
                        rw [hu] at n1 n3
                        rw [hv] at n2 n4
                        have n5 : o ≠ u := fun e => n1 e.symm
                        have n6 : o ≠ v := fun e => n2 e.symm
                        have q0 := H7.out.1.mem.nx HZB.out
                        have q1 := H7.out.1.mem.pv HZB.out
                        have q2 := H7.out.1.mem.pv n3
                        have q3 := H7.out.1.mem.nx n4
                        have f0 := H7.out.1.mem.fr HZB.out
                        have f1 := H7.out.1.mem.fr n3
                        have f2 := H7.out.1.mem.fr n4
                        rw [hu] at q0
                        rw [hv] at q1
                        have HM0 : Hid (Mem (ukW w7 u v o) (Lk1 F o) (· ∈ A.erase x)) := Lib.hid (uk_mem H7.out.1.mem HZB.out n3 n4 hu hv)
                        have HB3 := Lib.hid n3
                        have HB4 := Lib.hid n4
                        have HAX := Lib.hid (And.intro hax (And.intro hzx hne))
                        generalize F.pv u = pu at q2
                        generalize F.nx v = nw at q3
                        clear hu hv n3 n4 hax hzx
                        go_region
                        go_upto_region 42 with fail
                        go_region
                        go_upto_region 45 with fail
                        refine gen_wp (S := fun w8 => Mem w8 (Lk1 F o) (· ∈ A.erase x) ∧ Only (· ∈ A.erase x) w7 w8) ⟨HM0.out.of_heap (by rfl), by repeat (first | exact Only.refl _ _ | exact Only.drewN (Only.refl _ _) _ | apply Only.drewN | apply Only.drew | refine Only.setCell ?_ _ _ (fun _ => by first | exact HZB.out | exact HB3.out | exact HB4.out))⟩ ?_
                        intro w8 H8
                        have H8 := Lib.hid H8
                        clear HM0 q0 q1 q2 q3 f0 f1 f2 n1 n2 n5 n6 hne
                        have q4 := H8.out.1.ch HAB.out
                        replace q4 : w8.cell? ⟨c, 4, none⟩ = some (po (F.ch c)) := q4
                        have HMC := Lib.hid (link_merge H7.out.1.fo HAX.out.1 HAX.out.2.1 HAX.out.2.2 H8.out.1)
                        generalize po (F.ch c) = vch at q4 HMC
                        have HDA : Hid (F.deg c = (d : Int)) := Lib.hid HD.out
                        have s1 : IntKind.i64.wrap ((d : Int) + 1) = (d : Int) + 1 := IntWalk.i64_in _ (by omega)
                        go_wp2_with (go_at_call 40; (with_reducible refine HMC.out.mono ?_); rintro e w9 ⟨y, F1, G', rfl, H9⟩; have H9 := Lib.hid H9; have g0 := H9.out.1.ch HAB.out; have g1 := H9.out.1.pa HZB.out; have g2 := H9.out.1.mrk HZB.out; have g3 := H9.out.1.deg HAB.out; rw [H9.out.2.2.1, HDA.out] at g3; have f3 := H9.out.1.fr HAB.out; have f4 := H9.out.1.fr HZB.out; clear HMC q4)
                        obtain ⟨h9a, h9b, h9c, h9d, h9e, h9f, h9g⟩ := H9.out
                        have HNX := link_all H7.out.1 H7.out.2 HP6.out HVN.out HD.out HT.out (.inr ⟨rfl, rfl⟩) HLE.out HAX.out.1 HAX.out.2.1 HAX.out.2.2 (H8.out.2.trans h9b (fun _ _ h => h)) h9a h9c h9d h9e h9f h9g
                        unfold lkW at HNX
                        rw [h9c, HDA.out] at HNX
                        have HNX := Lib.hid HNX
                        clear h9a h9b h9c h9d h9e h9f h9g
                        go_roundg ((G' .root).length)
                        case measure => have := HNX.out.2.2.2; omega
                        case rel => exact ⟨_, m, tc, _, c, _, G', rfl, rfl, Nat.le_refl _, hm, Lib.hid ⟨HNX.out.1, HNX.out.2.1, HNX.out.2.2.1⟩⟩
                  · have hdm' : (m : Int) ≤ (d : Int) := by omega
                    have HOW : Hid (OL 45 po wr ta m tc T) := Lib.hid HI.out.2.1.tr
                    go_wp2_with (at_builtin; refine wpList_append (m + 1) (T.map po ++ [Value.pointer none]) rfl _ _ _ _ rfl slE rfl (HOW.out.1.keep (S := fun _ => False) (by repeat (first | exact Only.refl _ _ | apply Only.alloc | apply Only.drew)) (fun _ _ => id)) rfl (Src.row (size := 1) (cs := #[Value.pointer none]) (t := 45) (fr := (0, 0)) Try.underlying52 (by exact heap_alloc_new _ _) 1 1 rfl (by simp [Value.oneCell'])) rfl rfl (by unfold maxLen; omega) (by omega) ?_)
                    intro ta2 tc2 w6 hG
                    have HN6 : Hid (Cs hb x A pr w w6 F G h ∧ Sl w w6 (some ⟨bv, 0, none⟩) nv vc V ta2 (m + 1) tc2 (T ++ [none]) ∧ Pc F G V (T ++ [none]) i h c) := Lib.hid (by
                      have h9 := Sl.grew HI.out.1 HI.out.2.1 hG
                      exact ⟨h9.1, h9.2, HI.out.2.2.grow⟩)
                    clear hG HOW HI c0
                    go_wp2_with fail
                    go_roundg (d + 1 - (m + 1))
                    case measure => omega
                    case rel => exact ⟨ta2, m + 1, tc2, T ++ [none], rfl, by omega, by omega, HN6⟩
            · have hin' : ¬ (i : Int) < (nv : Int) := by omega
              have HF : Hid (HpX wr hb (A.erase x) pr ∧ Only (Fp hb A) w wr ∧ X6 wr x (pr x)) := Lib.hid (by
                obtain ⟨h1, h2, h3⟩ := HI.out
                refine ⟨⟨F, G, some h, ⟨h1.ob, h1.mem, h1.fo, h1.ord, .inr ⟨h, rfl, h3.hr, fun r hr => ?_⟩, fun h9 => h1.nin (List.mem_of_mem_erase h9)⟩, h1.prr⟩, h1.only, h1.x6⟩
                obtain ⟨k, hk⟩ := List.getElem?_of_mem (h3.sub r hr)
                have := (List.getElem?_eq_some_iff.1 hk).1
                exact h3.low k r (by have := HNV.out; omega) hk)
              clear HI
              go_wp2_with fail
              go_ret2
              exact .inr ⟨x, HXA.out, HLL.out, rfl, HF.out.1, HF.out.2.1, HF.out.2.2⟩

end Go.Proofs.Ytpddddjfjmipfaa.fh
