/-
  insert: its end, the least and the greatest. Printed by gen_ins.py.
-/
import Derived.Test.YtcjifjfcjimefaaDoorZXfOk
namespace Go.Proofs.YtcjifjfcjimefaaDoor.xf
open Go.RowKit Go.Proofs.YtcjifjfcjimefaaDoor.base Go.Proofs.YtcjifjfcjimefaaDoor.heap Go.Proofs.YtcjifjfcjimefaaDoor.rows Go.Proofs.YtcjifjfcjimefaaDoor.mapn
set_option linter.unusedVariables false
variable [Inhabited Kd]

/-- the code from a region on -/
def firstReg : Code → Option Nat
  | .region n _ _ => some n
  | .seq a _ => firstReg a
  | .block _ c => firstReg c
  | .scope c => firstReg c
  | .loop c => firstReg c
  | _ => none
def codeFrom (n : Nat) : Code → Option Code
  | .seq a b => if firstReg (.seq a b) = some n then some (.seq a b) else
    match codeFrom n a with
    | some c => some c
    | none => codeFrom n b
  | .block i c => if firstReg c = some n then some (.block i c) else codeFrom n c
  | .scope c => if firstReg c = some n then some (.scope c) else codeFrom n c
  | .loop c => if firstReg c = some n then some (.loop c) else codeFrom n c
  | .region m o d => if m = n then some (.region m o d) else none
  | .cond t a b => match codeFrom n a with
    | some c => some c
    | none => codeFrom n b
  | _ => none
noncomputable def tail46 : Code := (Tryd.f49.body.bind (codeFrom 46)).getD .skip
/-- said at the end: the ends are those of the new keys -/
def EndP (T : Sh) (tb lb root num : Nat) (w : World) (P : Ending → World → Prop) : Prop := ∀ w' mn' mx', Only (fun k => k = tb) w w' → TObj w' tb lb T.m root num mn' mx' → Ends T mn' mx' → P (.returned (.tuple #[])) w'
omit [Inhabited Kd] in
theorem TObj.mx {w : World} {tb lb m root num : Nat} {mn mx : Option Nat} (h : TObj w tb lb m root num mn mx) (b : Nat) : TObj (w.setCell ⟨tb, 6, none⟩ (pb b)) tb lb m root num mn (some b) := ⟨setCell_heap h.obj 6 (pb b)⟩
omit [Inhabited Kd] in
theorem TObj.mn {w : World} {tb lb m root num : Nat} {mn mx : Option Nat} (h : TObj w tb lb m root num mn mx) (b : Nat) : TObj (w.setCell ⟨tb, 5, none⟩ (pb b)) tb lb m root num (some b) mx := ⟨setCell_heap h.obj 5 (pb b)⟩
set_option maxRecDepth 1000000 in
set_option maxHeartbeats 6400000 in
theorem end46 (wr : World) (S T : Sh) (tb lb root num x bx : Nat) (mn mx : Option Nat) (P : Ending → World → Prop) (hM : Mem wr T) (hT : TObj wr tb lb T.m root num mn mx) (hm : T.m = S.m) (hK : ∀ k, T.K k ↔ S.K k ∨ k = x) (hlf : ∀ k, S.K k → S.lk S.m k = T.lk T.m k) (hbx : T.lk T.m x = some bx) (hE : Ends S mn mx) (hP : EndP T tb lb root num wr P) (hKE : ∀ wx, Only (fun k => k = tb) wr wx → ∀ k, T.K k → okK wx k (T.ent k)) (u1 u2 u3 u6 u7 u8 u9 u10 u11 u12 u13 u14 u15 u16 u17 u18 u19 u20 u21 u22 u23 u24 u25 u26 u27 u28 u29 u30 u31 u32 u33 u34 u35 u36 u37 u38 u39 u40 u41 u42 u43 u44 u45 u46 u47 u48 u49 u50 u51 u52 u53 u54 u55 u56 u57 u58 u59 u60 u61 u62 u63 u64 u65 u66 u67 u68 u69 u70 u71 u72 u73 u74 u75 u76 u77 u78 u79 u80 u81 u82 u83 u84 u85 u86 u87 u88 u89 u90 u91 u92 u93 u94 u95 u96 u97 u98 u99 u100 u101 u102 u103 u104 u105 u106 u107 u108 u109 u110 u111 u112 u113 u114 u115 u116 u117 u118 u119 u120 u121 u122 u123 u124 u125 u126 u127 u128 u129 u130 u131 u132 u133 u134 u135 u136 u137 u138 u139 u140 u141 u142 u143 u144 u145 u146 u147 u148 u149 u150 u151 u152 u153 u154 u155 u156 u157 u158 u159 u160 u161 u162 u163 u164 u165 u166 u167 u168 u169 u170 u171 u172 u173 u174 u175 u176 u177 u178 u179 u180 u181 u182 u183 u184 u185 u186 u187 u188 u189 u190 u191 u192 u193 u194 u195 u196 u197 u198 u199 u200 u201 u202 u203 u204 u205 u206 u207 u208 u209 u210 u211 u212 u213 u214 u215 u216 u217 u218 u219 u220 u221 u222 u223 u224 u225 u226 u227 u228 u229 u230 u231 u232 u233 u234 u235 u236 u237 u238 u239 u240 u241 u242 u243 u244 u245 u246 u247 u248 u249 u250 u251 u252 u253 u254 u255 u256 u257 u258 u259 u260 u261 u262 u263 u264 u265 u266 u267 u268 u269 u270 u271 u272 u273 u274 u275 u276 u277 u278 u279 u280 u281 u282 u283 u284 u285 u286 u287 u288 u289 u290 u291 u292 u293 u294 u295 : Value) :
    Code.wp Tryd.prog tail46 (bodyPost Tryd.prog Tryd.f49 P) ⟨(pb tb :: u1 :: u2 :: u3 :: .int .u64 (x : Int) :: pb bx :: u6 :: u7 :: u8 :: u9 :: u10 :: u11 :: u12 :: u13 :: u14 :: u15 :: u16 :: u17 :: u18 :: u19 :: u20 :: u21 :: u22 :: u23 :: u24 :: u25 :: u26 :: u27 :: u28 :: u29 :: u30 :: u31 :: u32 :: u33 :: u34 :: u35 :: u36 :: u37 :: u38 :: u39 :: u40 :: u41 :: u42 :: u43 :: u44 :: u45 :: u46 :: u47 :: u48 :: u49 :: u50 :: u51 :: u52 :: u53 :: u54 :: u55 :: u56 :: u57 :: u58 :: u59 :: u60 :: u61 :: u62 :: u63 :: u64 :: u65 :: u66 :: u67 :: u68 :: u69 :: u70 :: u71 :: u72 :: u73 :: u74 :: u75 :: u76 :: u77 :: u78 :: u79 :: u80 :: u81 :: u82 :: u83 :: u84 :: u85 :: u86 :: u87 :: u88 :: u89 :: u90 :: u91 :: u92 :: u93 :: u94 :: u95 :: u96 :: u97 :: u98 :: u99 :: u100 :: u101 :: u102 :: u103 :: u104 :: u105 :: u106 :: u107 :: u108 :: u109 :: u110 :: u111 :: u112 :: u113 :: u114 :: u115 :: u116 :: u117 :: u118 :: u119 :: u120 :: u121 :: u122 :: u123 :: u124 :: u125 :: u126 :: u127 :: u128 :: u129 :: u130 :: u131 :: u132 :: u133 :: u134 :: u135 :: u136 :: u137 :: u138 :: u139 :: u140 :: u141 :: u142 :: u143 :: u144 :: u145 :: u146 :: u147 :: u148 :: u149 :: u150 :: u151 :: u152 :: u153 :: u154 :: u155 :: u156 :: u157 :: u158 :: u159 :: u160 :: u161 :: u162 :: u163 :: u164 :: u165 :: u166 :: u167 :: u168 :: u169 :: u170 :: u171 :: u172 :: u173 :: u174 :: u175 :: u176 :: u177 :: u178 :: u179 :: u180 :: u181 :: u182 :: u183 :: u184 :: u185 :: u186 :: u187 :: u188 :: u189 :: u190 :: u191 :: u192 :: u193 :: u194 :: u195 :: u196 :: u197 :: u198 :: u199 :: u200 :: u201 :: u202 :: u203 :: u204 :: u205 :: u206 :: u207 :: u208 :: u209 :: u210 :: u211 :: u212 :: u213 :: u214 :: u215 :: u216 :: u217 :: u218 :: u219 :: u220 :: u221 :: u222 :: u223 :: u224 :: u225 :: u226 :: u227 :: u228 :: u229 :: u230 :: u231 :: u232 :: u233 :: u234 :: u235 :: u236 :: u237 :: u238 :: u239 :: u240 :: u241 :: u242 :: u243 :: u244 :: u245 :: u246 :: u247 :: u248 :: u249 :: u250 :: u251 :: u252 :: u253 :: u254 :: u255 :: u256 :: u257 :: u258 :: u259 :: u260 :: u261 :: u262 :: u263 :: u264 :: u265 :: u266 :: u267 :: u268 :: u269 :: u270 :: u271 :: u272 :: u273 :: u274 :: u275 :: u276 :: u277 :: u278 :: u279 :: u280 :: u281 :: u282 :: u283 :: u284 :: u285 :: u286 :: u287 :: u288 :: u289 :: u290 :: u291 :: u292 :: u293 :: u294 :: u295 :: []).toArray, []⟩ wr := by
  have HP := Lib.hid hP
  conv => arg 2; whnf
  rcases hE with ⟨h0, rfl, rfl⟩ | ⟨k1, k2, h1, h2, h12, rfl, rfl⟩
  · have t5 : wr.cell? ⟨tb, 5, none⟩ = some (.pointer none) := block_cell hT.obj rfl
    have t6 : wr.cell? ⟨tb, 6, none⟩ = some (.pointer none) := block_cell hT.obj rfl
    have tf : ∀ i, wr.frozen? ⟨tb, i, none⟩ = false := fun i => block_free hT.obj
    have lt := lt_of_heap hT.obj
    have HF : Hid (P (.returned (.tuple #[])) ((wr.setCell ⟨tb, 6, none⟩ (pb bx)).setCell ⟨tb, 5, none⟩ (pb bx))) := Lib.hid (hP _ (some bx) (some bx) (((Only.refl (fun k => k = tb) wr).setCell ⟨tb, 6, none⟩ _ (fun _ => rfl)).setCell ⟨tb, 5, none⟩ _ (fun _ => rfl)) ((hT.mx bx).mn bx) (.inr ⟨x, x, (hK x).2 (.inr rfl), (hK x).2 (.inr rfl), fun k hk => by
      rcases (hK k).1 hk with h | rfl
      · exact absurd h (h0 k)
      · exact ⟨Nat.le_refl _, Nat.le_refl _⟩, hbx.symm, hbx.symm⟩))
    clear hM hT hK hlf hbx hP h0 hm hKE
    go_wp2_with fail
    go_end0
    exact HF.out
  · have h1T := (hK k1).2 (.inl h1)
    have h2T := (hK k2).2 (.inl h2)
    obtain ⟨b1, hb1⟩ := h1T.get
    obtain ⟨b2, hb2⟩ := h2T.get
    rw [hlf k1 h1, hlf k2 h2, hb1, hb2] at hT
    have n1 := hM.leaf hb1
    have n2 := hM.leaf hb2
    have e1 := n1.e
    have e2 := n2.e
    have l1 := n1.lt
    have l2 := n2.lt
    have m1 := methodK k1 (T.ent k1)
    have m2 := methodK k2 (T.ent k2)
    have q1 := nilK k1 (T.ent k1)
    have q2 := nilK k2 (T.ent k2)
    have d1 : b1 ≠ tb := n1.ne_T hT
    have d2 : b2 ≠ tb := n2.ne_T hT
    obtain ⟨y1, hy1⟩ : ∃ y, T.ent k1 = y := ⟨_, rfl⟩
    obtain ⟨y2, hy2⟩ : ∃ y, T.ent k2 = y := ⟨_, rfl⟩
    have cfK := runK
    have HKEY1 : Hid (∀ wx, Only (fun k => k = tb) wr wx → Calls Tryd.prog keyK #[payK k1 y1] wx fun en w' => en = .returned (.int .u64 (k1 : Int)) ∧ Same wx w') := Lib.hid (fun wx hx => by rw [← hy1]; exact key_of k1 _ wx (hKE wx hx k1 h1T))
    have HKEY2 : Hid (∀ wx, Only (fun k => k = tb) wr wx → Calls Tryd.prog keyK #[payK k2 y2] wx fun en w' => en = .returned (.int .u64 (k2 : Int)) ∧ Same wx w') := Lib.hid (fun wx hx => by rw [← hy2]; exact key_of k2 _ wx (hKE wx hx k2 h2T))
    rw [hy1] at e1 m1 q1
    rw [hy2] at e2 m2 q2
    have HT := Lib.hid hT
    have HK := Lib.hid hK
    have H12 := Lib.hid h12
    have HB := Lib.hid (And.intro hb1 (And.intro hb2 hbx))
    have HKK := Lib.hid (And.intro h1T h2T)
    have t5 : wr.cell? ⟨tb, 5, none⟩ = some (pb b1) := block_cell hT.obj rfl
    have t6 : wr.cell? ⟨tb, 6, none⟩ = some (pb b2) := block_cell hT.obj rfl
    have tf : ∀ i, wr.frozen? ⟨tb, i, none⟩ = false := fun i => block_free hT.obj
    have lt := lt_of_heap hT.obj
    have HE1 := Lib.hid e1
    have H18 : Hid (k1 ≤ k2) := Lib.hid (h12 k2 h2).1
    clear hM hT hK hlf hbx hP h12 hm n1 n2 hb1 hb2 h1T h2T h1 h2 hy1 hy2 hKE
    go_wp2_with fail
    refine (HKEY2.out _ (Only.refl _ _)).mono ?_
    rintro e w1 ⟨rfl, hs1⟩
    have HS1 := Lib.hid hs1
    have HT1 := Lib.hid (HT.out.still hs1)
    clear hs1 t5 t6 tf lt e1 e2
    have t5 : w1.cell? ⟨tb, 5, none⟩ = some (pb b1) := block_cell HT1.out.obj rfl
    have t6 : w1.cell? ⟨tb, 6, none⟩ = some (pb b2) := block_cell HT1.out.obj rfl
    have tf : ∀ i, w1.frozen? ⟨tb, i, none⟩ = false := fun i => block_free HT1.out.obj
    have lt := lt_of_heap HT1.out.obj
    have e1 : w1.cell? ⟨b1, 0, none⟩ = some (item k1 y1) := (HS1.out.cell (p := ⟨b1, 0, none⟩) l1 id).trans HE1.out
    have l1' : b1 < w1.heap.size := Nat.lt_of_lt_of_le l1 HS1.out.size
    by_cases g2 : (k2 : Int) < (x : Int)
    · -- a new greatest one
      have HW2 : Hid (Only (fun k => k = tb) w1 (w1.setCell ⟨tb, 6, none⟩ (pb bx)) ∧ TObj (w1.setCell ⟨tb, 6, none⟩ (pb bx)) tb lb T.m root num (some b1) (some bx)) := Lib.hid ⟨(Only.refl _ _).setCell ⟨tb, 6, none⟩ _ (fun _ => rfl), HT1.out.mx bx⟩
      go_wp2_with fail
      refine (HKEY1.out _ (Only.trans (S := fun k => k = tb) (HS1.out.mono (fun _ _ f => f.elim)) HW2.out.1 (fun _ _ h => h))).mono ?_
      rintro e w3 ⟨rfl, hs3⟩
      have HT3 := Lib.hid (HW2.out.2.still hs3)
      have HO3 : Hid (Only (fun k => k = tb) wr w3) := Lib.hid (Only.trans (S := fun k => k = tb) (HS1.out.mono (fun _ _ f => f.elim)) (Only.trans (S := fun k => k = tb) HW2.out.1 (hs3.mono (fun _ _ f => f.elim)) (fun _ _ h => h)) (fun _ _ h => h))
      have g1 : ¬ (x : Int) < (k1 : Int) := by have := H18.out; omega
      clear hs3
      go_wp2_with fail
      go_end0
      exact HP.out w3 (some b1) (some bx) HO3.out HT3.out (.inr ⟨k1, x, HKK.out.1, (HK.out x).2 (.inr rfl), fun k hk => by
        rcases (HK.out k).1 hk with h | rfl
        · have := H12.out k h; exact ⟨this.1, by omega⟩
        · exact ⟨by omega, Nat.le_refl _⟩, HB.out.1.symm, HB.out.2.2.symm⟩)
    · by_cases g1 : (x : Int) < (k1 : Int)
      · go_wp2_with fail
        refine (HKEY1.out _ (HS1.out.mono (fun _ _ f => f.elim))).mono ?_
        rintro e w3 ⟨rfl, hs3⟩
        have HT3 := Lib.hid (HT1.out.still hs3)
        have tf : ∀ i, w3.frozen? ⟨tb, i, none⟩ = false := fun i => block_free HT3.out.obj
        have lt3 := lt_of_heap HT3.out.obj
        have t5 : w3.cell? ⟨tb, 5, none⟩ = some (pb b1) := block_cell HT3.out.obj rfl
        have HO3 : Hid (Only (fun k => k = tb) wr (w3.setCell ⟨tb, 5, none⟩ (pb bx))) := Lib.hid (Only.trans (S := fun k => k = tb) (HS1.out.mono (fun _ _ f => f.elim)) (Only.trans (S := fun k => k = tb) (hs3.mono (fun _ _ f => f.elim)) ((Only.refl (fun k => k = tb) w3).setCell ⟨tb, 5, none⟩ _ (fun _ => rfl)) (fun _ _ h => h)) (fun _ _ h => h))
        clear hs3
        go_wp2_with fail
        go_end0
        exact HP.out _ (some bx) (some b2) HO3.out (HT3.out.mn bx) (.inr ⟨x, k2, (HK.out x).2 (.inr rfl), HKK.out.2, fun k hk => by
          rcases (HK.out k).1 hk with h | rfl
          · have := H12.out k h; exact ⟨by omega, this.2⟩
          · exact ⟨Nat.le_refl _, by omega⟩, HB.out.2.2.symm, HB.out.2.1.symm⟩)
      · go_wp2_with fail
        refine (HKEY1.out _ (HS1.out.mono (fun _ _ f => f.elim))).mono ?_
        rintro e w3 ⟨rfl, hs3⟩
        have HT3 := Lib.hid (HT1.out.still hs3)
        have HO3 : Hid (Only (fun k => k = tb) wr w3) := Lib.hid ((HS1.out.trans hs3).mono (fun _ _ f => f.elim))
        clear hs3
        go_wp2_with fail
        go_end0
        exact HP.out w3 (some b1) (some b2) HO3.out HT3.out (.inr ⟨k1, k2, HKK.out.1, HKK.out.2, fun k hk => by
          rcases (HK.out k).1 hk with h | rfl
          · exact H12.out k h
          · exact ⟨by omega, by omega⟩, HB.out.1.symm, HB.out.2.1.symm⟩)
end Go.Proofs.YtcjifjfcjimefaaDoor.xf
