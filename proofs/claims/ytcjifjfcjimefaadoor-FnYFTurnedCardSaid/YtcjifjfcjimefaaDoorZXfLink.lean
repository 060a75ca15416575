/-
  insert: the links and the walks up. Printed by gen_link.py.
-/
import Derived.Test.YtcjifjfcjimefaaDoorZXfMid
namespace Go.Proofs.YtcjifjfcjimefaaDoor.xf
open Go.RowKit Go.Proofs.YtcjifjfcjimefaaDoor.base Go.Proofs.YtcjifjfcjimefaaDoor.heap Go.Proofs.YtcjifjfcjimefaaDoor.rows Go.Proofs.YtcjifjfcjimefaaDoor.mapn
set_option linter.unusedVariables false
variable [Inhabited Kd]

noncomputable def tail31 : Code := (Tryd.f49.body.bind (codeFrom 31)).getD .skip
/-- the links, and what the first two walks up made of them -/
structure Pre (S : Sh) (D x : Nat) (v : Int) (nb : Nat → Nat) (pr su rt : Option Nat) (g f1 f2 : Cf) : Prop where
  gin : ∀ d p t, d < S.m → g d p t = chg S.m S.ch D x nb S.m d p t
  gx0 : g S.m x 0 = pr
  gx1 : g S.m x 1 = su
  gs0 : ∀ k, S.K k → su = S.lk S.m k → g S.m k 0 = some (nb S.m)
  gp1 : ∀ k, S.K k → pr = S.lk S.m k → g S.m k 1 = some (nb S.m)
  go0 : ∀ k, S.K k → su ≠ S.lk S.m k → g S.m k 0 = S.ch S.m k 0
  go1 : ∀ k, S.K k → pr ≠ S.lk S.m k → g S.m k 1 = S.ch S.m k 1
  u0 : ∀ d p t, f1 d p t = g d p t ∨ (t = 0 ∧ d < S.m ∧ (∃ k, S.K k ∧ su = S.lk S.m k ∧ p = pre S.m d k) ∧ f1 d p t = some (nb S.m) ∧ NotIn (S.grow D x v nb S.m) (g d p t))
  n0 : ∀ k, S.K k → su = S.lk S.m k → ∀ d, d < S.m → (∀ d', d ≤ d' → d' < S.m → lkg S.m S.lk D x nb S.m d' (pre S.m d' k) ≠ rt) → g d (pre S.m d k) 0 = none → f1 d (pre S.m d k) 0 = some (nb S.m)
  u1 : ∀ d p t, f2 d p t = f1 d p t ∨ (t = 1 ∧ d < S.m ∧ (∃ k, S.K k ∧ pr = S.lk S.m k ∧ p = pre S.m d k) ∧ f2 d p t = some (nb S.m) ∧ NotIn (S.grow D x v nb S.m) (f1 d p t))
  n1 : ∀ k, S.K k → pr = S.lk S.m k → ∀ d, d < S.m → (∀ d', d ≤ d' → d' < S.m → lkg S.m S.lk D x nb S.m d' (pre S.m d' k) ≠ rt) → f1 d (pre S.m d k) 1 = none → f2 d (pre S.m d k) 1 = some (nb S.m)
/-- what is known at the links -/
structure Lnk (w : World) (S : Sh) (D x : Nat) (v : Int) (nb : Nat → Nat) (bx tb lb root num : Nat) (md : Nat → Nat) (mn mx rt : Option Nat) (P : Ending → World → Prop) : Prop where
  ok : S.Ok
  deep : S.Deep D x
  inj : Inj (S.grow D x v nb S.m)
  tree : Tree S.m (lkg S.m S.lk D x nb S.m)
  mdi : ∀ i j, i < S.m → j < S.m → md i = md j → i = j
  bx : nb S.m = bx
  rt0 : S.lk 0 0 = some root
  ends : Ends S mn mx
  hrt : rt = if D = 0 then none else S.lk D (pre S.m D x)
  p : InsP S D x v tb lb root num md w P
section
variable {w wl : World} {S : Sh} {D x : Nat} {v : Int} {nb : Nat → Nat} {bx tb lb root num : Nat} {md : Nat → Nat} {mn mx rt pr su : Option Nat} {P : Ending → World → Prop} {g f1 f2 : Cf}
theorem Lnk.lx (h : Lnk w S D x v nb bx tb lb root num md mn mx rt P) : lkg S.m S.lk D x nb S.m S.m x = some bx := by rw [grow_lx h.deep, h.bx]
theorem Lnk.lf (h : Lnk w S D x v nb bx tb lb root num md mn mx rt P) {k : Nat} (hk : S.K k) : lkg S.m S.lk D x nb S.m S.m k = S.lk S.m k := grow_lf h.deep (K_ne h.deep h.ok hk)
theorem Lnk.rt' (h : Lnk w S D x v nb bx tb lb root num md mn mx rt P) : rt = none ∨ ∃ d p, d < S.m ∧ rt = lkg S.m S.lk D x nb S.m d p := by
  by_cases h0 : D = 0
  · left; rw [h.hrt, if_pos h0]
  · right
    exact ⟨D, _, h.deep.d, by rw [h.hrt, if_neg h0, grow_low (Nat.le_refl _)]⟩
theorem Lnk.uniq (h : Lnk w S D x v nb bx tb lb root num md mn mx rt P) {k k' b : Nat} (h1 : S.lk S.m k = some b) (h2 : some b = S.lk S.m k') : k' = k := (h.ok.inj S.m k S.m k' b (Nat.le_refl _) (Nat.le_refl _) h1 h2.symm).2.symm
theorem Lnk.up (h : Lnk w S D x v nb bx tb lb root num md mn mx rt P) (hb : Bd w wl S D x v nb tb lb root num md mn mx f2) (hp : Pre S D x v nb pr su rt g f1 f2) (hpr : pr = none ∨ ∃ k, S.K k ∧ pr = S.lk S.m k) (hsu : su = none ∨ ∃ k, S.K k ∧ su = S.lk S.m k) :
    Calls Tryd.prog 68 #[op (some tb), op rt, op (some bx), op pr, op su] wl (NdP ((S.grow D x v nb S.m).w f2) x rt bx pr su wl) := by
  have hm := h.ok.m2
  have hmid := mid_ch h.deep h.ok h.inj h.hrt hp.gin hp.u0 hp.u1
  have hK := grow_K (v := v) (nb := nb) (f := f2) h.deep
  have hne : ∀ c, (c = none ∨ ∃ k, S.K k ∧ c = S.lk S.m k) → c ≠ some bx := fun c hc e => by
    rcases hc with hc | ⟨k, hk, hc⟩
    · rw [hc] at e; cases e
    · have := (h.inj S.m k S.m x bx (Nat.le_refl _) (Nat.le_refl _) (by show lkg S.m S.lk D x nb S.m S.m k = some bx; rw [h.lf hk, ← hc, e]) h.lx).2
      exact K_ne h.deep h.ok hk this
  have hup : ∀ c, (c = none ∨ ∃ k, S.K k ∧ c = S.lk S.m k) → (c = none ∨ ∃ k, ((S.grow D x v nb S.m).w f2).K k ∧ c = ((S.grow D x v nb S.m).w f2).lk S.m k) := fun c hc => hc.imp id (fun ⟨k, hk, e⟩ => ⟨k, (hK k).2 (.inl hk), e.trans (h.lf hk).symm⟩)
  exact walkUpN wl ((S.grow D x v nb S.m).w f2) tb bx x rt pr su hb.mem h.inj (by show 1 ≤ S.m; omega) (fun d hd => grow_ne h.deep h.ok hd) h.lx
    (fun d hd hh => by have := hmid d hd hh 0 (by omega); rw [h.bx] at this; exact this) (fun d hd hh => by have := hmid d hd hh 1 (by omega); rw [h.bx] at this; exact this) h.rt' (hup pr hpr) (hup su hsu) (hne pr hpr) (hne su hsu)
/-- the end -/
theorem Lnk.fin (h : Lnk w S D x v nb bx tb lb root num md mn mx rt P) (hb : Bd w wl S D x v nb tb lb root num md mn mx f2) (hp : Pre S D x v nb pr su rt g f1 f2) (hn : Nb S x pr su) {wc : World} (hc : NdP ((S.grow D x v nb S.m).w f2) x rt bx pr su wl (.returned (.tuple #[])) wc) :
    ∃ f3, Mem wc ((S.grow D x v nb S.m).w f3) ∧ TObj wc tb lb S.m root (num + 1) mn mx ∧ EndP ((S.grow D x v nb S.m).w f3) tb lb root (num + 1) wc P ∧ ∀ wx, Only (fun k => k = tb) wc wx → ∀ k, ((S.grow D x v nb S.m).w f3).K k → okK wx k (((S.grow D x v nb S.m).w f3).ent k) := by
  obtain ⟨_, f3, hm3, ho3, j, hj, hjr, hoff, hdone, hne⟩ := hc
  have hway : Way S D x v nb pr su rt g f1 f2 f3 j := ⟨hp.gin, hp.gx0, hp.gx1, hp.gs0, hp.gp1, hp.go0, hp.go1, hp.u0, hp.n0, hp.u1, hp.n1, hj, hjr, hoff, fun d h1 h2 => by rw [h.bx]; exact hdone d h1 h2, hne⟩
  have hfi := hway.fi h.deep h.ok h.inj h.hrt hn
  have hok := insert_ok (v := v) h.ok h.deep h.inj h.tree hn hfi
  have hbd := hb.inn hm3 ho3
  refine ⟨f3, hbd.mem, hbd.obj, fun w' mn' mx' ho' ht' he' => h.p.1 w' f3 nb mn' mx' ⟨hok, ?_, ?_, h.mdi, ht', ?_, he'⟩ ?_ hbd.own, ?_⟩
  · exact hbd.mem.keep ho' (fun d p b h1 h2 e => (hbd.mem d p b h1 h2).ne_T hbd.obj e)
  · exact hbd.lay.keep ho' (fun e => (hbd.obj.ne_lb hbd.lay) e.symm) (fun i hi e => by
      obtain ⟨f9, h6, _⟩ := hbd.lay.maps i hi
      exact (hbd.obj.ne_md h6) e.symm)
  · show lkg S.m S.lk D x nb S.m 0 0 = some root
    rw [grow_low (Nat.zero_le _)]; exact h.rt0
  · exact hbd.only.trans ho' (fun k _ e => .inl e)
  · intro wx hx k hk
    have hko := h.p.2 wx (hbd.only.trans hx (fun k _ e => .inl e))
    show okK wx k (if k = x then v else S.ent k)
    rcases (grow_K (v := v) (nb := nb) (f := f3) h.deep k).1 hk with hk | rfl
    · by_cases e : k = x
      · subst e; rw [if_pos rfl]; exact hko _ _ (.inl ⟨rfl, rfl⟩)
      · rw [if_neg e]; exact hko _ _ (.inr ⟨hk, rfl⟩)
    · rw [if_pos rfl]; exact hko _ _ (.inl ⟨rfl, rfl⟩)
end
set_option maxRecDepth 1000000 in
set_option maxHeartbeats 6400000 in
theorem lk31E (w wr : World) (S : Sh) (D x : Nat) (v : Int) (nb : Nat → Nat) (bx tb lb root num : Nat) (md : Nat → Nat) (mn mx rt : Option Nat) (V6 V7 V9 : Value) (P : Ending → World → Prop) (h : Lnk w S D x v nb bx tb lb root num md mn mx rt P) (hb : Bd w wr S D x v nb tb lb root num md mn mx (chg S.m S.ch D x nb S.m)) (hV6 : V6 = .pointer none) (hV7 : V7 = .pointer none) (hK : ∀ k, ¬ S.K k) (hV9 : V9 = op rt) (u1 u2 u3 u8 u10 u11 u12 u13 u14 u15 u16 u17 u18 u19 u20 u21 u22 u23 u24 u25 u26 u27 u28 u29 u30 u31 u32 u33 u34 u35 u36 u37 u38 u39 u40 u41 u42 u43 u44 u45 u46 u47 u48 u49 u50 u51 u52 u53 u54 u55 u56 u57 u58 u59 u60 u61 u62 u63 u64 u65 u66 u67 u68 u69 u70 u71 u72 u73 u74 u75 u76 u77 u78 u79 u80 u81 u82 u83 u84 u85 u86 u87 u88 u89 u90 u91 u92 u93 u94 u95 u96 u97 u98 u99 u100 u101 u102 u103 u104 u105 u106 u107 u108 u109 u110 u111 u112 u113 u114 u115 u116 u117 u118 u119 u120 u121 u122 u123 u124 u125 u126 u127 u128 u129 u130 u131 u132 u133 u134 u135 u136 u137 u138 u139 u140 u141 u142 u143 u144 u145 u146 u147 u148 u149 u150 u151 u152 u153 u154 u155 u156 u157 u158 u159 u160 u161 u162 u163 u164 u165 u166 u167 u168 u169 u170 u171 u172 u173 u174 u175 u176 u177 u178 u179 u180 u181 u182 u183 u184 u185 u186 u187 u188 u189 u190 u191 u192 u193 u194 u195 u196 u197 u198 u199 u200 u201 u202 u203 u204 u205 u206 u207 u208 u209 u210 u211 u212 u213 u214 u215 u216 u217 u218 u219 u220 u221 u222 u223 u224 u225 u226 u227 u228 u229 u230 u231 u232 u233 u234 u235 u236 u237 u238 u239 u240 u241 u242 u243 u244 u245 u246 u247 u248 u249 u250 u251 u252 u253 u254 u255 u256 u257 u258 u259 u260 u261 u262 u263 u264 u265 u266 u267 u268 u269 u270 u271 u272 u273 u274 u275 u276 u277 u278 u279 u280 u281 u282 u283 u284 u285 u286 u287 u288 u289 u290 u291 u292 u293 u294 u295 : Value) :
    Code.wp Tryd.prog tail31 (bodyPost Tryd.prog Tryd.f49 P) ⟨(pb tb :: u1 :: u2 :: u3 :: .int .u64 (x : Int) :: pb bx :: V6 :: V7 :: u8 :: V9 :: u10 :: u11 :: u12 :: u13 :: u14 :: u15 :: u16 :: u17 :: u18 :: u19 :: u20 :: u21 :: u22 :: u23 :: u24 :: u25 :: u26 :: u27 :: u28 :: u29 :: u30 :: u31 :: u32 :: u33 :: u34 :: u35 :: u36 :: u37 :: u38 :: u39 :: u40 :: u41 :: u42 :: u43 :: u44 :: u45 :: u46 :: u47 :: u48 :: u49 :: u50 :: u51 :: u52 :: u53 :: u54 :: u55 :: u56 :: u57 :: u58 :: u59 :: u60 :: u61 :: u62 :: u63 :: u64 :: u65 :: u66 :: u67 :: u68 :: u69 :: u70 :: u71 :: u72 :: u73 :: u74 :: u75 :: u76 :: u77 :: u78 :: u79 :: u80 :: u81 :: u82 :: u83 :: u84 :: u85 :: u86 :: u87 :: u88 :: u89 :: u90 :: u91 :: u92 :: u93 :: u94 :: u95 :: u96 :: u97 :: u98 :: u99 :: u100 :: u101 :: u102 :: u103 :: u104 :: u105 :: u106 :: u107 :: u108 :: u109 :: u110 :: u111 :: u112 :: u113 :: u114 :: u115 :: u116 :: u117 :: u118 :: u119 :: u120 :: u121 :: u122 :: u123 :: u124 :: u125 :: u126 :: u127 :: u128 :: u129 :: u130 :: u131 :: u132 :: u133 :: u134 :: u135 :: u136 :: u137 :: u138 :: u139 :: u140 :: u141 :: u142 :: u143 :: u144 :: u145 :: u146 :: u147 :: u148 :: u149 :: u150 :: u151 :: u152 :: u153 :: u154 :: u155 :: u156 :: u157 :: u158 :: u159 :: u160 :: u161 :: u162 :: u163 :: u164 :: u165 :: u166 :: u167 :: u168 :: u169 :: u170 :: u171 :: u172 :: u173 :: u174 :: u175 :: u176 :: u177 :: u178 :: u179 :: u180 :: u181 :: u182 :: u183 :: u184 :: u185 :: u186 :: u187 :: u188 :: u189 :: u190 :: u191 :: u192 :: u193 :: u194 :: u195 :: u196 :: u197 :: u198 :: u199 :: u200 :: u201 :: u202 :: u203 :: u204 :: u205 :: u206 :: u207 :: u208 :: u209 :: u210 :: u211 :: u212 :: u213 :: u214 :: u215 :: u216 :: u217 :: u218 :: u219 :: u220 :: u221 :: u222 :: u223 :: u224 :: u225 :: u226 :: u227 :: u228 :: u229 :: u230 :: u231 :: u232 :: u233 :: u234 :: u235 :: u236 :: u237 :: u238 :: u239 :: u240 :: u241 :: u242 :: u243 :: u244 :: u245 :: u246 :: u247 :: u248 :: u249 :: u250 :: u251 :: u252 :: u253 :: u254 :: u255 :: u256 :: u257 :: u258 :: u259 :: u260 :: u261 :: u262 :: u263 :: u264 :: u265 :: u266 :: u267 :: u268 :: u269 :: u270 :: u271 :: u272 :: u273 :: u274 :: u275 :: u276 :: u277 :: u278 :: u279 :: u280 :: u281 :: u282 :: u283 :: u284 :: u285 :: u286 :: u287 :: u288 :: u289 :: u290 :: u291 :: u292 :: u293 :: u294 :: u295 :: []).toArray, []⟩ wr := by
  have HL := Lib.hid h
  have HB := Lib.hid hb
  have hm2 := h.ok.m2
  subst hV9
  have lx := h.lx
  have nx : Nd wr bx (item x (if x = x then v else S.ent x)) (chg S.m S.ch D x nb S.m S.m x 0) (chg S.m S.ch D x nb S.m S.m x 1) _ := Mem.leaf (S := (S.grow D x v nb S.m).w (chg S.m S.ch D x nb S.m)) hb.mem lx
  rw [chg_x h.deep, chg_x h.deep] at nx
  have x0 : wr.cell? ⟨bx, 1, none⟩ = some (.pointer none) := nx.c0
  have x1 : wr.cell? ⟨bx, 2, none⟩ = some (.pointer none) := nx.c1
  have xl := nx.lt
  have xf := nx.fr
  conv => arg 2; whnf
  subst hV6
  subst hV7
  have HBD := HB
  have HNB : Hid (Nb S x none none) := Lib.hid (.inl ⟨hK, rfl, rfl⟩)
  have HPRE : Hid (Pre S D x v nb none none rt (chg S.m S.ch D x nb S.m) (chg S.m S.ch D x nb S.m) (chg S.m S.ch D x nb S.m)) := Lib.hid ⟨fun _ _ _ _ => rfl, chg_x h.deep, chg_x h.deep, fun k hk => absurd hk (hK k), fun k hk => absurd hk (hK k), fun k hk _ => chg_leaf h.deep h.ok hk, fun k hk _ => chg_leaf h.deep h.ok hk, fun _ _ _ => .inl rfl, fun k hk => absurd hk (hK k), fun _ _ _ => .inl rfl, fun k hk => absurd hk (hK k)⟩
  clear h hb nx lx hK
  have HUP := Lib.hid (HL.out.up HBD.out HPRE.out (.inl rfl) (.inl rfl))
  go_upto_region 45 with fail
  go_cut [] (fun wx => Hid (NdP ((S.grow D x v nb S.m).w (chg S.m S.ch D x nb S.m)) x rt bx none none wr (.returned (.tuple #[])) wx))
  case first =>
    go_wp2_with fail
    refine HUP.out.mono ?_
    rintro e w9 h9
    obtain rfl := h9.1
    have H9 := Lib.hid h9
    clear h9
    go_wp2_with fail
    go_meet
    exact H9
  case rest =>
    obtain ⟨f3, g1, g2, g3, g4⟩ := HL.out.fin HBD.out HPRE.out HNB.out hcut.out
    refine (‹∀ (a : Act) (w_1 : World), Code.wp _ _ _ a w_1 → _› _ _ ?_)
    have hT := end46 wc S ((S.grow D x v nb S.m).w f3) tb lb root (num + 1) x bx mn mx P g1 g2 rfl (grow_K HL.out.deep) (fun k hk => (HL.out.lf hk).symm) HL.out.lx HL.out.ends g3 g4
    exact hT _ _ _ _ _ _ _ _ _ _ _ _ _ _ _ _ _ _ _ _ _ _ _ _ _ _ _ _ _ _ _ _ _ _ _ _ _ _ _ _ _ _ _ _ _ _ _ _ _ _ _ _ _ _ _ _ _ _ _ _ _ _ _ _ _ _ _ _ _ _ _ _ _ _ _ _ _ _ _ _ _ _ _ _ _ _ _ _ _ _ _ _ _ _ _ _ _ _ _ _ _ _ _ _ _ _ _ _ _ _ _ _ _ _ _ _ _ _ _ _ _ _ _ _ _ _ _ _ _ _ _ _ _ _ _ _ _ _ _ _ _ _ _ _ _ _ _ _ _ _ _ _ _ _ _ _ _ _ _ _ _ _ _ _ _ _ _ _ _ _ _ _ _ _ _ _ _ _ _ _ _ _ _ _ _ _ _ _ _ _ _ _ _ _ _ _ _ _ _ _ _ _ _ _ _ _ _ _ _ _ _ _ _ _ _ _ _ _ _ _ _ _ _ _ _ _ _ _ _ _ _ _ _ _ _ _ _ _ _ _ _ _ _ _ _ _ _ _ _ _ _ _ _ _ _ _ _ _ _ _ _ _ _ _ _ _ _ _ _ _ _ _ _ _ _ _ _ _ _ _ _ _ _ _ _ _ _ _ _ _ _ _ _
set_option maxRecDepth 1000000 in
set_option maxHeartbeats 6400000 in
theorem lk31A (w wr : World) (S : Sh) (D x : Nat) (v : Int) (nb : Nat → Nat) (bx tb lb root num : Nat) (md : Nat → Nat) (mn mx rt : Option Nat) (V6 V7 V9 : Value) (P : Ending → World → Prop) (h : Lnk w S D x v nb bx tb lb root num md mn mx rt P) (hb : Bd w wr S D x v nb tb lb root num md mn mx (chg S.m S.ch D x nb S.m)) (ks : Nat) (hks : S.K ks) (hmin : ∀ k, S.K k → ks ≤ k) (hlt : x < ks) (hV6 : V6 = .pointer none) (hV7 : V7 = op (S.lk S.m ks)) (hV9 : V9 = op rt) (u1 u2 u3 u8 u10 u11 u12 u13 u14 u15 u16 u17 u18 u19 u20 u21 u22 u23 u24 u25 u26 u27 u28 u29 u30 u31 u32 u33 u34 u35 u36 u37 u38 u39 u40 u41 u42 u43 u44 u45 u46 u47 u48 u49 u50 u51 u52 u53 u54 u55 u56 u57 u58 u59 u60 u61 u62 u63 u64 u65 u66 u67 u68 u69 u70 u71 u72 u73 u74 u75 u76 u77 u78 u79 u80 u81 u82 u83 u84 u85 u86 u87 u88 u89 u90 u91 u92 u93 u94 u95 u96 u97 u98 u99 u100 u101 u102 u103 u104 u105 u106 u107 u108 u109 u110 u111 u112 u113 u114 u115 u116 u117 u118 u119 u120 u121 u122 u123 u124 u125 u126 u127 u128 u129 u130 u131 u132 u133 u134 u135 u136 u137 u138 u139 u140 u141 u142 u143 u144 u145 u146 u147 u148 u149 u150 u151 u152 u153 u154 u155 u156 u157 u158 u159 u160 u161 u162 u163 u164 u165 u166 u167 u168 u169 u170 u171 u172 u173 u174 u175 u176 u177 u178 u179 u180 u181 u182 u183 u184 u185 u186 u187 u188 u189 u190 u191 u192 u193 u194 u195 u196 u197 u198 u199 u200 u201 u202 u203 u204 u205 u206 u207 u208 u209 u210 u211 u212 u213 u214 u215 u216 u217 u218 u219 u220 u221 u222 u223 u224 u225 u226 u227 u228 u229 u230 u231 u232 u233 u234 u235 u236 u237 u238 u239 u240 u241 u242 u243 u244 u245 u246 u247 u248 u249 u250 u251 u252 u253 u254 u255 u256 u257 u258 u259 u260 u261 u262 u263 u264 u265 u266 u267 u268 u269 u270 u271 u272 u273 u274 u275 u276 u277 u278 u279 u280 u281 u282 u283 u284 u285 u286 u287 u288 u289 u290 u291 u292 u293 u294 u295 : Value) :
    Code.wp Tryd.prog tail31 (bodyPost Tryd.prog Tryd.f49 P) ⟨(pb tb :: u1 :: u2 :: u3 :: .int .u64 (x : Int) :: pb bx :: V6 :: V7 :: u8 :: V9 :: u10 :: u11 :: u12 :: u13 :: u14 :: u15 :: u16 :: u17 :: u18 :: u19 :: u20 :: u21 :: u22 :: u23 :: u24 :: u25 :: u26 :: u27 :: u28 :: u29 :: u30 :: u31 :: u32 :: u33 :: u34 :: u35 :: u36 :: u37 :: u38 :: u39 :: u40 :: u41 :: u42 :: u43 :: u44 :: u45 :: u46 :: u47 :: u48 :: u49 :: u50 :: u51 :: u52 :: u53 :: u54 :: u55 :: u56 :: u57 :: u58 :: u59 :: u60 :: u61 :: u62 :: u63 :: u64 :: u65 :: u66 :: u67 :: u68 :: u69 :: u70 :: u71 :: u72 :: u73 :: u74 :: u75 :: u76 :: u77 :: u78 :: u79 :: u80 :: u81 :: u82 :: u83 :: u84 :: u85 :: u86 :: u87 :: u88 :: u89 :: u90 :: u91 :: u92 :: u93 :: u94 :: u95 :: u96 :: u97 :: u98 :: u99 :: u100 :: u101 :: u102 :: u103 :: u104 :: u105 :: u106 :: u107 :: u108 :: u109 :: u110 :: u111 :: u112 :: u113 :: u114 :: u115 :: u116 :: u117 :: u118 :: u119 :: u120 :: u121 :: u122 :: u123 :: u124 :: u125 :: u126 :: u127 :: u128 :: u129 :: u130 :: u131 :: u132 :: u133 :: u134 :: u135 :: u136 :: u137 :: u138 :: u139 :: u140 :: u141 :: u142 :: u143 :: u144 :: u145 :: u146 :: u147 :: u148 :: u149 :: u150 :: u151 :: u152 :: u153 :: u154 :: u155 :: u156 :: u157 :: u158 :: u159 :: u160 :: u161 :: u162 :: u163 :: u164 :: u165 :: u166 :: u167 :: u168 :: u169 :: u170 :: u171 :: u172 :: u173 :: u174 :: u175 :: u176 :: u177 :: u178 :: u179 :: u180 :: u181 :: u182 :: u183 :: u184 :: u185 :: u186 :: u187 :: u188 :: u189 :: u190 :: u191 :: u192 :: u193 :: u194 :: u195 :: u196 :: u197 :: u198 :: u199 :: u200 :: u201 :: u202 :: u203 :: u204 :: u205 :: u206 :: u207 :: u208 :: u209 :: u210 :: u211 :: u212 :: u213 :: u214 :: u215 :: u216 :: u217 :: u218 :: u219 :: u220 :: u221 :: u222 :: u223 :: u224 :: u225 :: u226 :: u227 :: u228 :: u229 :: u230 :: u231 :: u232 :: u233 :: u234 :: u235 :: u236 :: u237 :: u238 :: u239 :: u240 :: u241 :: u242 :: u243 :: u244 :: u245 :: u246 :: u247 :: u248 :: u249 :: u250 :: u251 :: u252 :: u253 :: u254 :: u255 :: u256 :: u257 :: u258 :: u259 :: u260 :: u261 :: u262 :: u263 :: u264 :: u265 :: u266 :: u267 :: u268 :: u269 :: u270 :: u271 :: u272 :: u273 :: u274 :: u275 :: u276 :: u277 :: u278 :: u279 :: u280 :: u281 :: u282 :: u283 :: u284 :: u285 :: u286 :: u287 :: u288 :: u289 :: u290 :: u291 :: u292 :: u293 :: u294 :: u295 :: []).toArray, []⟩ wr := by
  have HL := Lib.hid h
  have HB := Lib.hid hb
  have hm2 := h.ok.m2
  subst hV9
  have lx := h.lx
  have nx : Nd wr bx (item x (if x = x then v else S.ent x)) (chg S.m S.ch D x nb S.m S.m x 0) (chg S.m S.ch D x nb S.m S.m x 1) _ := Mem.leaf (S := (S.grow D x v nb S.m).w (chg S.m S.ch D x nb S.m)) hb.mem lx
  rw [chg_x h.deep, chg_x h.deep] at nx
  have x0 : wr.cell? ⟨bx, 1, none⟩ = some (.pointer none) := nx.c0
  have x1 : wr.cell? ⟨bx, 2, none⟩ = some (.pointer none) := nx.c1
  have xl := nx.lt
  have xf := nx.fr
  obtain ⟨bs, hbs⟩ := hks.get
  have nks : Nd wr bs (item ks (if ks = x then v else S.ent ks)) (chg S.m S.ch D x nb S.m S.m ks 0) (chg S.m S.ch D x nb S.m S.m ks 1) _ := Mem.leaf (S := (S.grow D x v nb S.m).w (chg S.m S.ch D x nb S.m)) hb.mem ((h.lf hks).trans hbs)
  rw [chg_leaf h.deep h.ok hks, chg_leaf h.deep h.ok hks] at nks
  have neks : bs ≠ bx := fun e => K_ne h.deep h.ok hks (h.inj S.m ks S.m x bx (Nat.le_refl _) (Nat.le_refl _) (by show lkg S.m S.lk D x nb S.m S.m ks = some bx; rw [h.lf hks, hbs, e]) lx).2
  have lks := nks.lt
  have fks := nks.fr
  have HBks := Lib.hid (And.intro hks hbs)
  have hz : S.ch S.m ks 0 = none := by
    rcases h.ok.lf0 ks hks with ⟨a, _⟩ | ⟨⟨k, g1, g2⟩, _⟩
    · exact a
    · have := hmin k g1; omega
  have yks0 : wr.cell? ⟨bs, 1, none⟩ = some (op (S.ch S.m ks 0)) := nks.c0
  have yks1 : wr.cell? ⟨bs, 2, none⟩ = some (op (S.ch S.m ks 1)) := nks.c1
  rw [op_pa] at yks0 yks1
  rw [hz] at yks0
  have yks0' : wr.cell? ⟨bs, 1, none⟩ = some (.pointer none) := yks0
  rw [hbs] at hV7
  obtain rfl : V7 = pb bs := hV7
  subst hV6
  have HNB : Hid (Nb S x none (some bs)) := Lib.hid (.inr (.inl ⟨ks, hks, hmin, hlt, rfl, hbs.symm⟩))
  obtain ⟨g, hg⟩ : ∃ g, (upd (upd (chg S.m S.ch D x nb S.m) S.m x 1 (some bs)) S.m ks 0 (some bx)) = g := ⟨_, rfl⟩
  have hMW : Mem ((wr.setCell ⟨bx, 2, none⟩ (pb bs)).setCell ⟨bs, 1, none⟩ (pb bx)) ((S.grow D x v nb S.m).w g) := by rw [← hg]; exact (Mem.put (S := (S.grow D x v nb S.m)) (d := S.m) (p := ks) (s := 0) (Mem.put (S := (S.grow D x v nb S.m)) (d := S.m) (p := x) (s := 1) hb.mem h.inj (Nat.le_refl _) lx (by omega) (some bs)) h.inj (Nat.le_refl _) ((h.lf hks).trans hbs) (by omega) (some bx))
  have HBW := Lib.hid (hb.step hMW (Only.setCell (Only.setCell (Only.refl (Nod (S.grow D x v nb S.m)) wr) ⟨bx, 2, none⟩ (pb bs) (fun _ => ⟨S.m, x, Nat.le_refl _, lx⟩)) ⟨bs, 1, none⟩ (pb bx) (fun _ => ⟨S.m, ks, Nat.le_refl _, ((h.lf hks).trans hbs)⟩)))
  have HG := Lib.hid hg
  have hgin : ∀ d p t, d < S.m → g d p t = chg S.m S.ch D x nb S.m d p t := fun d p t hd => by
    rw [← hg]
    repeat rw [upd_other _ _ _ _ _ (by omega)]
  have HGIN := Lib.hid hgin
  clear h hb nx lx hks hbs hmin hlt hz nks yks0 hMW hg hgin
  conv => arg 2; whnf
  go_upto_region 41 with fail
  obtain ⟨wl, hwl⟩ : ∃ wl, ((wr.setCell ⟨bx, 2, none⟩ (pb bs)).setCell ⟨bs, 1, none⟩ (pb bx)) = wl := ⟨_, rfl⟩
  rw [hwl] at HBW ⊢
  clear hwl x0 x1 xl xf yks0' yks1 lks fks
  have HWS := Lib.hid (walkUpS wl ((S.grow D x v nb S.m).w g) tb bx ks bs rt HBW.out.mem HL.out.inj (by show 1 ≤ S.m; omega) (fun d hd => grow_up HL.out.deep HL.out.ok HBks.out.1 d hd) ((HL.out.lf HBks.out.1).trans HBks.out.2) (fun d hd => by
    show ChOk _ (g d (pre S.m d ks) 0)
    rw [HGIN.out _ _ _ hd]
    exact chok_c HL.out.deep HL.out.ok _ hd (grow_up HL.out.deep HL.out.ok HBks.out.1 d (Nat.le_of_lt hd)) (by omega)) HL.out.rt')
  go_wp2_with fail
  refine HWS.out.mono ?_
  rintro e w6 ⟨rfl, f1, hm1, ho1, hu1, hn1⟩
  have HBD := Lib.hid (HBW.out.inn hm1 ho1)
  have HPRE : Hid (Pre S D x v nb none (some bs) rt g f1 f1) := Lib.hid (by
    have hxk := K_ne HL.out.deep HL.out.ok HBks.out.1
    have hbx := HL.out.bx
    have hg := HG.out
    refine ⟨HGIN.out, ?_, ?_, fun k hk e => ?_, fun k hk e => absurd e.symm hk, fun k hk e => ?_, fun k hk e => ?_, fun d p t => (hu1 d p t).imp id (fun ⟨a, b, c, d, e⟩ => ⟨a, b, ⟨ks, HBks.out.1, HBks.out.2.symm, c⟩, by rw [hbx]; exact d, e⟩), fun k hk e d hd hrt hn => ?_, fun _ _ _ => .inl rfl, fun k hk e => absurd e.symm hk⟩
    · rw [← hg, upd_other _ _ _ _ _ (fun h => hxk h.2.1.symm), upd_other _ _ _ _ _ (by omega)]; exact chg_x HL.out.deep
    · rw [← hg, upd_other _ _ _ _ _ (by omega), upd_same]
    · obtain rfl := HL.out.uniq HBks.out.2 e
      rw [← hg, upd_same, hbx]
    · have hkk : k ≠ ks := fun h => e (by rw [h]; exact HBks.out.2.symm)
      rw [← hg, upd_other _ _ _ _ _ (fun h => hkk h.2.1), upd_other _ _ _ _ _ (by omega)]; exact chg_leaf HL.out.deep HL.out.ok hk
    · have hkx := K_ne HL.out.deep HL.out.ok hk
      rw [← hg, upd_other _ _ _ _ _ (by omega), upd_other _ _ _ _ _ (fun h => hkx h.2.1)]; exact chg_leaf HL.out.deep HL.out.ok hk
    · obtain rfl := HL.out.uniq HBks.out.2 e
      rw [hbx]; exact hn1 d hd hrt hn)
  clear hm1 ho1 hu1 hn1 HWS
  have HUP := Lib.hid (HL.out.up HBD.out HPRE.out (.inl rfl) (.inr ⟨ks, HBks.out.1, HBks.out.2.symm⟩))
  go_upto_region 45 with fail
  go_cut [] (fun wx => Hid (NdP ((S.grow D x v nb S.m).w f1) x rt bx none (some bs) w6 (.returned (.tuple #[])) wx))
  case first =>
    go_wp2_with fail
    refine HUP.out.mono ?_
    rintro e w9 h9
    obtain rfl := h9.1
    have H9 := Lib.hid h9
    clear h9
    go_wp2_with fail
    go_meet
    exact H9
  case rest =>
    obtain ⟨f3, g1, g2, g3, g4⟩ := HL.out.fin HBD.out HPRE.out HNB.out hcut.out
    refine (‹∀ (a : Act) (w_1 : World), Code.wp _ _ _ a w_1 → _› _ _ ?_)
    have hT := end46 wc S ((S.grow D x v nb S.m).w f3) tb lb root (num + 1) x bx mn mx P g1 g2 rfl (grow_K HL.out.deep) (fun k hk => (HL.out.lf hk).symm) HL.out.lx HL.out.ends g3 g4
    exact hT _ _ _ _ _ _ _ _ _ _ _ _ _ _ _ _ _ _ _ _ _ _ _ _ _ _ _ _ _ _ _ _ _ _ _ _ _ _ _ _ _ _ _ _ _ _ _ _ _ _ _ _ _ _ _ _ _ _ _ _ _ _ _ _ _ _ _ _ _ _ _ _ _ _ _ _ _ _ _ _ _ _ _ _ _ _ _ _ _ _ _ _ _ _ _ _ _ _ _ _ _ _ _ _ _ _ _ _ _ _ _ _ _ _ _ _ _ _ _ _ _ _ _ _ _ _ _ _ _ _ _ _ _ _ _ _ _ _ _ _ _ _ _ _ _ _ _ _ _ _ _ _ _ _ _ _ _ _ _ _ _ _ _ _ _ _ _ _ _ _ _ _ _ _ _ _ _ _ _ _ _ _ _ _ _ _ _ _ _ _ _ _ _ _ _ _ _ _ _ _ _ _ _ _ _ _ _ _ _ _ _ _ _ _ _ _ _ _ _ _ _ _ _ _ _ _ _ _ _ _ _ _ _ _ _ _ _ _ _ _ _ _ _ _ _ _ _ _ _ _ _ _ _ _ _ _ _ _ _ _ _ _ _ _ _ _ _ _ _ _ _ _ _ _ _ _ _ _ _ _ _ _ _ _ _ _ _ _ _ _ _ _ _
set_option maxRecDepth 1000000 in
set_option maxHeartbeats 6400000 in
theorem lk31B (w wr : World) (S : Sh) (D x : Nat) (v : Int) (nb : Nat → Nat) (bx tb lb root num : Nat) (md : Nat → Nat) (mn mx rt : Option Nat) (V6 V7 V9 : Value) (P : Ending → World → Prop) (h : Lnk w S D x v nb bx tb lb root num md mn mx rt P) (hb : Bd w wr S D x v nb tb lb root num md mn mx (chg S.m S.ch D x nb S.m)) (kp ks : Nat) (hkp : S.K kp) (hks : S.K ks) (hmp : S.More kp) (hls : S.Less ks) (hlo : ∃ k, S.K k ∧ k < x) (hhi : ∃ k, S.K k ∧ x < k) (hch : S.ch S.m ks 0 = S.lk S.m kp) (hV6 : V6 = .pointer none) (hV7 : V7 = op (S.lk S.m ks)) (hV9 : V9 = op rt) (u1 u2 u3 u8 u10 u11 u12 u13 u14 u15 u16 u17 u18 u19 u20 u21 u22 u23 u24 u25 u26 u27 u28 u29 u30 u31 u32 u33 u34 u35 u36 u37 u38 u39 u40 u41 u42 u43 u44 u45 u46 u47 u48 u49 u50 u51 u52 u53 u54 u55 u56 u57 u58 u59 u60 u61 u62 u63 u64 u65 u66 u67 u68 u69 u70 u71 u72 u73 u74 u75 u76 u77 u78 u79 u80 u81 u82 u83 u84 u85 u86 u87 u88 u89 u90 u91 u92 u93 u94 u95 u96 u97 u98 u99 u100 u101 u102 u103 u104 u105 u106 u107 u108 u109 u110 u111 u112 u113 u114 u115 u116 u117 u118 u119 u120 u121 u122 u123 u124 u125 u126 u127 u128 u129 u130 u131 u132 u133 u134 u135 u136 u137 u138 u139 u140 u141 u142 u143 u144 u145 u146 u147 u148 u149 u150 u151 u152 u153 u154 u155 u156 u157 u158 u159 u160 u161 u162 u163 u164 u165 u166 u167 u168 u169 u170 u171 u172 u173 u174 u175 u176 u177 u178 u179 u180 u181 u182 u183 u184 u185 u186 u187 u188 u189 u190 u191 u192 u193 u194 u195 u196 u197 u198 u199 u200 u201 u202 u203 u204 u205 u206 u207 u208 u209 u210 u211 u212 u213 u214 u215 u216 u217 u218 u219 u220 u221 u222 u223 u224 u225 u226 u227 u228 u229 u230 u231 u232 u233 u234 u235 u236 u237 u238 u239 u240 u241 u242 u243 u244 u245 u246 u247 u248 u249 u250 u251 u252 u253 u254 u255 u256 u257 u258 u259 u260 u261 u262 u263 u264 u265 u266 u267 u268 u269 u270 u271 u272 u273 u274 u275 u276 u277 u278 u279 u280 u281 u282 u283 u284 u285 u286 u287 u288 u289 u290 u291 u292 u293 u294 u295 : Value) :
    Code.wp Tryd.prog tail31 (bodyPost Tryd.prog Tryd.f49 P) ⟨(pb tb :: u1 :: u2 :: u3 :: .int .u64 (x : Int) :: pb bx :: V6 :: V7 :: u8 :: V9 :: u10 :: u11 :: u12 :: u13 :: u14 :: u15 :: u16 :: u17 :: u18 :: u19 :: u20 :: u21 :: u22 :: u23 :: u24 :: u25 :: u26 :: u27 :: u28 :: u29 :: u30 :: u31 :: u32 :: u33 :: u34 :: u35 :: u36 :: u37 :: u38 :: u39 :: u40 :: u41 :: u42 :: u43 :: u44 :: u45 :: u46 :: u47 :: u48 :: u49 :: u50 :: u51 :: u52 :: u53 :: u54 :: u55 :: u56 :: u57 :: u58 :: u59 :: u60 :: u61 :: u62 :: u63 :: u64 :: u65 :: u66 :: u67 :: u68 :: u69 :: u70 :: u71 :: u72 :: u73 :: u74 :: u75 :: u76 :: u77 :: u78 :: u79 :: u80 :: u81 :: u82 :: u83 :: u84 :: u85 :: u86 :: u87 :: u88 :: u89 :: u90 :: u91 :: u92 :: u93 :: u94 :: u95 :: u96 :: u97 :: u98 :: u99 :: u100 :: u101 :: u102 :: u103 :: u104 :: u105 :: u106 :: u107 :: u108 :: u109 :: u110 :: u111 :: u112 :: u113 :: u114 :: u115 :: u116 :: u117 :: u118 :: u119 :: u120 :: u121 :: u122 :: u123 :: u124 :: u125 :: u126 :: u127 :: u128 :: u129 :: u130 :: u131 :: u132 :: u133 :: u134 :: u135 :: u136 :: u137 :: u138 :: u139 :: u140 :: u141 :: u142 :: u143 :: u144 :: u145 :: u146 :: u147 :: u148 :: u149 :: u150 :: u151 :: u152 :: u153 :: u154 :: u155 :: u156 :: u157 :: u158 :: u159 :: u160 :: u161 :: u162 :: u163 :: u164 :: u165 :: u166 :: u167 :: u168 :: u169 :: u170 :: u171 :: u172 :: u173 :: u174 :: u175 :: u176 :: u177 :: u178 :: u179 :: u180 :: u181 :: u182 :: u183 :: u184 :: u185 :: u186 :: u187 :: u188 :: u189 :: u190 :: u191 :: u192 :: u193 :: u194 :: u195 :: u196 :: u197 :: u198 :: u199 :: u200 :: u201 :: u202 :: u203 :: u204 :: u205 :: u206 :: u207 :: u208 :: u209 :: u210 :: u211 :: u212 :: u213 :: u214 :: u215 :: u216 :: u217 :: u218 :: u219 :: u220 :: u221 :: u222 :: u223 :: u224 :: u225 :: u226 :: u227 :: u228 :: u229 :: u230 :: u231 :: u232 :: u233 :: u234 :: u235 :: u236 :: u237 :: u238 :: u239 :: u240 :: u241 :: u242 :: u243 :: u244 :: u245 :: u246 :: u247 :: u248 :: u249 :: u250 :: u251 :: u252 :: u253 :: u254 :: u255 :: u256 :: u257 :: u258 :: u259 :: u260 :: u261 :: u262 :: u263 :: u264 :: u265 :: u266 :: u267 :: u268 :: u269 :: u270 :: u271 :: u272 :: u273 :: u274 :: u275 :: u276 :: u277 :: u278 :: u279 :: u280 :: u281 :: u282 :: u283 :: u284 :: u285 :: u286 :: u287 :: u288 :: u289 :: u290 :: u291 :: u292 :: u293 :: u294 :: u295 :: []).toArray, []⟩ wr := by
  have HL := Lib.hid h
  have HB := Lib.hid hb
  have hm2 := h.ok.m2
  subst hV9
  have lx := h.lx
  have nx : Nd wr bx (item x (if x = x then v else S.ent x)) (chg S.m S.ch D x nb S.m S.m x 0) (chg S.m S.ch D x nb S.m S.m x 1) _ := Mem.leaf (S := (S.grow D x v nb S.m).w (chg S.m S.ch D x nb S.m)) hb.mem lx
  rw [chg_x h.deep, chg_x h.deep] at nx
  have x0 : wr.cell? ⟨bx, 1, none⟩ = some (.pointer none) := nx.c0
  have x1 : wr.cell? ⟨bx, 2, none⟩ = some (.pointer none) := nx.c1
  have xl := nx.lt
  have xf := nx.fr
  obtain ⟨bs, hbs⟩ := hks.get
  have nks : Nd wr bs (item ks (if ks = x then v else S.ent ks)) (chg S.m S.ch D x nb S.m S.m ks 0) (chg S.m S.ch D x nb S.m S.m ks 1) _ := Mem.leaf (S := (S.grow D x v nb S.m).w (chg S.m S.ch D x nb S.m)) hb.mem ((h.lf hks).trans hbs)
  rw [chg_leaf h.deep h.ok hks, chg_leaf h.deep h.ok hks] at nks
  have neks : bs ≠ bx := fun e => K_ne h.deep h.ok hks (h.inj S.m ks S.m x bx (Nat.le_refl _) (Nat.le_refl _) (by show lkg S.m S.lk D x nb S.m S.m ks = some bx; rw [h.lf hks, hbs, e]) lx).2
  have lks := nks.lt
  have fks := nks.fr
  have HBks := Lib.hid (And.intro hks hbs)
  obtain ⟨bp, hbp⟩ := hkp.get
  have nkp : Nd wr bp (item kp (if kp = x then v else S.ent kp)) (chg S.m S.ch D x nb S.m S.m kp 0) (chg S.m S.ch D x nb S.m S.m kp 1) _ := Mem.leaf (S := (S.grow D x v nb S.m).w (chg S.m S.ch D x nb S.m)) hb.mem ((h.lf hkp).trans hbp)
  rw [chg_leaf h.deep h.ok hkp, chg_leaf h.deep h.ok hkp] at nkp
  have nekp : bp ≠ bx := fun e => K_ne h.deep h.ok hkp (h.inj S.m kp S.m x bx (Nat.le_refl _) (Nat.le_refl _) (by show lkg S.m S.lk D x nb S.m S.m kp = some bx; rw [h.lf hkp, hbp, e]) lx).2
  have lkp := nkp.lt
  have fkp := nkp.fr
  have HBkp := Lib.hid (And.intro hkp hbp)
  have yks0 : wr.cell? ⟨bs, 1, none⟩ = some (op (S.ch S.m ks 0)) := nks.c0
  have yks1 : wr.cell? ⟨bs, 2, none⟩ = some (op (S.ch S.m ks 1)) := nks.c1
  rw [op_pa] at yks0 yks1
  have ykp0 : wr.cell? ⟨bp, 1, none⟩ = some (op (S.ch S.m kp 0)) := nkp.c0
  have ykp1 : wr.cell? ⟨bp, 2, none⟩ = some (op (S.ch S.m kp 1)) := nkp.c1
  rw [op_pa] at ykp0 ykp1
  rw [hch, hbp] at yks0
  have yks0' : wr.cell? ⟨bs, 1, none⟩ = some (pb bp) := yks0
  rw [hbs] at hV7
  obtain rfl : V7 = pb bs := hV7
  subst hV6
  have HNB : Hid (Nb S x (some bp) (some bs)) := Lib.hid (.inr (.inr (.inl ⟨kp, ks, hkp, hks, hmp, hls, hlo, hhi, hbp.symm, hbs.symm⟩)))
  obtain ⟨g, hg⟩ : ∃ g, (upd (upd (upd (upd (chg S.m S.ch D x nb S.m) S.m kp 1 (some bx)) S.m x 0 (some bp)) S.m x 1 (some bs)) S.m ks 0 (some bx)) = g := ⟨_, rfl⟩
  have hMW : Mem ((((wr.setCell ⟨bp, 2, none⟩ (pb bx)).setCell ⟨bx, 1, none⟩ (pb bp)).setCell ⟨bx, 2, none⟩ (pb bs)).setCell ⟨bs, 1, none⟩ (pb bx)) ((S.grow D x v nb S.m).w g) := by rw [← hg]; exact (Mem.put (S := (S.grow D x v nb S.m)) (d := S.m) (p := ks) (s := 0) (Mem.put (S := (S.grow D x v nb S.m)) (d := S.m) (p := x) (s := 1) (Mem.put (S := (S.grow D x v nb S.m)) (d := S.m) (p := x) (s := 0) (Mem.put (S := (S.grow D x v nb S.m)) (d := S.m) (p := kp) (s := 1) hb.mem h.inj (Nat.le_refl _) ((h.lf hkp).trans hbp) (by omega) (some bx)) h.inj (Nat.le_refl _) lx (by omega) (some bp)) h.inj (Nat.le_refl _) lx (by omega) (some bs)) h.inj (Nat.le_refl _) ((h.lf hks).trans hbs) (by omega) (some bx))
  have HBW := Lib.hid (hb.step hMW (Only.setCell (Only.setCell (Only.setCell (Only.setCell (Only.refl (Nod (S.grow D x v nb S.m)) wr) ⟨bp, 2, none⟩ (pb bx) (fun _ => ⟨S.m, kp, Nat.le_refl _, ((h.lf hkp).trans hbp)⟩)) ⟨bx, 1, none⟩ (pb bp) (fun _ => ⟨S.m, x, Nat.le_refl _, lx⟩)) ⟨bx, 2, none⟩ (pb bs) (fun _ => ⟨S.m, x, Nat.le_refl _, lx⟩)) ⟨bs, 1, none⟩ (pb bx) (fun _ => ⟨S.m, ks, Nat.le_refl _, ((h.lf hks).trans hbs)⟩)))
  have HG := Lib.hid hg
  have hgin : ∀ d p t, d < S.m → g d p t = chg S.m S.ch D x nb S.m d p t := fun d p t hd => by
    rw [← hg]
    repeat rw [upd_other _ _ _ _ _ (by omega)]
  have HGIN := Lib.hid hgin
  clear h hb nx lx hks hbs hkp hbp hmp hls hlo hhi hch nks nkp yks0 hMW hg hgin
  conv => arg 2; whnf
  go_upto_region 41 with fail
  obtain ⟨wl, hwl⟩ : ∃ wl, ((((wr.setCell ⟨bp, 2, none⟩ (pb bx)).setCell ⟨bx, 1, none⟩ (pb bp)).setCell ⟨bx, 2, none⟩ (pb bs)).setCell ⟨bs, 1, none⟩ (pb bx)) = wl := ⟨_, rfl⟩
  rw [hwl] at HBW ⊢
  clear hwl x0 x1 xl xf yks0' yks1 ykp0 ykp1 lks fks lkp fkp
  have HWS := Lib.hid (walkUpS wl ((S.grow D x v nb S.m).w g) tb bx ks bs rt HBW.out.mem HL.out.inj (by show 1 ≤ S.m; omega) (fun d hd => grow_up HL.out.deep HL.out.ok HBks.out.1 d hd) ((HL.out.lf HBks.out.1).trans HBks.out.2) (fun d hd => by
    show ChOk _ (g d (pre S.m d ks) 0)
    rw [HGIN.out _ _ _ hd]
    exact chok_c HL.out.deep HL.out.ok _ hd (grow_up HL.out.deep HL.out.ok HBks.out.1 d (Nat.le_of_lt hd)) (by omega)) HL.out.rt')
  go_wp2_with fail
  refine HWS.out.mono ?_
  rintro e w6 ⟨rfl, f1, hm1, ho1, hu1, hn1⟩
  have HBD1 := Lib.hid (HBW.out.inn hm1 ho1)
  have HU1 := Lib.hid (And.intro hu1 hn1)
  clear hm1 ho1 hu1 hn1 HWS
  have HWP := Lib.hid (walkUpP w6 ((S.grow D x v nb S.m).w f1) tb bx kp bp rt HBD1.out.mem HL.out.inj (by show 1 ≤ S.m; omega) (fun d hd => grow_up HL.out.deep HL.out.ok HBkp.out.1 d hd) ((HL.out.lf HBkp.out.1).trans HBkp.out.2) (fun d hd => by
    show ChOk _ (f1 d (pre S.m d kp) 1)
    have a0 : f1 d (pre S.m d kp) 1 = g d (pre S.m d kp) 1 := by
      rcases HU1.out.1 d (pre S.m d kp) 1 with a | ⟨a, _⟩
      · exact a
      · cases a
    rw [a0, HGIN.out _ _ _ hd]
    exact chok_c HL.out.deep HL.out.ok _ hd (grow_up HL.out.deep HL.out.ok HBkp.out.1 d (Nat.le_of_lt hd)) (by omega)) HL.out.rt')
  go_wp2_with fail
  refine HWP.out.mono ?_
  rintro e w7 ⟨rfl, f2, hm1, ho1, hu2, hn2⟩
  have HBD := Lib.hid (HBD1.out.inn hm1 ho1)
  have HPRE : Hid (Pre S D x v nb (some bp) (some bs) rt g f1 f2) := Lib.hid (by
    have hsx := K_ne HL.out.deep HL.out.ok HBks.out.1
    have hpx := K_ne HL.out.deep HL.out.ok HBkp.out.1
    have hbx := HL.out.bx
    have hg := HG.out
    obtain ⟨hu1, hn1⟩ := HU1.out
    refine ⟨HGIN.out, ?_, ?_, fun k hk e => ?_, fun k hk e => ?_, fun k hk e => ?_, fun k hk e => ?_, fun d p t => (hu1 d p t).imp id (fun ⟨a, b, c, d, e⟩ => ⟨a, b, ⟨ks, HBks.out.1, HBks.out.2.symm, c⟩, by rw [hbx]; exact d, e⟩), fun k hk e d hd hrt hn => ?_, fun d p t => (hu2 d p t).imp id (fun ⟨a, b, c, d, e⟩ => ⟨a, b, ⟨kp, HBkp.out.1, HBkp.out.2.symm, c⟩, by rw [hbx]; exact d, e⟩), fun k hk e d hd hrt hn => ?_⟩
    · rw [← hg, upd_other _ _ _ _ _ (fun h => hsx h.2.1.symm), upd_other _ _ _ _ _ (by omega), upd_same]
    · rw [← hg, upd_other _ _ _ _ _ (by omega), upd_same]
    · obtain rfl := HL.out.uniq HBks.out.2 e
      rw [← hg, upd_same, hbx]
    · obtain rfl := HL.out.uniq HBkp.out.2 e
      rw [← hg, upd_other _ _ _ _ _ (by omega), upd_other _ _ _ _ _ (fun h => hpx h.2.1), upd_other _ _ _ _ _ (by omega), upd_same, hbx]
    · have hkk : k ≠ ks := fun h => e (by rw [h]; exact HBks.out.2.symm)
      have hkx := K_ne HL.out.deep HL.out.ok hk
      rw [← hg, upd_other _ _ _ _ _ (fun h => hkk h.2.1), upd_other _ _ _ _ _ (by omega), upd_other _ _ _ _ _ (fun h => hkx h.2.1), upd_other _ _ _ _ _ (by omega)]; exact chg_leaf HL.out.deep HL.out.ok hk
    · have hkk : k ≠ kp := fun h => e (by rw [h]; exact HBkp.out.2.symm)
      have hkx := K_ne HL.out.deep HL.out.ok hk
      rw [← hg, upd_other _ _ _ _ _ (by omega), upd_other _ _ _ _ _ (fun h => hkx h.2.1), upd_other _ _ _ _ _ (by omega), upd_other _ _ _ _ _ (fun h => hkk h.2.1)]; exact chg_leaf HL.out.deep HL.out.ok hk
    · obtain rfl := HL.out.uniq HBks.out.2 e
      rw [hbx]; exact hn1 d hd hrt hn
    · obtain rfl := HL.out.uniq HBkp.out.2 e
      rw [hbx]; exact hn2 d hd hrt hn)
  clear hm1 ho1 hu2 hn2 HWP
  have HUP := Lib.hid (HL.out.up HBD.out HPRE.out (.inr ⟨kp, HBkp.out.1, HBkp.out.2.symm⟩) (.inr ⟨ks, HBks.out.1, HBks.out.2.symm⟩))
  go_upto_region 45 with fail
  go_cut [] (fun wx => Hid (NdP ((S.grow D x v nb S.m).w f2) x rt bx (some bp) (some bs) w7 (.returned (.tuple #[])) wx))
  case first =>
    go_wp2_with fail
    refine HUP.out.mono ?_
    rintro e w9 h9
    obtain rfl := h9.1
    have H9 := Lib.hid h9
    clear h9
    go_wp2_with fail
    go_meet
    exact H9
  case rest =>
    obtain ⟨f3, g1, g2, g3, g4⟩ := HL.out.fin HBD.out HPRE.out HNB.out hcut.out
    refine (‹∀ (a : Act) (w_1 : World), Code.wp _ _ _ a w_1 → _› _ _ ?_)
    have hT := end46 wc S ((S.grow D x v nb S.m).w f3) tb lb root (num + 1) x bx mn mx P g1 g2 rfl (grow_K HL.out.deep) (fun k hk => (HL.out.lf hk).symm) HL.out.lx HL.out.ends g3 g4
    exact hT _ _ _ _ _ _ _ _ _ _ _ _ _ _ _ _ _ _ _ _ _ _ _ _ _ _ _ _ _ _ _ _ _ _ _ _ _ _ _ _ _ _ _ _ _ _ _ _ _ _ _ _ _ _ _ _ _ _ _ _ _ _ _ _ _ _ _ _ _ _ _ _ _ _ _ _ _ _ _ _ _ _ _ _ _ _ _ _ _ _ _ _ _ _ _ _ _ _ _ _ _ _ _ _ _ _ _ _ _ _ _ _ _ _ _ _ _ _ _ _ _ _ _ _ _ _ _ _ _ _ _ _ _ _ _ _ _ _ _ _ _ _ _ _ _ _ _ _ _ _ _ _ _ _ _ _ _ _ _ _ _ _ _ _ _ _ _ _ _ _ _ _ _ _ _ _ _ _ _ _ _ _ _ _ _ _ _ _ _ _ _ _ _ _ _ _ _ _ _ _ _ _ _ _ _ _ _ _ _ _ _ _ _ _ _ _ _ _ _ _ _ _ _ _ _ _ _ _ _ _ _ _ _ _ _ _ _ _ _ _ _ _ _ _ _ _ _ _ _ _ _ _ _ _ _ _ _ _ _ _ _ _ _ _ _ _ _ _ _ _ _ _ _ _ _ _ _ _ _ _ _ _ _ _ _ _ _ _ _ _ _ _ _
set_option maxRecDepth 1000000 in
set_option maxHeartbeats 6400000 in
theorem lk31C (w wr : World) (S : Sh) (D x : Nat) (v : Int) (nb : Nat → Nat) (bx tb lb root num : Nat) (md : Nat → Nat) (mn mx rt : Option Nat) (V6 V7 V9 : Value) (P : Ending → World → Prop) (h : Lnk w S D x v nb bx tb lb root num md mn mx rt P) (hb : Bd w wr S D x v nb tb lb root num md mn mx (chg S.m S.ch D x nb S.m)) (kp : Nat) (hkp : S.K kp) (hmax : ∀ k, S.K k → k ≤ kp) (hlt : kp < x) (hV6 : V6 = op (S.lk S.m kp)) (hV7 : V7 = .pointer none) (hV9 : V9 = op rt) (u1 u2 u3 u8 u10 u11 u12 u13 u14 u15 u16 u17 u18 u19 u20 u21 u22 u23 u24 u25 u26 u27 u28 u29 u30 u31 u32 u33 u34 u35 u36 u37 u38 u39 u40 u41 u42 u43 u44 u45 u46 u47 u48 u49 u50 u51 u52 u53 u54 u55 u56 u57 u58 u59 u60 u61 u62 u63 u64 u65 u66 u67 u68 u69 u70 u71 u72 u73 u74 u75 u76 u77 u78 u79 u80 u81 u82 u83 u84 u85 u86 u87 u88 u89 u90 u91 u92 u93 u94 u95 u96 u97 u98 u99 u100 u101 u102 u103 u104 u105 u106 u107 u108 u109 u110 u111 u112 u113 u114 u115 u116 u117 u118 u119 u120 u121 u122 u123 u124 u125 u126 u127 u128 u129 u130 u131 u132 u133 u134 u135 u136 u137 u138 u139 u140 u141 u142 u143 u144 u145 u146 u147 u148 u149 u150 u151 u152 u153 u154 u155 u156 u157 u158 u159 u160 u161 u162 u163 u164 u165 u166 u167 u168 u169 u170 u171 u172 u173 u174 u175 u176 u177 u178 u179 u180 u181 u182 u183 u184 u185 u186 u187 u188 u189 u190 u191 u192 u193 u194 u195 u196 u197 u198 u199 u200 u201 u202 u203 u204 u205 u206 u207 u208 u209 u210 u211 u212 u213 u214 u215 u216 u217 u218 u219 u220 u221 u222 u223 u224 u225 u226 u227 u228 u229 u230 u231 u232 u233 u234 u235 u236 u237 u238 u239 u240 u241 u242 u243 u244 u245 u246 u247 u248 u249 u250 u251 u252 u253 u254 u255 u256 u257 u258 u259 u260 u261 u262 u263 u264 u265 u266 u267 u268 u269 u270 u271 u272 u273 u274 u275 u276 u277 u278 u279 u280 u281 u282 u283 u284 u285 u286 u287 u288 u289 u290 u291 u292 u293 u294 u295 : Value) :
    Code.wp Tryd.prog tail31 (bodyPost Tryd.prog Tryd.f49 P) ⟨(pb tb :: u1 :: u2 :: u3 :: .int .u64 (x : Int) :: pb bx :: V6 :: V7 :: u8 :: V9 :: u10 :: u11 :: u12 :: u13 :: u14 :: u15 :: u16 :: u17 :: u18 :: u19 :: u20 :: u21 :: u22 :: u23 :: u24 :: u25 :: u26 :: u27 :: u28 :: u29 :: u30 :: u31 :: u32 :: u33 :: u34 :: u35 :: u36 :: u37 :: u38 :: u39 :: u40 :: u41 :: u42 :: u43 :: u44 :: u45 :: u46 :: u47 :: u48 :: u49 :: u50 :: u51 :: u52 :: u53 :: u54 :: u55 :: u56 :: u57 :: u58 :: u59 :: u60 :: u61 :: u62 :: u63 :: u64 :: u65 :: u66 :: u67 :: u68 :: u69 :: u70 :: u71 :: u72 :: u73 :: u74 :: u75 :: u76 :: u77 :: u78 :: u79 :: u80 :: u81 :: u82 :: u83 :: u84 :: u85 :: u86 :: u87 :: u88 :: u89 :: u90 :: u91 :: u92 :: u93 :: u94 :: u95 :: u96 :: u97 :: u98 :: u99 :: u100 :: u101 :: u102 :: u103 :: u104 :: u105 :: u106 :: u107 :: u108 :: u109 :: u110 :: u111 :: u112 :: u113 :: u114 :: u115 :: u116 :: u117 :: u118 :: u119 :: u120 :: u121 :: u122 :: u123 :: u124 :: u125 :: u126 :: u127 :: u128 :: u129 :: u130 :: u131 :: u132 :: u133 :: u134 :: u135 :: u136 :: u137 :: u138 :: u139 :: u140 :: u141 :: u142 :: u143 :: u144 :: u145 :: u146 :: u147 :: u148 :: u149 :: u150 :: u151 :: u152 :: u153 :: u154 :: u155 :: u156 :: u157 :: u158 :: u159 :: u160 :: u161 :: u162 :: u163 :: u164 :: u165 :: u166 :: u167 :: u168 :: u169 :: u170 :: u171 :: u172 :: u173 :: u174 :: u175 :: u176 :: u177 :: u178 :: u179 :: u180 :: u181 :: u182 :: u183 :: u184 :: u185 :: u186 :: u187 :: u188 :: u189 :: u190 :: u191 :: u192 :: u193 :: u194 :: u195 :: u196 :: u197 :: u198 :: u199 :: u200 :: u201 :: u202 :: u203 :: u204 :: u205 :: u206 :: u207 :: u208 :: u209 :: u210 :: u211 :: u212 :: u213 :: u214 :: u215 :: u216 :: u217 :: u218 :: u219 :: u220 :: u221 :: u222 :: u223 :: u224 :: u225 :: u226 :: u227 :: u228 :: u229 :: u230 :: u231 :: u232 :: u233 :: u234 :: u235 :: u236 :: u237 :: u238 :: u239 :: u240 :: u241 :: u242 :: u243 :: u244 :: u245 :: u246 :: u247 :: u248 :: u249 :: u250 :: u251 :: u252 :: u253 :: u254 :: u255 :: u256 :: u257 :: u258 :: u259 :: u260 :: u261 :: u262 :: u263 :: u264 :: u265 :: u266 :: u267 :: u268 :: u269 :: u270 :: u271 :: u272 :: u273 :: u274 :: u275 :: u276 :: u277 :: u278 :: u279 :: u280 :: u281 :: u282 :: u283 :: u284 :: u285 :: u286 :: u287 :: u288 :: u289 :: u290 :: u291 :: u292 :: u293 :: u294 :: u295 :: []).toArray, []⟩ wr := by
  have HL := Lib.hid h
  have HB := Lib.hid hb
  have hm2 := h.ok.m2
  subst hV9
  have lx := h.lx
  have nx : Nd wr bx (item x (if x = x then v else S.ent x)) (chg S.m S.ch D x nb S.m S.m x 0) (chg S.m S.ch D x nb S.m S.m x 1) _ := Mem.leaf (S := (S.grow D x v nb S.m).w (chg S.m S.ch D x nb S.m)) hb.mem lx
  rw [chg_x h.deep, chg_x h.deep] at nx
  have x0 : wr.cell? ⟨bx, 1, none⟩ = some (.pointer none) := nx.c0
  have x1 : wr.cell? ⟨bx, 2, none⟩ = some (.pointer none) := nx.c1
  have xl := nx.lt
  have xf := nx.fr
  obtain ⟨bp, hbp⟩ := hkp.get
  have nkp : Nd wr bp (item kp (if kp = x then v else S.ent kp)) (chg S.m S.ch D x nb S.m S.m kp 0) (chg S.m S.ch D x nb S.m S.m kp 1) _ := Mem.leaf (S := (S.grow D x v nb S.m).w (chg S.m S.ch D x nb S.m)) hb.mem ((h.lf hkp).trans hbp)
  rw [chg_leaf h.deep h.ok hkp, chg_leaf h.deep h.ok hkp] at nkp
  have nekp : bp ≠ bx := fun e => K_ne h.deep h.ok hkp (h.inj S.m kp S.m x bx (Nat.le_refl _) (Nat.le_refl _) (by show lkg S.m S.lk D x nb S.m S.m kp = some bx; rw [h.lf hkp, hbp, e]) lx).2
  have lkp := nkp.lt
  have fkp := nkp.fr
  have HBkp := Lib.hid (And.intro hkp hbp)
  have ykp0 : wr.cell? ⟨bp, 1, none⟩ = some (op (S.ch S.m kp 0)) := nkp.c0
  have ykp1 : wr.cell? ⟨bp, 2, none⟩ = some (op (S.ch S.m kp 1)) := nkp.c1
  rw [op_pa] at ykp0 ykp1
  rw [hbp] at hV6
  obtain rfl : V6 = pb bp := hV6
  subst hV7
  have HNB : Hid (Nb S x (some bp) none) := Lib.hid (.inr (.inr (.inr ⟨kp, hkp, hmax, hlt, hbp.symm, rfl⟩)))
  obtain ⟨g, hg⟩ : ∃ g, (upd (upd (chg S.m S.ch D x nb S.m) S.m x 0 (some bp)) S.m kp 1 (some bx)) = g := ⟨_, rfl⟩
  have hMW : Mem ((wr.setCell ⟨bx, 1, none⟩ (pb bp)).setCell ⟨bp, 2, none⟩ (pb bx)) ((S.grow D x v nb S.m).w g) := by rw [← hg]; exact (Mem.put (S := (S.grow D x v nb S.m)) (d := S.m) (p := kp) (s := 1) (Mem.put (S := (S.grow D x v nb S.m)) (d := S.m) (p := x) (s := 0) hb.mem h.inj (Nat.le_refl _) lx (by omega) (some bp)) h.inj (Nat.le_refl _) ((h.lf hkp).trans hbp) (by omega) (some bx))
  have HBW := Lib.hid (hb.step hMW (Only.setCell (Only.setCell (Only.refl (Nod (S.grow D x v nb S.m)) wr) ⟨bx, 1, none⟩ (pb bp) (fun _ => ⟨S.m, x, Nat.le_refl _, lx⟩)) ⟨bp, 2, none⟩ (pb bx) (fun _ => ⟨S.m, kp, Nat.le_refl _, ((h.lf hkp).trans hbp)⟩)))
  have HG := Lib.hid hg
  have hgin : ∀ d p t, d < S.m → g d p t = chg S.m S.ch D x nb S.m d p t := fun d p t hd => by
    rw [← hg]
    repeat rw [upd_other _ _ _ _ _ (by omega)]
  have HGIN := Lib.hid hgin
  clear h hb nx lx hkp hbp hmax hlt nkp hMW hg hgin
  conv => arg 2; whnf
  go_upto_region 41 with fail
  obtain ⟨wl, hwl⟩ : ∃ wl, ((wr.setCell ⟨bx, 1, none⟩ (pb bp)).setCell ⟨bp, 2, none⟩ (pb bx)) = wl := ⟨_, rfl⟩
  rw [hwl] at HBW ⊢
  clear hwl x0 x1 xl xf ykp0 ykp1 lkp fkp
  have HWP := Lib.hid (walkUpP wl ((S.grow D x v nb S.m).w g) tb bx kp bp rt HBW.out.mem HL.out.inj (by show 1 ≤ S.m; omega) (fun d hd => grow_up HL.out.deep HL.out.ok HBkp.out.1 d hd) ((HL.out.lf HBkp.out.1).trans HBkp.out.2) (fun d hd => by
    show ChOk _ (g d (pre S.m d kp) 1)
    rw [HGIN.out _ _ _ hd]
    exact chok_c HL.out.deep HL.out.ok _ hd (grow_up HL.out.deep HL.out.ok HBkp.out.1 d (Nat.le_of_lt hd)) (by omega)) HL.out.rt')
  go_wp2_with fail
  refine HWP.out.mono ?_
  rintro e w6 ⟨rfl, f2, hm1, ho1, hu1, hn1⟩
  have HBD := Lib.hid (HBW.out.inn hm1 ho1)
  have HPRE : Hid (Pre S D x v nb (some bp) none rt g g f2) := Lib.hid (by
    have hxk := K_ne HL.out.deep HL.out.ok HBkp.out.1
    have hbx := HL.out.bx
    have hg := HG.out
    refine ⟨HGIN.out, ?_, ?_, fun k hk e => absurd e.symm hk, fun k hk e => ?_, fun k hk e => ?_, fun k hk e => ?_, fun _ _ _ => .inl rfl, fun k hk e => absurd e.symm hk, fun d p t => (hu1 d p t).imp id (fun ⟨a, b, c, d, e⟩ => ⟨a, b, ⟨kp, HBkp.out.1, HBkp.out.2.symm, c⟩, by rw [hbx]; exact d, e⟩), fun k hk e d hd hrt hn => ?_⟩
    · rw [← hg, upd_other _ _ _ _ _ (by omega), upd_same]
    · rw [← hg, upd_other _ _ _ _ _ (fun h => hxk h.2.1.symm), upd_other _ _ _ _ _ (by omega)]; exact chg_x HL.out.deep
    · obtain rfl := HL.out.uniq HBkp.out.2 e
      rw [← hg, upd_same, hbx]
    · have hkx := K_ne HL.out.deep HL.out.ok hk
      rw [← hg, upd_other _ _ _ _ _ (by omega), upd_other _ _ _ _ _ (fun h => hkx h.2.1)]; exact chg_leaf HL.out.deep HL.out.ok hk
    · have hkk : k ≠ kp := fun h => e (by rw [h]; exact HBkp.out.2.symm)
      rw [← hg, upd_other _ _ _ _ _ (fun h => hkk h.2.1), upd_other _ _ _ _ _ (by omega)]; exact chg_leaf HL.out.deep HL.out.ok hk
    · obtain rfl := HL.out.uniq HBkp.out.2 e
      rw [hbx]; exact hn1 d hd hrt hn)
  clear hm1 ho1 hu1 hn1 HWP
  have HUP := Lib.hid (HL.out.up HBD.out HPRE.out (.inr ⟨kp, HBkp.out.1, HBkp.out.2.symm⟩) (.inl rfl))
  go_upto_region 45 with fail
  go_cut [] (fun wx => Hid (NdP ((S.grow D x v nb S.m).w f2) x rt bx (some bp) none w6 (.returned (.tuple #[])) wx))
  case first =>
    go_wp2_with fail
    refine HUP.out.mono ?_
    rintro e w9 h9
    obtain rfl := h9.1
    have H9 := Lib.hid h9
    clear h9
    go_wp2_with fail
    go_meet
    exact H9
  case rest =>
    obtain ⟨f3, g1, g2, g3, g4⟩ := HL.out.fin HBD.out HPRE.out HNB.out hcut.out
    refine (‹∀ (a : Act) (w_1 : World), Code.wp _ _ _ a w_1 → _› _ _ ?_)
    have hT := end46 wc S ((S.grow D x v nb S.m).w f3) tb lb root (num + 1) x bx mn mx P g1 g2 rfl (grow_K HL.out.deep) (fun k hk => (HL.out.lf hk).symm) HL.out.lx HL.out.ends g3 g4
    exact hT _ _ _ _ _ _ _ _ _ _ _ _ _ _ _ _ _ _ _ _ _ _ _ _ _ _ _ _ _ _ _ _ _ _ _ _ _ _ _ _ _ _ _ _ _ _ _ _ _ _ _ _ _ _ _ _ _ _ _ _ _ _ _ _ _ _ _ _ _ _ _ _ _ _ _ _ _ _ _ _ _ _ _ _ _ _ _ _ _ _ _ _ _ _ _ _ _ _ _ _ _ _ _ _ _ _ _ _ _ _ _ _ _ _ _ _ _ _ _ _ _ _ _ _ _ _ _ _ _ _ _ _ _ _ _ _ _ _ _ _ _ _ _ _ _ _ _ _ _ _ _ _ _ _ _ _ _ _ _ _ _ _ _ _ _ _ _ _ _ _ _ _ _ _ _ _ _ _ _ _ _ _ _ _ _ _ _ _ _ _ _ _ _ _ _ _ _ _ _ _ _ _ _ _ _ _ _ _ _ _ _ _ _ _ _ _ _ _ _ _ _ _ _ _ _ _ _ _ _ _ _ _ _ _ _ _ _ _ _ _ _ _ _ _ _ _ _ _ _ _ _ _ _ _ _ _ _ _ _ _ _ _ _ _ _ _ _ _ _ _ _ _ _ _ _ _ _ _ _ _ _ _ _ _ _ _ _ _ _ _ _ _ _
end Go.Proofs.YtcjifjfcjimefaaDoor.xf
