/-
  insert: an entry whose key is there.
-/
import Derived.Test.YtcjifjfcjimefaaDoorZXfStep
namespace Go.Proofs.YtcjifjfcjimefaaDoor.xf
open Go.RowKit Go.Proofs.YtcjifjfcjimefaaDoor.base Go.Proofs.YtcjifjfcjimefaaDoor.heap Go.Proofs.YtcjifjfcjimefaaDoor.rows Go.Proofs.YtcjifjfcjimefaaDoor.mapn
set_option linter.unusedVariables false
variable [Inhabited Kd]

/-- another number of a key's entry -/
def Sh.ren (S : Sh) (x : Nat) (v : Int) : Sh := { S with ent := fun k => if k = x then v else S.ent k }
theorem Mem.ren {w : World} {S : Sh} {x b : Nat} (v : Int) (h : Mem w S) (hi : Inj S) (hb : S.lk S.m x = some b) : Mem (w.setCell ⟨b, 0, none⟩ (item x v)) (S.ren x v) := by
  intro d p b' hd hb'
  have h1 := h d p b' hd hb'
  have e2 : (S.ren x v).par d p = S.par d p := by cases d <;> rfl
  rw [e2]
  by_cases e : b' = b
  · subst e
    obtain ⟨rfl, rfl⟩ := hi S.m x d p b' (Nat.le_refl _) hd hb hb'
    have e1 : (S.ren x v).entv S.m x = item x v := by
      unfold Sh.entv Sh.ren
      simp
    rw [e1]
    exact h1.setE _
  · have e1 : (S.ren x v).entv d p = S.entv d p := by
      unfold Sh.entv Sh.ren
      show (if d = S.m then item p (if p = x then v else S.ent p) else .nilIface) = _
      by_cases hdm : d = S.m
      · rw [if_pos hdm, if_pos hdm, if_neg (fun hp => by
          subst hp; subst hdm
          have e3 : S.lk S.m p = some b' := hb'
          rw [hb] at e3; cases e3; exact e rfl)]
      · rw [if_neg hdm, if_neg hdm]
    rw [e1]
    exact h1.keep ((Only.refl (fun k => k = b) w).setCell ⟨b, 0, none⟩ _ (fun _ => rfl)) e
/-- a trie in memory -/
structure Trie (w : World) (S : Sh) (tb lb root num : Nat) (md : Nat → Nat) (mn mx : Option Nat) : Prop where
  ok : S.Ok
  mem : Mem w S
  lay : Lay w S.m lb md S.lk
  mdi : ∀ i j, i < S.m → j < S.m → md i = md j → i = j
  obj : TObj w tb lb S.m root num mn mx
  root : S.lk 0 0 = some root
  ends : Ends S mn mx
theorem Trie.still {w w' : World} {S : Sh} {tb lb root num : Nat} {md : Nat → Nat} {mn mx : Option Nat} (h : Trie w S tb lb root num md mn mx) (ho : Same w w') : Trie w' S tb lb root num md mn mx :=
  ⟨h.ok, h.mem.still ho, h.lay.still ho, h.mdi, h.obj.still ho, h.root, h.ends⟩
/-- said of insert where the key is there -/
def OldP (S : Sh) (x : Nat) (v : Int) (tb lb root num : Nat) (md : Nat → Nat) (mn mx : Option Nat) (w : World) (e : Ending) (w' : World) : Prop :=
  e = .returned (.tuple #[]) ∧ Trie w' (S.ren x v) tb lb root num md mn mx ∧ Only (Own S tb md) w w'
omit [Inhabited Kd] in
theorem Sh.Ok.ren {S : Sh} (h : S.Ok) (x : Nat) (v : Int) : (S.ren x v).Ok := ⟨h.m2, h.tree, h.root, h.rng, h.sub, h.inj, h.in0, h.in1, h.lf0, h.lf1⟩
set_option maxRecDepth 100000 in
set_option maxHeartbeats 6400000 in
theorem insertOld (w : World) (S : Sh) (tb lb root num : Nat) (md : Nat → Nat) (mn mx : Option Nat) (x : Nat) (v : Int) (h : Trie w S tb lb root num md mn mx) (hx : S.K x) (hKO : okK w x v) :
    Calls Tryd.prog 49 #[op (some tb), item x v] w (OldP S x v tb lb root num md mn mx w) := by
  obtain ⟨b, hb⟩ := hx.get
  have HH := Lib.hid h
  have HB := Lib.hid hb
  obtain ⟨hm2, hm64⟩ := h.ok.m2
  have hx2 := h.ok.lt hx
  have m1 := methodK x v
  have q1 := nilK x v
  have cfK := runK
  have HKEY : Hid (∀ wx, Same w wx → Calls Tryd.prog keyK #[payK x v] wx fun en w' => en = .returned (.int .u64 (x : Int)) ∧ Same wx w') := Lib.hid (fun wx hw => key_of x v wx (hKO.still hw))
  have HX := Lib.hid hx2
  clear h hb hx hx2 hKO
  show Calls Tryd.prog 49 #[pb tb, item x v] w _
  go_enter Tryd.func49, Tryd.ntmps49
  go_wp2_with fail
  refine (HKEY.out _ (Only.refl _ _)).mono ?_
  rintro e w1 ⟨rfl, hs1⟩
  have HH1 := Lib.hid (HH.out.still hs1)
  have HS1 := Lib.hid hs1
  clear hs1
  have t0 : w1.cell? ⟨tb, 0, none⟩ = some (.slice (some ⟨lb, 0, none⟩) S.m S.m) := block_cell HH1.out.obj.obj rfl
  have t3 : w1.cell? ⟨tb, 3, none⟩ = some (.int .u8 (S.m : Int)) := block_cell HH1.out.obj.obj rfl
  have lt := lt_of_heap HH1.out.obj.obj
  obtain ⟨mi, hmi⟩ : ∃ mi, S.m - 1 = mi := ⟨_, rfl⟩
  have hmi1 : mi < S.m := by omega
  have hu : ((S.m : Int) - 1) = (mi : Int) := by omega
  have hlook : ∀ n, (Instr.lookup 109 (.map (some (md mi))) (.int .u64 (x : Int)) false).run Tryd.prog (w1.drewN n) = .ok (.pointer (some ⟨b, 0, none⟩)) (w1.drewN n) := fun n => by
    have := (HH1.out.lay.still ((Only.refl _ w1).drewN n)).look hmi1 HX.out false
    rw [show mi + 1 = S.m by omega, cut_full, pre_full, HB.out] at this
    exact this
  have c0 := HH1.out.lay.row mi hmi1
  have hlb := HH1.out.lay.lb
  have hmm : (mi : Int) < (S.m : Int) := by omega
  have hn := HH1.out.mem.leaf HB.out
  have n0 := hn.e
  have nl := hn.lt
  have nf := hn.fr
  clear hn
  go_upto_region 1 with fail
  go_quiet (fail)
  go_wp2_with fail
  refine bodyPost_ret (results_none rfl _ _ _) rfl ?_
  have HD := HH1.out.still ((Only.refl (fun _ => False) w1).drewN nq)
  have hO : Only (fun k => k = b) (w1.drewN nq) ((w1.drewN nq).setCell ⟨b, 0, none⟩ (item x v)) := (Only.refl _ _).setCell ⟨b, 0, none⟩ _ (fun _ => rfl)
  have hnd := HD.mem.leaf HB.out
  refine ⟨rfl, ⟨HD.ok.ren x v, HD.mem.ren v HD.ok.inj HB.out, HD.lay.keep hO (fun e => (Mem.ne_lb HD.mem HD.lay (Nat.le_refl _) HB.out) e.symm) (fun i hi e => by
    obtain ⟨f, h6, _⟩ := HD.lay.maps i hi
    exact (hnd.ne_md h6) e.symm), HD.mdi, HD.obj.keep hO (fun e => (hnd.ne_T HD.obj) e.symm), HD.root, HD.ends⟩, ?_⟩
  exact Only.trans (S := Own S tb md) (HS1.out.mono (fun _ _ f => f.elim)) (Only.trans (S := Own S tb md) (((Only.refl (fun _ => False) w1).drewN nq).mono (fun _ _ f => f.elim)) (hO.mono (fun k _ e => .inr (.inr ⟨S.m, x, Nat.le_refl _, by rw [show k = b from e]; exact HB.out⟩))) (fun _ _ h => h)) (fun _ _ h => h)
end Go.Proofs.YtcjifjfcjimefaaDoor.xf
