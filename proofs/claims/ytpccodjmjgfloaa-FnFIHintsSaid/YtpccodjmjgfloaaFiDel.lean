/-
  The hash map's delete.
-/
import Derived.Test.YtpccodjmjgfloaaFiSet
import Derived.RegionTactic
namespace Go.Proofs.Ytpccodjmjgfloaa.fi
open Go.RowKit Go.Proofs.Ytpccodjmjgfloaa.base Go.Proofs.Ytpccodjmjgfloaa.heap Go.Proofs.Ytpccodjmjgfloaa.rows
set_option linter.unusedVariables false

/-- the table behind delete -/
def Gone (H : Nat → Nat) (L : Nat) (T : Tb) (k : Nat) (T' : Tb) : Prop :=
  Ok H L T' ∧ (∀ a v, Has T' a v ↔ a ≠ k ∧ Has T a v) ∧ occ T' + 1 = occ T

/-- the packets of a table are among those of another -/
def Sub (T' T : Tb) : Prop := ∀ j p, slot T' j = some p → ∃ i q, slot T i = some q ∧ q.b = p.b
theorem Sub.refl (T : Tb) : Sub T T := fun j p h => ⟨j, p, h, rfl⟩
theorem Sub.trans {A B C : Tb} (h : Sub A B) (h' : Sub B C) : Sub A C := fun j p hp => by
  obtain ⟨i, q, hq, e⟩ := h j p hp
  obtain ⟨i2, q2, hq2, e2⟩ := h' i q hq
  exact ⟨i2, q2, hq2, e2.trans e⟩
theorem Sub.none (T : Tb) (i : Nat) : Sub (T.set i Option.none) T := fun j p hp => by
  have hi : i < T.length ∨ ¬ i < T.length := Decidable.em _
  rcases hi with hi | hi
  · rw [slot_set T i j _ hi] at hp
    split at hp
    · cases hp
    · exact ⟨j, p, hp, rfl⟩
  · rw [List.set_eq_of_length_le (by omega)] at hp; exact ⟨j, p, hp, rfl⟩
theorem Sub.foot {A B : Tb} (h : Sub A B) {tb k : Nat} (hk : tfoot tb A k) : tfoot tb B k := by
  rcases hk with h0 | ⟨j, p, hp, h1⟩
  · exact .inl h0
  · obtain ⟨i, q, hq, e⟩ := h j p hp
    exact .inr ⟨i, q, hq, h1.trans e.symm⟩
theorem Sub.some {A B : Tb} {i : Nat} {p : Pk} (h : Sub A B) (hp : ∃ j q, slot B j = some q ∧ q.b = p.b) : Sub (A.set i (some p)) B := fun j q hq => by
  rcases Nat.lt_or_ge i A.length with hi | hi
  · rw [slot_set A i j _ hi] at hq
    split at hq
    · cases hq; exact hp
    · exact h j q hq
  · rw [List.set_eq_of_length_le (by omega)] at hq; exact h j q hq

set_option maxRecDepth 100000 in
set_option maxHeartbeats 3200000 in
theorem deleteP {H : Nat → Nat} (hH : Hsh H) {L E : Nat} (hs : Siz L E) (tb cap : Nat) (hc : L ≤ cap ∧ cap ≤ 9223372036854775807) (T : Tb) (k : Nat) (hk : k < B64) (w : World) (ht : Tab w tb L T) (hok : Ok H L T) :
    Calls Try.prog 39 #[.slice (some ⟨tb, 0, none⟩) L cap, .int .u64 (k : Int)] w fun e w' =>
      (e = .returned (.bool false) ∧ (∀ j p, slot T j = some p → p.k ≠ k) ∧ Same w w') ∨
      (∃ T' v, e = .returned (.bool true) ∧ Has T k v ∧ Gone H L T k T' ∧ Tab w' tb L T' ∧ Sub T' T ∧ Only (tfoot tb T) w w') := by
  have HF := Lib.hid (find' hH hs hc hk ht hok.room)
  have HT := Lib.hid ht
  have HOK := Lib.hid hok
  have hLm := hs.pos
  have hLm1 := hLm.1
  have HM : Hid (∀ x : Nat, x < 18446744073709551616 → bits .and .u64 (x : Int) ((L : Int) - 1) = ((x % L : Nat) : Int)) := Lib.hid (fun x hx => by have := and_mask x E hx hs.le; rw [← hs.eq] at this; exact this)
  have HS := Lib.hid (And.intro hH hs)
  clear hH hs ht hok hk
  go_enter Try.func39, Try.ntmps39
  go_wp2_with fail
  refine HF.out.mono ?_
  rintro e w1 ⟨i, hfd, rfl, rfl⟩
  have hiL := hfd.lt
  have hiL' : (i : Int) < (L : Int) := by omega
  have hi0 : (0 : Int) ≤ (i : Int) := by omega
  have HFD := Lib.hid hfd
  have c0 := HT.out.at.cell i hiL
  clear hfd HF
  cases hsl : slot T i with
  | none =>
    rw [hsl] at c0
    simp only [pv] at c0
    have HN := Lib.hid (found_none HOK.out HFD.out hsl)
    clear hsl
    go_wp2_with fail
    go_ret
    exact .inl ⟨rfl, HN.out, Only.refl _ _⟩
  | some p =>
    have hpk : p.k = k := by
      obtain ⟨d, _, _, _, h | ⟨q, hq, hk⟩⟩ := HFD.out
      · rw [h] at hsl; cases hsl
      · rw [hsl] at hq; cases hq; exact hk
    obtain ⟨e, hdl, hhas, hocc⟩ := del_start HOK.out hsl
    have HD := Lib.hid hdl
    have HHAS : Hid (∀ a v, Has (T.set i none) a v ↔ a ≠ k ∧ Has T a v) := Lib.hid (by rw [← hpk]; exact hhas)
    have HV : Hid (Has T k p.v) := Lib.hid ⟨i, p, hsl, hpk, rfl⟩
    have HT1 : Hid (Tab (w.setCell ⟨tb, i, none⟩ (.pointer none)) tb L (T.set i none)) := Lib.hid (HT.out.store hiL none (fun p h => by cases h) (fun p j q h => by cases h))
    have HO1 : Hid (Only (tfoot tb T) w (w.setCell ⟨tb, i, none⟩ (.pointer none))) := Lib.hid ((Only.refl (tfoot tb T) w).setCell _ _ (fun _ => .inl rfl))
    have HOC := Lib.hid hocc
    rw [hsl] at c0
    simp only [pv] at c0
    have f0 : w.frozen? ⟨tb, i, none⟩ = false := by obtain ⟨arr, hb, _⟩ := HT.out.row; exact block_free hb
    obtain ⟨i1, hi1⟩ : ∃ i1, (i + 1) % L = i1 := ⟨_, rfl⟩
    have hm1 : bits .and .u64 ((i : Int) + 1) ((L : Int) - 1) = (i1 : Int) := by
      have := HM.out (i + 1) (by omega)
      rw [hi1] at this
      exact this
    have HI1 := Lib.hid hi1
    clear hsl hpk hdl hhas hocc hi1
    go_wp2_with fail
    go_loopw [5] (fun x w' => ∃ (m ii : Nat) (T' : Tb), x = .int .u64 (ii : Int) ∧ Hid (ii = (i + m) % L) ∧ Hid (Dl H L T' i m e) ∧ Hid (∀ a v, Has T' a v ↔ a ≠ k ∧ Has T a v) ∧ Hid (occ T' + 1 = occ T) ∧ Hid (Tab w' tb L T') ∧ Hid (Sub T' T) ∧ Hid (Only (tfoot tb T) w w')) (fun x w' => e - ((intOf x).toNat + L - i) % L)
    case atStart => exact ⟨1, i1, _, rfl, Lib.hid HI1.out.symm, HD, HHAS, HOC, HT1, Lib.hid (Sub.none T i), HO1⟩
    case round =>
      obtain ⟨m, ii, T', rfl, HII, HD', HH', HOC', HT', HSB, HO'⟩ := hrel
      have hil : ii < L := by rw [HII.out]; exact Nat.mod_lt _ hLm1
      have hil' : (ii : Int) < (L : Int) := by omega
      have hi0' : (0 : Int) ≤ (ii : Int) := by omega
      have d0 := HT'.out.at.cell ii hil
      have hme := HD'.out.me
      have heL := HD'.out.eL
      have HMS : Hid ((ii + L - i) % L = m) := Lib.hid (to_free hiL (by omega) HII.out.symm)
      clear hm1
      cases hs : slot T' ii with
      | none =>
        rw [hs] at d0
        simp only [pv] at d0
        have hem : m = e := by
          rcases Nat.lt_or_ge m e with h | h
          · exact absurd hs (by rw [HII.out]; exact HD'.out.full m (Nat.le_refl _) h)
          · omega
        have HFIN : Hid (Gone H L T k T') := Lib.hid ⟨by have := HD'.out; rw [hem] at this; exact this.ok, HH'.out, HOC'.out⟩
        clear hs
        go_wp2
        go_ret
        exact .inr ⟨T', p.v, rfl, HV.out, HFIN.out, HT'.out, HSB.out, HO'.out⟩
      | some q =>
        rw [hs] at d0
        simp only [pv] at d0
        have hlt : m < e := by
          rcases Nat.lt_or_ge m e with h | h
          · exact h
          · have h1 : m = e := by omega
            have h2 := HD'.out.fin
            rw [← h1, ← HII.out, hs] at h2
            cases h2
        have f1 : wr.frozen? ⟨tb, ii, none⟩ = false := by obtain ⟨arr, hb, _⟩ := HT'.out.row; exact block_free hb
        obtain ⟨g1, g2, g3, g4⟩ := HT'.out.pk ii q hs
        have hiT : ii < T'.length := by rw [HT'.out.len]; exact hil
        have HT2 : Hid (Tab (wr.setCell ⟨tb, ii, none⟩ (.pointer none)) tb L (T'.set ii none)) := Lib.hid (HT'.out.store hil none (fun p h => by cases h) (fun p j q h => by cases h))
        have HO2 : Hid (Only (tfoot tb T) w (wr.setCell ⟨tb, ii, none⟩ (.pointer none))) := Lib.hid (HO'.out.setCell _ _ (fun _ => .inl rfl))
        have HSB2 : Hid (Sub (T'.set ii none) T) := Lib.hid ((Sub.none T' ii).trans HSB.out)
        have HPF : ¬ tfoot tb (T'.set ii none) q.b := by
          rintro (h | ⟨j, r, hr, h⟩)
          · exact g2 h
          · rw [slot_set T' ii j _ hiT] at hr
            split at hr
            · cases hr
            · rename_i hne
              exact hne (HT'.out.binj ii j q r hs hr h)
        have hocc1 : occ (T'.set ii none) < L := by
          have h1 := occ_set T' ii none hiT
          rw [hs] at h1
          simp at h1
          have := HD'.out.room
          omega
        have gO : (wr.setCell ⟨tb, ii, none⟩ (.pointer none)).heap[q.b]? = some (.cells #[.int .u64 (q.k : Int), .int .u64 (q.v : Int)] 82 (0, 0)) := ((Only.refl (fun k => k = tb) wr).setCell ⟨tb, ii, none⟩ (.pointer none) (fun _ => rfl)).obj g1 g2
        have HC := Lib.hid (setP HS.out.1 HS.out.2 tb cap hc (T'.set ii none) q.k q.v q.b g3 g4 _ HT2.out hocc1 gO HPF)
        have HQ : Hid (slot T' ((i + m) % L) = some q) := Lib.hid (by rw [← HII.out]; exact hs)
        have HQB : Hid (∃ j r, slot T j = some r ∧ r.b = q.b) := Lib.hid (HSB.out ii q hs)
        obtain ⟨i2, hi2⟩ : ∃ i2, (ii + 1) % L = i2 := ⟨_, rfl⟩
        have hm2 : bits .and .u64 ((ii : Int) + 1) ((L : Int) - 1) = (i2 : Int) := by
          have := HM.out (ii + 1) (by omega)
          rw [hi2] at this
          exact this
        have HI2 : Hid (i2 = (i + (m + 1)) % L) := Lib.hid (by
          rw [← hi2, ← Nat.add_assoc]
          exact shift (L := L) (s := 1) (by rw [HII.out, Nat.mod_mod]))
        have HMS2 : Hid ((i2 + L - i) % L = m + 1) := Lib.hid (to_free hiL (by omega) HI2.out.symm)
        clear hs g1 g2 g3 g4 gO HPF hocc1 hi2
        go_wp2_with fail
        refine HC.out.mono ?_
        rintro e1 w3 ⟨T3, rfl, hput, ht3, ho3, -⟩
        have HR : Hid (Dl H L T3 i (m + 1) e ∧ (∀ a v, Has T3 a v ↔ a ≠ k ∧ Has T a v) ∧ occ T3 + 1 = occ T ∧ Sub T3 T) := Lib.hid (by
          obtain ⟨j, hj, hcase⟩ := hput
          have hst := del_step HD'.out hlt HQ.out (by rw [← HII.out]; exact hj)
          rw [← HII.out] at hst
          rcases hcase with ⟨h1, h2⟩ | ⟨r, h1, _, _⟩
          · rw [h2]
            exact ⟨hst.2.1, fun a v => (hst.2.2.1 a v).trans (HH'.out a v), (congrArg (· + 1) hst.2.2.2).trans HOC'.out, HSB2.out.some HQB.out⟩
          · rw [hst.1] at h1; cases h1)
        have HT3 := Lib.hid ht3
        have HO3 : Hid (Only (tfoot tb T) w w3) := Lib.hid (HO2.out.trans ho3 (fun k _ hk => HSB2.out.foot hk))
        clear hput ht3 ho3
        go_wp2
        go_round
        case rel => exact ⟨m + 1, i2, T3, rfl, HI2, Lib.hid HR.out.1, Lib.hid HR.out.2.1, Lib.hid HR.out.2.2.1, HT3, Lib.hid HR.out.2.2.2, HO3⟩
        case measure => 
          have h1 := HMS.out
          have h2 := HMS2.out
          simp [intOf]
          omega
end Go.Proofs.Ytpccodjmjgfloaa.fi
