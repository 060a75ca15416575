/-
  Or of two sparse arrays, by their bits.
-/
import Derived.Test.YtacjkbljokjdkaaGreatZBaOrS
import Derived.Test.YtacjkbljokjdkaaGreatMH
import Derived.Test.YtacjkbljokjdkaaGreatZBaOrM
namespace Go.Proofs.YtacjkbljokjdkaaGreat.ba
open Go.RowKit Go.Proofs.YtacjkbljokjdkaaGreat.base Go.Proofs.YtacjkbljokjdkaaGreat.heap Go.Proofs.YtacjkbljokjdkaaGreat.rows Go.Proofs.YtacjkbljokjdkaaGreat.bit Go.Proofs.YtacjkbljokjdkaaGreat.bs
set_option linter.unusedVariables false
theorem pairs_nil {P : List (Nat × Nat)} {l : List Nat} (hg : Good P) (h : Rep (wd P) l) (hp : P.length = 0) : l = [] := by
  have := List.eq_nil_of_length_eq_zero hp
  subst this
  exact (pairs_len hg h).2
section
variable {w : World} {p1 cb1 ci1 p2 cb2 ci2 : Nat} {ab1 ai1 ab2 ai2 : Option Addr} {P Q : List (Nat × Nat)} {l1 l2 : List Nat}
set_option maxRecDepth 100000 in
set_option maxHeartbeats 1600000 in
theorem orSS (h1 : Sp w p1 ab1 cb1 ai1 ci1 P) (h2 : Sp w p2 ab2 cb2 ai2 ci2 Q) (r1 : Rep (wd P) l1) (r2 : Rep (wd Q) l2) (zl : P.length + Q.length ≤ 1000000) :
    Calls Tryz.prog 121 #[.pointer (some ⟨p1, 0, none⟩), .pointer (some ⟨p2, 0, none⟩)] w (NewA ⟨false, 0, orL l1 l2⟩ w) := by
  by_cases hq : Q.length = 0
  · have e2 := pairs_nil h2.good r2 hq
    have c2 := h2.c1
    rw [hq] at c2
    have HC := Lib.hid (copyS h1)
    have HF : Hid (∀ p' ab' ai' cb' ci' w', Sp w' p' ab' cb' ai' ci' P → Same w w' → (∀ k, Fs p' ab' ai' k → w.heap.size ≤ k) → NewA ⟨false, 0, orL l1 l2⟩ w (.returned (.iface 82 (.pointer (some ⟨p', 0, none⟩)))) w') := Lib.hid (fun p' ab' ai' cb' ci' w' hsp hs hf => by
      rw [e2]
      exact ⟨_, _, _, rfl, .sparse p' ab' cb' ai' ci' P l1 hsp r1, hs, hf⟩)
    generalize (⟨false, 0, orL l1 l2⟩ : BA) = D at *
    clear h1 h2 r1 r2 zl hq e2
    go_enter Tryz.func121, Tryz.ntmps121
    go_wp2_with (go_at_call 88; refine HC.out.mono ?_)
    rintro e w1 ⟨p', ab', ai', cb', ci', rfl, hsp, hs, hf⟩
    have HR := Lib.hid (HF.out p' ab' ai' cb' ci' w1 hsp hs hf)
    clear hsp hs hf HF HC
    go_wp2_with fail
    go_ret
    exact HR.out
  · by_cases hp : P.length = 0
    · have e1 := pairs_nil h1.good r1 hp
      have c1 := h1.c1
      have c2 := h2.c1
      have b2 := h2.idx.bound
      rw [hp] at c1
      have hz2 : ((Q.length : Int) == 0) = false := by rw [beq_eq_false_iff_ne]; omega
      have HC := Lib.hid (copyS h2)
      have HF : Hid (∀ p' ab' ai' cb' ci' w', Sp w' p' ab' cb' ai' ci' Q → Same w w' → (∀ k, Fs p' ab' ai' k → w.heap.size ≤ k) → NewA ⟨false, 0, orL l1 l2⟩ w (.returned (.iface 82 (.pointer (some ⟨p', 0, none⟩)))) w') := Lib.hid (fun p' ab' ai' cb' ci' w' hsp hs hf => by
        rw [e1, orL_nil r2.1]
        exact ⟨_, _, _, rfl, .sparse p' ab' cb' ai' ci' Q l2 hsp r2, hs, hf⟩)
      generalize (⟨false, 0, orL l1 l2⟩ : BA) = D at *
      generalize Q.length = n2 at *
      clear h1 h2 r1 r2 zl hq e1 hp
      go_enter Tryz.func121, Tryz.ntmps121
      go_wp2_with (go_at_call 88; refine HC.out.mono ?_)
      rintro e w1 ⟨p', ab', ai', cb', ci', rfl, hsp, hs, hf⟩
      have HR := Lib.hid (HF.out p' ab' ai' cb' ci' w1 hsp hs hf)
      clear hsp hs hf HF HC
      go_wp2_with fail
      go_ret
      exact HR.out
    · exact orBothS h1 h2 r1 r2 hp hq zl
set_option maxRecDepth 100000 in
set_option maxHeartbeats 1600000 in
theorem orS (h1 : Sp w p1 ab1 cb1 ai1 ci1 P) (h2 : Sp w p2 ab2 cb2 ai2 ci2 Q) (r1 : Rep (wd P) l1) (r2 : Rep (wd Q) l2) (zl : P.length + Q.length ≤ 1000000) :
    Calls Tryz.prog 109 #[.pointer (some ⟨p1, 0, none⟩), .iface 82 (.pointer (some ⟨p2, 0, none⟩))] w (NewA ⟨false, 0, orL l1 l2⟩ w) := by
  have HN := Lib.hid (orSS h1 h2 r1 r2 zl)
  have hta := isSparse p2
  generalize (⟨false, 0, orL l1 l2⟩ : BA) = D at *
  clear h1 h2 r1 r2 zl
  go_enter Tryz.func109, Tryz.ntmps109
  go_wp2_with fail
  refine HN.out.mono ?_
  intro e w1 hR
  have HR := Lib.hid hR
  obtain ⟨t, u, F, rfl, _⟩ := hR
  clear HN
  go_wp2_with fail
  go_ret
  exact HR.out
end
theorem does_orS {s : List BA} {i j : Nat} {d e : BA} (hd : s[i]? = some d) (hdd : d.dense = false) (he : s[j]? = some e) (hed : e.dense = false) (hl : d.set.length + e.set.length ≤ 1000000) : Does s { op := 11, on := i, by_ := j } (s ++ [⟨false, 0, orL d.set e.set⟩]) {} := by
  intro w q c a l h hs hll
  obtain ⟨p, ab, cb, ai, ci, P, hx, h1, h2, h3⟩ := sparse_at hd hdd h hs
  obtain ⟨p', ab', cb', ai', ci', P', hx', h1', h2', h3'⟩ := sparse_at he hed h hs
  have l1 := (pairs_len h2.good h3).1
  have l2 := (pairs_len h2'.good h3').1
  exact (stepOrS h (by omega) i j p d ⟨false, 0, orL d.set e.set⟩ _ hx _ hx' (Lib.hid (fun wx hS => orS (h2.still hS) (h2'.still hS) h3 h3' (by omega)))).mono fun e w' hp => does_more h hs {} rfl hp
end Go.Proofs.YtacjkbljokjdkaaGreat.ba
