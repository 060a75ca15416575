/-
  Nand of two sparse arrays, by their bits.
-/
import Derived.Test.YtacjkbljokjdkaaGreatBaNandS
import Derived.Test.YtacjkbljokjdkaaGreatBaPlainG
import Derived.Test.YtacjkbljokjdkaaGreatBaTwoD
namespace Go.Proofs.YtacjkbljokjdkaaGreat.ba
open Go.RowKit Go.Proofs.YtacjkbljokjdkaaGreat.base Go.Proofs.YtacjkbljokjdkaaGreat.heap Go.Proofs.YtacjkbljokjdkaaGreat.rows Go.Proofs.YtacjkbljokjdkaaGreat.bit Go.Proofs.YtacjkbljokjdkaaGreat.bs
set_option linter.unusedVariables false
set_option maxRecDepth 100000 in
set_option maxHeartbeats 1600000 in
theorem nandS {w : World} {p1 cb1 ci1 p2 cb2 ci2 : Nat} {ab1 ai1 ab2 ai2 : Option Addr} {P Q : List (Nat × Nat)} {l1 l2 : List Nat} (h1 : Sp w p1 ab1 cb1 ai1 ci1 P) (h2 : Sp w p2 ab2 cb2 ai2 ci2 Q) (r1 : Rep (wd P) l1) (r2 : Rep (wd Q) l2) :
    Calls Tryz.prog 108 #[.pointer (some ⟨p1, 0, none⟩), .iface 82 (.pointer (some ⟨p2, 0, none⟩))] w (NewA ⟨false, 0, nandL l1 l2⟩ w) := by
  have HN := Lib.hid (nandSS h1 h2 r1 r2)
  have hta := isSparse p2
  generalize (⟨false, 0, nandL l1 l2⟩ : BA) = D at *
  clear h1 h2 r1 r2
  go_enter Tryz.func108, Tryz.ntmps108
  go_wp2_with fail
  refine HN.out.mono ?_
  intro e w1 hR
  have HR := Lib.hid hR
  obtain ⟨t, u, F, rfl, _⟩ := hR
  clear HN
  go_wp2_with fail
  go_ret
  exact HR.out
theorem does_nandS {s : List BA} {i j : Nat} {d e : BA} (hd : s[i]? = some d) (hdd : d.dense = false) (he : s[j]? = some e) (hed : e.dense = false) : Does s { op := 13, on := i, by_ := j } (s ++ [⟨false, 0, nandL d.set e.set⟩]) {} := by
  intro w q c a l h hs hl
  obtain ⟨p, ab, cb, ai, ci, P, hx, h1, h2, h3⟩ := sparse_at hd hdd h hs
  obtain ⟨p', ab', cb', ai', ci', P', hx', h1', h2', h3'⟩ := sparse_at he hed h hs
  exact (stepNandS h (by omega) i j p d ⟨false, 0, nandL d.set e.set⟩ _ hx _ hx' (Lib.hid (fun wx hS => nandS (h2.still hS) (h2'.still hS) h3 h3'))).mono fun e w' hp => does_more h hs {} rfl hp
end Go.Proofs.YtacjkbljokjdkaaGreat.ba
