/-
  Nand of two dense arrays, by their bits.
-/
import Derived.Test.YtacjkbljokjdkaaBaDoesD
namespace Go.Proofs.Ytacjkbljokjdkaa.ba
open Go.RowKit Go.Proofs.Ytacjkbljokjdkaa.base Go.Proofs.Ytacjkbljokjdkaa.heap Go.Proofs.Ytacjkbljokjdkaa.rows Go.Proofs.Ytacjkbljokjdkaa.bit Go.Proofs.Ytacjkbljokjdkaa.bs
set_option linter.unusedVariables false
theorem wf_tab (f : Nat → Nat) (n j : Nat) : wf (tab f n n) j = if j < n then f j else 0 := by
  unfold wf; rw [tab_get]; simp
theorem ResD.arr {ws l : List Nat} (hr : Rep (wf ws) l) {w w' : World} {e : Ending} (h : ResD ws w e w') : NewA ⟨true, ws.length, l⟩ w e w' := by
  obtain ⟨p, a, c, lo, hi, any, rfl, hd, hf, hs, hn⟩ := h
  exact ⟨_, _, _, rfl, Arr.ofFin (w := w) hd hf hr, hs, hn⟩
/-- an array of one kind is asked for -/
theorem isDense (p : Nat) (wx : World) : (Instr.typeAssert (.iface 85 (.pointer (some ⟨p, 0, none⟩))) 62 85 true).run Try.prog wx = .ok (.tuple #[.pointer (some ⟨p, 0, none⟩), .bool true]) wx := by kernel_rfl
theorem notDense (p : Nat) (wx : World) : (Instr.typeAssert (.iface 87 (.pointer (some ⟨p, 0, none⟩))) 62 85 true).run Try.prog wx = .ok (.tuple #[.pointer none, .bool false]) wx := by kernel_rfl
theorem isSparse (p : Nat) (wx : World) : (Instr.typeAssert (.iface 87 (.pointer (some ⟨p, 0, none⟩))) 62 87 true).run Try.prog wx = .ok (.tuple #[.pointer (some ⟨p, 0, none⟩), .bool true]) wx := by kernel_rfl
theorem notSparse (p : Nat) (wx : World) : (Instr.typeAssert (.iface 85 (.pointer (some ⟨p, 0, none⟩))) 62 87 true).run Try.prog wx = .ok (.tuple #[.pointer none, .bool false]) wx := by kernel_rfl
theorem asDense (p : Nat) (wx : World) : (Instr.typeAssert (.iface 85 (.pointer (some ⟨p, 0, none⟩))) 62 85 false).run Try.prog wx = .ok (.pointer (some ⟨p, 0, none⟩)) wx := by kernel_rfl
theorem asSparse (p : Nat) (wx : World) : (Instr.typeAssert (.iface 87 (.pointer (some ⟨p, 0, none⟩))) 62 87 false).run Try.prog wx = .ok (.pointer (some ⟨p, 0, none⟩)) wx := by kernel_rfl
section
variable {w : World} {p1 c1 lo1 hi1 p2 c2 lo2 hi2 : Nat} {a1 a2 : Option Addr} {ws1 ws2 l1 l2 : List Nat} {any1 any2 : Bool}
set_option maxRecDepth 100000 in
set_option maxHeartbeats 1600000 in
theorem nandD (h1 : Dn w p1 a1 c1 ws1 lo1 hi1 any1) (h2 : Dn w p2 a2 c2 ws2 lo2 hi2 any2) (hle : ws1.length ≤ ws2.length) (r1 : Rep (wf ws1) l1) (r2 : Rep (wf ws2) l2) :
    Calls Try.prog 60 #[.pointer (some ⟨p1, 0, none⟩), .iface 85 (.pointer (some ⟨p2, 0, none⟩))] w (NewA ⟨true, ws1.length, nandL l1 l2⟩ w) := by
  have HN := Lib.hid (nandDD h1 h2 hle)
  have HF : Hid (∀ e w', ResD (tab (fun j => nandW (ws1.getD j 0) (ws2.getD j 0)) ws1.length ws1.length) w e w' → NewA ⟨true, ws1.length, nandL l1 l2⟩ w e w') := Lib.hid (fun e w' h => by
    have hs := nandL_spec r1.1 l2
    have hr : Rep (wf (tab (fun j => nandW (ws1.getD j 0) (ws2.getD j 0)) ws1.length ws1.length)) (nandL l1 l2) := (rep_nand (fun j => h1.ok.at j) (fun j => h2.ok.at j) r1 r2 hs.1 hs.2).congr (fun j => by
      rw [wf_tab]
      split
      · rfl
      · rw [show ws1.getD j 0 = 0 by rw [List.getD_eq_getElem?_getD, List.getElem?_eq_none (by omega)]; rfl]
        unfold nandW; simp)
    have := h.arr hr
    rw [tab_len] at this
    exact this)
  have hta := isDense p2
  clear h1 h2 hle r1 r2
  go_enter Try.func60, Try.ntmps60
  go_wp2_with fail
  refine HN.out.mono ?_
  intro e w1 hR
  have HR := Lib.hid (HF.out _ _ hR)
  obtain ⟨p, a, c, lo, hi, any, rfl, _⟩ := hR
  clear HN HF
  go_wp2_with fail
  go_ret
  exact HR.out
end
theorem does_nandD {s : List BA} {i j : Nat} {d e : BA} (hd : s[i]? = some d) (hdd : d.dense = true) (he : s[j]? = some e) (hed : e.dense = true) (hle : d.words ≤ e.words) : Does s { op := 13, on := i, by_ := j } (s ++ [⟨true, d.words, nandL d.set e.set⟩]) {} := by
  intro w q c a l h hs hl
  obtain ⟨p, ab, cb, ws, lo, hi, any, hx, h1, h2, h3, h4⟩ := dense_at hd hdd h hs
  obtain ⟨p', ab', cb', ws', lo', hi', any', hx', h1', h2', h3', h4'⟩ := dense_at he hed h hs
  refine (stepNand h (by omega) i j p d ⟨true, d.words, nandL d.set e.set⟩ _ hx _ hx' (Lib.hid (fun wx hS => ?_))).mono fun e w' hp => does_more h hs {} rfl hp
  rw [h1]
  exact nandD (h2.still hS) (h2'.still hS) (by omega) h3 h3'
end Go.Proofs.Ytacjkbljokjdkaa.ba
