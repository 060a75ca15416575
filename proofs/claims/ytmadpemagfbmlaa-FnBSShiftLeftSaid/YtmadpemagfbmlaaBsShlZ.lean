/-
  Bitsets: ShiftLeft: the bits that are set stand n places further on.
-/
import Derived.Test.YtmadpemagfbmlaaBsShlX
import Derived.Test.YtmadpemagfbmlaaBsShlY
import Derived.Test.YtmadpemagfbmlaaBsShlV
namespace Go.Proofs.Ytmadpemagfbmlaa.bs
open Go.RowKit Go.Proofs.Ytmadpemagfbmlaa.base Go.Proofs.Ytmadpemagfbmlaa.heap Go.Proofs.Ytmadpemagfbmlaa.bit
set_option linter.unusedVariables false

theorem shifts : Shifts := fun o b n w h hr hm hb hn2 => by
  by_cases hn : n = 0
  · subst hn
    exact (shift_zero o b w h hr).mono fun e w' ⟨he, hu⟩ => ⟨he, b, by simp, by omega, hu⟩
  · have hn : 0 < n := by omega
    cases ht : lastTo (bit o.ws) (64 * o.m) with
    | none =>
      refine (shift_none o b n w h hr hn (by omega) ht).mono fun e w' ⟨he, hu⟩ => ⟨he, b, ?_, by omega, hu⟩
      have h0 : ones b = [] := ones_nil fun i _ => by
        by_cases hi : i < 64 * o.m
        · rw [← hr.bits]; exact (lastTo_spec (f := bit o.ws) (64 * o.m)).2 ht i hi
        · have := hr.room
          simp [show b.length ≤ i by omega]
      rw [h0]; rfl
    | some t =>
      by_cases hin : (t + n) / 64 + 1 ≤ o.m
      · by_cases hext : b.length ≤ t + n
        · by_cases hr0 : 0 < n % 64
          · by_cases hpad : 64 ≤ t % 64 + n % 64
            · exact shift_igo o b n t w h hr hn hn2 hb hm ht hin hext hr0 hpad
            · exact shift_ign o b n t w h hr hn hn2 hb hm ht hin hext hr0 (by omega)
          · exact shift_igz o b n t w h hr hn hn2 hb hm ht hin hext (by omega)
        · by_cases hr0 : 0 < n % 64
          · by_cases hpad : 64 ≤ t % 64 + n % 64
            · exact shift_iso o b n t w h hr hn hn2 hb hm ht hin (by omega) hr0 hpad
            · exact shift_isn o b n t w h hr hn hn2 hb hm ht hin (by omega) hr0 (by omega)
          · exact shift_isz o b n t w h hr hn hn2 hb hm ht hin (by omega) (by omega)
      · have hext : b.length ≤ t + n := by omega
        by_cases hr0 : 0 < n % 64
        · by_cases hpad : 64 ≤ t % 64 + n % 64
          · exact shift_fgo o b n t w h hr hn hn2 hb hm ht (by omega) hext hr0 hpad
          · exact shift_fgn o b n t w h hr hn hn2 hb hm ht (by omega) hext hr0 (by omega)
        · exact shift_fgz o b n t w h hr hn hn2 hb hm ht (by omega) hext (by omega)
end Go.Proofs.Ytmadpemagfbmlaa.bs
