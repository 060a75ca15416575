/-
  FnBADense: the walk. A dense array, empty or full, answers any moves as a set of bits does.
-/
import Derived.Test.YtacjkbljokjdkaaBaPlays
import Derived.Test.YtacjkbljokjdkaaArr2
namespace Go.Proofs.Ytacjkbljokjdkaa.walkFnBADense
open Go.RowKit Go.Proofs.Ytacjkbljokjdkaa.base Go.Proofs.Ytacjkbljokjdkaa.heap Go.Proofs.Ytacjkbljokjdkaa.rows Go.Proofs.Ytacjkbljokjdkaa.bit Go.Proofs.Ytacjkbljokjdkaa.bs Go.Proofs.Ytacjkbljokjdkaa.ba
set_option linter.unusedVariables false
theorem playsF (q k0 : Nat) (hq1 : 1 ≤ q) (hq2 : q ≤ 100) (hk : (k0 + 63) / 64 = q) (a : Option Addr) (n cap : Nat) (l : List Nat) (w : World) (h : RL uv w a n cap l) (hl64 : ∀ x ∈ l, Lt64 x) :
    Calls Try.prog 7 #[.agg #[.int .i64 1, .int .i64 0, .int .i64 0, .int .u64 (k0 : Int), .int .i64 0, .bool false], .agg #[.bool true, .int .u64 (q : Int), .slice none 0 0], .slice a n cap] w (FV w (.bool true)) := by
  have hd := does_dense [] k0 (by omega)
  rw [hk] at hd
  exact baPlays q hq1 hq2 k0 false [] none 0 0 a n cap l w h hl64 (OU.nil w) ⟨Asc.nil, by simp⟩ hd
theorem playsT (q k0 : Nat) (hq1 : 1 ≤ q) (hq2 : q ≤ 100) (hk0 : 1 ≤ k0) (hk : (k0 + 63) / 64 = q) (sa : Option Addr) (sc : Nat) (a : Option Addr) (n cap : Nat) (l : List Nat) (w : World) (h : RL uv w a n cap l) (hl64 : ∀ x ∈ l, Lt64 x) (hS : OU w sa (64 * q) sc (List.range (64 * q))) :
    Calls Try.prog 7 #[.agg #[.int .i64 1, .int .i64 0, .int .i64 0, .int .u64 (k0 : Int), .int .i64 0, .bool true], .agg #[.bool true, .int .u64 (q : Int), .slice sa (64 * q) sc], .slice a n cap] w (FV w (.bool true)) := by
  have hd := does_denseAll [] k0 (by omega) hk0
  rw [hk] at hd
  exact baPlays q hq1 hq2 k0 true _ sa (64 * q) sc a n cap l w h hl64 hS ⟨Asc.range _, fun k hk => List.mem_range.1 hk⟩ hd
set_option maxRecDepth 100000 in
set_option maxHeartbeats 1600000 in
theorem main (s1 : Nat) (hs1 : s1 < 65536) (al : Bool) (a : Option Addr) (n ca : Nat) (l1 : List Nat) (w : World) (h1 : RL uv w a n ca l1) (hl64 : ∀ x ∈ l1, Lt64 x) :
    Calls Try.prog 3 #[.int .u16 (s1 : Int), .bool al, .slice a n ca] w (FV w (.bool true)) := by
  have hb1 := h1.bound
  by_cases hn : (2147483647 : Int) < (n : Int)
  · clear h1
    go_enter Try.func3, Try.ntmps3
    go_wp2_with fail
    go_ret
    exact ⟨rfl, Only.refl _ _⟩
  · obtain ⟨k0, HK⟩ : ∃ k, Hid (1 + s1 % 512 = k) := ⟨_, Lib.hid rfl⟩
    obtain ⟨t, ht⟩ : ∃ t, s1 % 512 = t := ⟨_, rfl⟩
    have z1 : IntKind.u64.wrap (s1 : Int) = (s1 : Int) := by rw [IntKind.wrap_u64]; omega
    have z2 : (s1 : Int) % 512 = (t : Int) := by omega
    have z3 : IntKind.u64.wrap (1 + (t : Int)) = (k0 : Int) := by have := HK.out; rw [IntKind.wrap_u64]; omega
    have hk1 : 1 ≤ k0 ∧ k0 ≤ 512 := by have := HK.out; omega
    obtain ⟨q, HQ⟩ : ∃ q, Hid ((k0 + 63) / 64 = q) := ⟨_, Lib.hid rfl⟩
    have hq : 1 ≤ q ∧ q ≤ 100 := by have := HQ.out; omega
    have H1 := Lib.hid (And.intro h1 hl64)
    clear h1 hl64 ht
    cases al with
    | false =>
      have HB : Hid (Calls Try.prog 8 #[.int .u64 (k0 : Int), .bool false] w (FV w (.agg #[.bool true, .int .u64 (q : Int), .slice none 0 0]))) := Lib.hid (by
        have := baNew0 k0 (by omega) w
        rw [HQ.out] at this
        exact this)
      have HP : Hid (∀ wx, Same w wx → Calls Try.prog 7 #[.agg #[.int .i64 1, .int .i64 0, .int .i64 0, .int .u64 (k0 : Int), .int .i64 0, .bool false], .agg #[.bool true, .int .u64 (q : Int), .slice none 0 0], .slice a n ca] wx (FV wx (.bool true))) := Lib.hid (fun wx hS => playsF q k0 hq.1 hq.2 HQ.out a n ca l1 wx (H1.out.1.still hS) H1.out.2)
      go_enter Try.func3, Try.ntmps3
      go_wp2_with (go_at_call 8; refine HB.out.mono ?_)
      rintro e w2 ⟨rfl, hS2⟩
      have HS2 := Lib.hid hS2
      clear hS2
      go_wp2_with (go_at_call 7; refine (HP.out _ HS2.out).mono ?_)
      rintro e w3 ⟨rfl, hS3⟩
      have HS3 := Lib.hid (Same.trans HS2.out hS3)
      clear hS3
      go_wp2_with fail
      go_ret
      exact ⟨rfl, HS3.out⟩
    | true =>
      have HB : Hid (Calls Try.prog 8 #[.int .u64 (k0 : Int), .bool true] w (NewP q w)) := Lib.hid (by
        have := baNew1 k0 (by omega) w
        rw [HQ.out] at this
        exact this)
      have HP : Hid (∀ wx sa sc, Same w wx → OU wx sa (64 * q) sc (List.range (64 * q)) → Calls Try.prog 7 #[.agg #[.int .i64 1, .int .i64 0, .int .i64 0, .int .u64 (k0 : Int), .int .i64 0, .bool true], .agg #[.bool true, .int .u64 (q : Int), .slice sa (64 * q) sc], .slice a n ca] wx (FV wx (.bool true))) := Lib.hid (fun wx sa sc hS hO => playsT q k0 hq.1 hq.2 hk1.1 HQ.out sa sc a n ca l1 wx (H1.out.1.still hS) H1.out.2 hO)
      go_enter Try.func3, Try.ntmps3
      go_wp2_with (go_at_call 8; refine HB.out.mono ?_)
      rintro e w2 ⟨sa, sc, rfl, hO2, hS2, hf2⟩
      have HS2 := Lib.hid (And.intro hS2 hO2)
      clear hS2 hO2 hf2
      go_wp2_with (go_at_call 7; refine (HP.out _ _ _ HS2.out.1 HS2.out.2).mono ?_)
      rintro e w3 ⟨rfl, hS3⟩
      have HS3 := Lib.hid (Same.trans HS2.out.1 hS3)
      clear hS3
      go_wp2_with fail
      go_ret
      exact ⟨rfl, HS3.out⟩
theorem walk (W : World) (v0 v1 v2 : Value) (r0 : Reads Try.prog W 22 v0) (r1 : Reads Try.prog W 4 v1) (r2 : Reads Try.prog W 23 v2) :
    Calls Try.prog 3 #[v0, v1, v2] W fun e w' => e = .returned (.bool true) ∧ Below W.heap.size W w' := by
  obtain ⟨s1, rfl, w1⟩ := r0.int Try.underlying22
  obtain ⟨al, rfl⟩ := Reads.bool r1 Try.underlying4
  obtain ⟨a, n, ca, l1, rfl, h1, hw⟩ := reads_nums r2 Try.underlying23 Try.underlying24 (by kernel_rfl) (fun n h => (wf_u64 h).1)
  have b1 := wf_u16 w1
  obtain ⟨t1, rfl⟩ : ∃ t : Nat, s1 = (t : Int) := ⟨s1.toNat, by omega⟩
  exact (main t1 (by omega) al a n ca l1 W h1 (fun x hx => by have := wf_u64 (hw x hx); unfold Lt64; omega)).mono fun e w' ⟨he, hS⟩ => ⟨he, Only.below hS (Nat.le_refl _) (fun _ _ => id)⟩
end Go.Proofs.Ytacjkbljokjdkaa.walkFnBADense
