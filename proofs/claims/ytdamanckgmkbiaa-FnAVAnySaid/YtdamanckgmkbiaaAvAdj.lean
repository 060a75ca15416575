/-
  An AVL tree's nodes in memory: the balances of a double rotation; a new entry's rotation.
-/
import Derived.Test.YtdamanckgmkbiaaAvRot
namespace Go.Proofs.Ytdamanckgmkbiaa.av
open Go.RowKit Go.Proofs.Ytdamanckgmkbiaa.base Go.Proofs.Ytdamanckgmkbiaa.heap Go.Proofs.Ytdamanckgmkbiaa.rows
set_option linter.unusedVariables false
set_option maxRecDepth 100000 in
theorem adj0z {w : World} {p n m : Nat} {b bn k v kn vn km vm : Int} {A B1 B2 C : Option Addr} (h : Nd w p b (at0 n) A k v) (g : Nd w n bn C (at0 m) kn vn) (f : Nd w m (0) B2 B1 km vm) (h1 : p ≠ n) (h2 : p ≠ m) (h3 : n ≠ m) :
    Calls Try.prog 48 #[.pointer (at0 p), .int .i64 0, .int .i64 (-1)] w (AjP p n m (fun w' => Nd w' p (0) (at0 n) A k v ∧ Nd w' n (0) C (at0 m) kn vn ∧ Nd w' m 0 B2 B1 km vm) w) := by
  have O := fun w => (opp0 w).mono (fun e w' (h : e = _ ∧ w = w') => (⟨h.1, h.2.symm⟩ : e = .returned (.int .i64 1) ∧ w' = w))
  have c1 := h.lc
  have d1 := g.rc
  have e1 := f.bal
  have c0 := h.bal
  have d0 := g.bal
  have f1 := h.fr
  have f2 := g.fr
  have f3 := f.fr
  have l1 := h.lt
  have l2 := g.lt
  have l3 := f.lt
  have HN : Hid (p ≠ n ∧ p ≠ m ∧ n ≠ m) := Lib.hid ⟨h1, h2, h3⟩
  have HA : Hid (Nd w p b (at0 n) A k v ∧ Nd w n bn C (at0 m) kn vn ∧ Nd w m (0) B2 B1 km vm) := Lib.hid ⟨h, g, f⟩
  clear h g f
  go_enter Try.func48, Try.ntmps48
  go_wp2_with (first | (go_at_call 47; refine (O _).mono ?_; rintro e w' ⟨rfl, rfl⟩) | fail)
  go_quiet ((go_at_call 47; exact Calls.quiet_of_same (O _)))
  go_wp2_with fail
  go_end0
  exact ⟨rfl, ⟨((HA.out.1.setb _).off HN.out.1).off HN.out.2.1, ((HA.out.2.1.off (fun e => HN.out.1 e.symm)).setb _).off HN.out.2.2, ((HA.out.2.2.off (fun e => HN.out.2.1 e.symm)).off (fun e => HN.out.2.2 e.symm)).setb _⟩, only2 (only2 (only2 ((Only.refl _ w).drewN _) (.inl rfl)) (.inr (.inl rfl))) (.inr (.inr rfl)), (set_size _ _ _).trans ((set_size _ _ _).trans (set_size _ _ _))⟩
set_option maxRecDepth 100000 in
theorem adj0u {w : World} {p n m : Nat} {b bn k v kn vn km vm : Int} {A B1 B2 C : Option Addr} (h : Nd w p b (at0 n) A k v) (g : Nd w n bn C (at0 m) kn vn) (f : Nd w m (1) B2 B1 km vm) (h1 : p ≠ n) (h2 : p ≠ m) (h3 : n ≠ m) :
    Calls Try.prog 48 #[.pointer (at0 p), .int .i64 0, .int .i64 (-1)] w (AjP p n m (fun w' => Nd w' p (0) (at0 n) A k v ∧ Nd w' n (-1) C (at0 m) kn vn ∧ Nd w' m 0 B2 B1 km vm) w) := by
  have O := fun w => (opp0 w).mono (fun e w' (h : e = _ ∧ w = w') => (⟨h.1, h.2.symm⟩ : e = .returned (.int .i64 1) ∧ w' = w))
  have c1 := h.lc
  have d1 := g.rc
  have e1 := f.bal
  have c0 := h.bal
  have d0 := g.bal
  have f1 := h.fr
  have f2 := g.fr
  have f3 := f.fr
  have l1 := h.lt
  have l2 := g.lt
  have l3 := f.lt
  have HN : Hid (p ≠ n ∧ p ≠ m ∧ n ≠ m) := Lib.hid ⟨h1, h2, h3⟩
  have HA : Hid (Nd w p b (at0 n) A k v ∧ Nd w n bn C (at0 m) kn vn ∧ Nd w m (1) B2 B1 km vm) := Lib.hid ⟨h, g, f⟩
  clear h g f
  go_enter Try.func48, Try.ntmps48
  go_wp2_with (first | (go_at_call 47; refine (O _).mono ?_; rintro e w' ⟨rfl, rfl⟩) | fail)
  go_quiet ((go_at_call 47; exact Calls.quiet_of_same (O _)))
  go_wp2_with fail
  go_end0
  exact ⟨rfl, ⟨((HA.out.1.setb _).off HN.out.1).off HN.out.2.1, ((HA.out.2.1.off (fun e => HN.out.1 e.symm)).setb _).off HN.out.2.2, ((HA.out.2.2.off (fun e => HN.out.2.1 e.symm)).off (fun e => HN.out.2.2 e.symm)).setb _⟩, only2 (only2 (only2 ((Only.refl _ w).drewN _) (.inl rfl)) (.inr (.inl rfl))) (.inr (.inr rfl)), (set_size _ _ _).trans ((set_size _ _ _).trans (set_size _ _ _))⟩
set_option maxRecDepth 100000 in
theorem adj0d {w : World} {p n m : Nat} {b bn k v kn vn km vm : Int} {A B1 B2 C : Option Addr} (h : Nd w p b (at0 n) A k v) (g : Nd w n bn C (at0 m) kn vn) (f : Nd w m (-1) B2 B1 km vm) (h1 : p ≠ n) (h2 : p ≠ m) (h3 : n ≠ m) :
    Calls Try.prog 48 #[.pointer (at0 p), .int .i64 0, .int .i64 (-1)] w (AjP p n m (fun w' => Nd w' p (1) (at0 n) A k v ∧ Nd w' n (0) C (at0 m) kn vn ∧ Nd w' m 0 B2 B1 km vm) w) := by
  have O := fun w => (opp0 w).mono (fun e w' (h : e = _ ∧ w = w') => (⟨h.1, h.2.symm⟩ : e = .returned (.int .i64 1) ∧ w' = w))
  have c1 := h.lc
  have d1 := g.rc
  have e1 := f.bal
  have c0 := h.bal
  have d0 := g.bal
  have f1 := h.fr
  have f2 := g.fr
  have f3 := f.fr
  have l1 := h.lt
  have l2 := g.lt
  have l3 := f.lt
  have HN : Hid (p ≠ n ∧ p ≠ m ∧ n ≠ m) := Lib.hid ⟨h1, h2, h3⟩
  have HA : Hid (Nd w p b (at0 n) A k v ∧ Nd w n bn C (at0 m) kn vn ∧ Nd w m (-1) B2 B1 km vm) := Lib.hid ⟨h, g, f⟩
  clear h g f
  go_enter Try.func48, Try.ntmps48
  go_wp2_with (first | (go_at_call 47; refine (O _).mono ?_; rintro e w' ⟨rfl, rfl⟩) | fail)
  go_quiet ((go_at_call 47; exact Calls.quiet_of_same (O _)))
  go_wp2_with fail
  go_end0
  exact ⟨rfl, ⟨((HA.out.1.setb _).off HN.out.1).off HN.out.2.1, ((HA.out.2.1.off (fun e => HN.out.1 e.symm)).setb _).off HN.out.2.2, ((HA.out.2.2.off (fun e => HN.out.2.1 e.symm)).off (fun e => HN.out.2.2 e.symm)).setb _⟩, only2 (only2 (only2 ((Only.refl _ w).drewN _) (.inl rfl)) (.inr (.inl rfl))) (.inr (.inr rfl)), (set_size _ _ _).trans ((set_size _ _ _).trans (set_size _ _ _))⟩
set_option maxRecDepth 100000 in
theorem adj1z {w : World} {p n m : Nat} {b bn k v kn vn km vm : Int} {A B1 B2 C : Option Addr} (h : Nd w p b A (at0 n) k v) (g : Nd w n bn (at0 m) C kn vn) (f : Nd w m (0) B1 B2 km vm) (h1 : p ≠ n) (h2 : p ≠ m) (h3 : n ≠ m) :
    Calls Try.prog 48 #[.pointer (at0 p), .int .i64 1, .int .i64 (1)] w (AjP p n m (fun w' => Nd w' p (0) A (at0 n) k v ∧ Nd w' n (0) (at0 m) C kn vn ∧ Nd w' m 0 B1 B2 km vm) w) := by
  have O := fun w => (opp1 w).mono (fun e w' (h : e = _ ∧ w = w') => (⟨h.1, h.2.symm⟩ : e = .returned (.int .i64 0) ∧ w' = w))
  have c1 := h.rc
  have d1 := g.lc
  have e1 := f.bal
  have c0 := h.bal
  have d0 := g.bal
  have f1 := h.fr
  have f2 := g.fr
  have f3 := f.fr
  have l1 := h.lt
  have l2 := g.lt
  have l3 := f.lt
  have HN : Hid (p ≠ n ∧ p ≠ m ∧ n ≠ m) := Lib.hid ⟨h1, h2, h3⟩
  have HA : Hid (Nd w p b A (at0 n) k v ∧ Nd w n bn (at0 m) C kn vn ∧ Nd w m (0) B1 B2 km vm) := Lib.hid ⟨h, g, f⟩
  clear h g f
  go_enter Try.func48, Try.ntmps48
  go_wp2_with (first | (go_at_call 47; refine (O _).mono ?_; rintro e w' ⟨rfl, rfl⟩) | fail)
  go_quiet ((go_at_call 47; exact Calls.quiet_of_same (O _)))
  go_wp2_with fail
  go_end0
  exact ⟨rfl, ⟨((HA.out.1.setb _).off HN.out.1).off HN.out.2.1, ((HA.out.2.1.off (fun e => HN.out.1 e.symm)).setb _).off HN.out.2.2, ((HA.out.2.2.off (fun e => HN.out.2.1 e.symm)).off (fun e => HN.out.2.2 e.symm)).setb _⟩, only2 (only2 (only2 ((Only.refl _ w).drewN _) (.inl rfl)) (.inr (.inl rfl))) (.inr (.inr rfl)), (set_size _ _ _).trans ((set_size _ _ _).trans (set_size _ _ _))⟩
set_option maxRecDepth 100000 in
theorem adj1u {w : World} {p n m : Nat} {b bn k v kn vn km vm : Int} {A B1 B2 C : Option Addr} (h : Nd w p b A (at0 n) k v) (g : Nd w n bn (at0 m) C kn vn) (f : Nd w m (1) B1 B2 km vm) (h1 : p ≠ n) (h2 : p ≠ m) (h3 : n ≠ m) :
    Calls Try.prog 48 #[.pointer (at0 p), .int .i64 1, .int .i64 (1)] w (AjP p n m (fun w' => Nd w' p (-1) A (at0 n) k v ∧ Nd w' n (0) (at0 m) C kn vn ∧ Nd w' m 0 B1 B2 km vm) w) := by
  have O := fun w => (opp1 w).mono (fun e w' (h : e = _ ∧ w = w') => (⟨h.1, h.2.symm⟩ : e = .returned (.int .i64 0) ∧ w' = w))
  have c1 := h.rc
  have d1 := g.lc
  have e1 := f.bal
  have c0 := h.bal
  have d0 := g.bal
  have f1 := h.fr
  have f2 := g.fr
  have f3 := f.fr
  have l1 := h.lt
  have l2 := g.lt
  have l3 := f.lt
  have HN : Hid (p ≠ n ∧ p ≠ m ∧ n ≠ m) := Lib.hid ⟨h1, h2, h3⟩
  have HA : Hid (Nd w p b A (at0 n) k v ∧ Nd w n bn (at0 m) C kn vn ∧ Nd w m (1) B1 B2 km vm) := Lib.hid ⟨h, g, f⟩
  clear h g f
  go_enter Try.func48, Try.ntmps48
  go_wp2_with (first | (go_at_call 47; refine (O _).mono ?_; rintro e w' ⟨rfl, rfl⟩) | fail)
  go_quiet ((go_at_call 47; exact Calls.quiet_of_same (O _)))
  go_wp2_with fail
  go_end0
  exact ⟨rfl, ⟨((HA.out.1.setb _).off HN.out.1).off HN.out.2.1, ((HA.out.2.1.off (fun e => HN.out.1 e.symm)).setb _).off HN.out.2.2, ((HA.out.2.2.off (fun e => HN.out.2.1 e.symm)).off (fun e => HN.out.2.2 e.symm)).setb _⟩, only2 (only2 (only2 ((Only.refl _ w).drewN _) (.inl rfl)) (.inr (.inl rfl))) (.inr (.inr rfl)), (set_size _ _ _).trans ((set_size _ _ _).trans (set_size _ _ _))⟩
set_option maxRecDepth 100000 in
theorem adj1d {w : World} {p n m : Nat} {b bn k v kn vn km vm : Int} {A B1 B2 C : Option Addr} (h : Nd w p b A (at0 n) k v) (g : Nd w n bn (at0 m) C kn vn) (f : Nd w m (-1) B1 B2 km vm) (h1 : p ≠ n) (h2 : p ≠ m) (h3 : n ≠ m) :
    Calls Try.prog 48 #[.pointer (at0 p), .int .i64 1, .int .i64 (1)] w (AjP p n m (fun w' => Nd w' p (0) A (at0 n) k v ∧ Nd w' n (1) (at0 m) C kn vn ∧ Nd w' m 0 B1 B2 km vm) w) := by
  have O := fun w => (opp1 w).mono (fun e w' (h : e = _ ∧ w = w') => (⟨h.1, h.2.symm⟩ : e = .returned (.int .i64 0) ∧ w' = w))
  have c1 := h.rc
  have d1 := g.lc
  have e1 := f.bal
  have c0 := h.bal
  have d0 := g.bal
  have f1 := h.fr
  have f2 := g.fr
  have f3 := f.fr
  have l1 := h.lt
  have l2 := g.lt
  have l3 := f.lt
  have HN : Hid (p ≠ n ∧ p ≠ m ∧ n ≠ m) := Lib.hid ⟨h1, h2, h3⟩
  have HA : Hid (Nd w p b A (at0 n) k v ∧ Nd w n bn (at0 m) C kn vn ∧ Nd w m (-1) B1 B2 km vm) := Lib.hid ⟨h, g, f⟩
  clear h g f
  go_enter Try.func48, Try.ntmps48
  go_wp2_with (first | (go_at_call 47; refine (O _).mono ?_; rintro e w' ⟨rfl, rfl⟩) | fail)
  go_quiet ((go_at_call 47; exact Calls.quiet_of_same (O _)))
  go_wp2_with fail
  go_end0
  exact ⟨rfl, ⟨((HA.out.1.setb _).off HN.out.1).off HN.out.2.1, ((HA.out.2.1.off (fun e => HN.out.1 e.symm)).setb _).off HN.out.2.2, ((HA.out.2.2.off (fun e => HN.out.2.1 e.symm)).off (fun e => HN.out.2.2 e.symm)).setb _⟩, only2 (only2 (only2 ((Only.refl _ w).drewN _) (.inl rfl)) (.inr (.inl rfl))) (.inr (.inr rfl)), (set_size _ _ _).trans ((set_size _ _ _).trans (set_size _ _ _))⟩
theorem adj0 {w : World} {p n m : Nat} {b bn bm k v kn vn km vm : Int} {A B1 B2 C : Option Addr} (h : Nd w p b (at0 n) A k v) (g : Nd w n bn C (at0 m) kn vn) (f : Nd w m bm B2 B1 km vm) (h1 : p ≠ n) (h2 : p ≠ m) (h3 : n ≠ m) (hb : -1 ≤ bm ∧ bm ≤ 1) :
    Calls Try.prog 48 #[.pointer (at0 p), .int .i64 0, .int .i64 (-1)] w (AjP p n m (fun w' => Nd w' p (-up2 (-bm)) (at0 n) A k v ∧ Nd w' n (-lo2 (-bm)) C (at0 m) kn vn ∧ Nd w' m 0 B2 B1 km vm) w) := by
  have e : bm = 0 ∨ bm = 1 ∨ bm = -1 := by omega
  rcases e with rfl | rfl | rfl
  · exact adj0z h g f h1 h2 h3
  · exact adj0u h g f h1 h2 h3
  · exact adj0d h g f h1 h2 h3
theorem adj1 {w : World} {p n m : Nat} {b bn bm k v kn vn km vm : Int} {A B1 B2 C : Option Addr} (h : Nd w p b A (at0 n) k v) (g : Nd w n bn (at0 m) C kn vn) (f : Nd w m bm B1 B2 km vm) (h1 : p ≠ n) (h2 : p ≠ m) (h3 : n ≠ m) (hb : -1 ≤ bm ∧ bm ≤ 1) :
    Calls Try.prog 48 #[.pointer (at0 p), .int .i64 1, .int .i64 (1)] w (AjP p n m (fun w' => Nd w' p (up2 bm) A (at0 n) k v ∧ Nd w' n (lo2 bm) (at0 m) C kn vn ∧ Nd w' m 0 B1 B2 km vm) w) := by
  have e : bm = 0 ∨ bm = 1 ∨ bm = -1 := by omega
  rcases e with rfl | rfl | rfl
  · exact adj1z h g f h1 h2 h3
  · exact adj1u h g f h1 h2 h3
  · exact adj1d h g f h1 h2 h3
set_option maxRecDepth 100000 in
theorem insS0 {w : World} {p n : Nat} {b k v kn vn : Int} {A B C : Option Addr} (h : Nd w p b (at0 n) A k v) (g : Nd w n (-1) C B kn vn) (hne : p ≠ n) : Calls Try.prog 41 #[.pointer (at0 p), .int .i64 0] w (RotP p n (fun w' => Nd w' p 0 B A k v ∧ Nd w' n 0 C (at0 p) kn vn) w) := by
  have O := opp0
  have c1 := h.lc
  have c0 := h.bal
  have d0 := g.bal
  have f1 := h.fr
  have f2 := g.fr
  have l1 := h.lt
  have l2 := g.lt
  have HF : Hid (Only (fun x => x = p ∨ x = n) w ((w.setCell ⟨p, 0, none⟩ (.int .i8 0)).setCell ⟨n, 0, none⟩ (.int .i8 0)) ∧ ((w.setCell ⟨p, 0, none⟩ (.int .i8 0)).setCell ⟨n, 0, none⟩ (.int .i8 0)).heap.size = w.heap.size ∧ Calls Try.prog 46 #[.pointer (at0 p), .int .i64 1] ((w.setCell ⟨p, 0, none⟩ (.int .i8 0)).setCell ⟨n, 0, none⟩ (.int .i8 0)) (RotP p n (fun w' => Nd w' p 0 B A k v ∧ Nd w' n 0 C (at0 p) kn vn) ((w.setCell ⟨p, 0, none⟩ (.int .i8 0)).setCell ⟨n, 0, none⟩ (.int .i8 0)))) := Lib.hid ⟨only2 (only2 (Only.refl _ w) (.inl rfl)) (.inr rfl), (set_size _ _ _).trans (set_size _ _ _), rot1 ((h.setb _).off hne) ((g.off (fun e => hne e.symm)).setb _) hne⟩
  clear h g
  go_enter Try.func41, Try.ntmps41
  go_wp2_with (first | (go_at_call 47; refine (O _).mono ?_; rintro e w' ⟨rfl, rfl⟩) | (go_at_call 46; refine HF.out.2.2.mono ?_; rintro e w3 ⟨rfl, hN3, hO3, hz3⟩; have HE := Lib.hid (And.intro hN3 (And.intro (HF.out.1.trans hO3 (fun _ _ e => e)) (hz3.trans HF.out.2.1))); clear hN3 hO3 hz3) | fail)
  go_ret
  exact ⟨rfl, HE.out.1, HE.out.2.1, HE.out.2.2⟩
set_option maxRecDepth 100000 in
theorem insD0 {w : World} {p n m : Nat} {b bm k v kn vn km vm : Int} {A B1 B2 C : Option Addr} (h : Nd w p b (at0 n) A k v) (g : Nd w n (1) C (at0 m) kn vn) (f : Nd w m bm B2 B1 km vm) (h1 : p ≠ n) (h2 : p ≠ m) (h3 : n ≠ m) (hb : -1 ≤ bm ∧ bm ≤ 1) : Calls Try.prog 41 #[.pointer (at0 p), .int .i64 0] w (DrP p n m (fun w' => Nd w' p (-up2 (-bm)) B1 A k v ∧ Nd w' n (-lo2 (-bm)) C B2 kn vn ∧ Nd w' m 0 (at0 n) (at0 p) km vm) w) := by
  have O := opp0
  have c1 := h.lc
  have d0 := g.bal
  have l1 := h.lt
  have l2 := g.lt
  have HA := Lib.hid (adj0 h g f h1 h2 h3 hb)
  have HD : Hid (∀ w2, (Nd w2 p (-up2 (-bm)) (at0 n) A k v ∧ Nd w2 n (-lo2 (-bm)) C (at0 m) kn vn ∧ Nd w2 m 0 B2 B1 km vm) → Calls Try.prog 49 #[.pointer (at0 p), .int .i64 1] w2 (DrP p n m (fun w' => Nd w' p (-up2 (-bm)) B1 A k v ∧ Nd w' n (-lo2 (-bm)) C B2 kn vn ∧ Nd w' m 0 (at0 n) (at0 p) km vm) w2)) := Lib.hid (fun w2 hx => drot1 hx.1 hx.2.1 hx.2.2 h1 h2 h3)
  clear h g f hb h1 h2 h3
  go_enter Try.func41, Try.ntmps41
  go_wp2_with (first | (go_at_call 47; refine (O _).mono ?_; rintro e w' ⟨rfl, rfl⟩) | (go_at_call 48; refine HA.out.mono ?_; rintro e w2 ⟨rfl, hN2, hO2, hz2⟩; have HD2 := Lib.hid (HD.out w2 hN2); have HO2 := Lib.hid (And.intro hO2 hz2); clear hN2 hO2 hz2) | (go_at_call 49; refine HD2.out.mono ?_; rintro e w3 ⟨rfl, hN3, hO3, hz3⟩; have HE := Lib.hid (And.intro hN3 (And.intro (HO2.out.1.trans hO3 (fun _ _ e => e)) (hz3.trans HO2.out.2))); clear hN3 hO3 hz3) | fail)
  go_ret
  exact ⟨rfl, HE.out.1, HE.out.2.1, HE.out.2.2⟩
set_option maxRecDepth 100000 in
theorem insS1 {w : World} {p n : Nat} {b k v kn vn : Int} {A B C : Option Addr} (h : Nd w p b A (at0 n) k v) (g : Nd w n (1) B C kn vn) (hne : p ≠ n) : Calls Try.prog 41 #[.pointer (at0 p), .int .i64 1] w (RotP p n (fun w' => Nd w' p 0 A B k v ∧ Nd w' n 0 (at0 p) C kn vn) w) := by
  have O := opp1
  have c1 := h.rc
  have c0 := h.bal
  have d0 := g.bal
  have f1 := h.fr
  have f2 := g.fr
  have l1 := h.lt
  have l2 := g.lt
  have HF : Hid (Only (fun x => x = p ∨ x = n) w ((w.setCell ⟨p, 0, none⟩ (.int .i8 0)).setCell ⟨n, 0, none⟩ (.int .i8 0)) ∧ ((w.setCell ⟨p, 0, none⟩ (.int .i8 0)).setCell ⟨n, 0, none⟩ (.int .i8 0)).heap.size = w.heap.size ∧ Calls Try.prog 46 #[.pointer (at0 p), .int .i64 0] ((w.setCell ⟨p, 0, none⟩ (.int .i8 0)).setCell ⟨n, 0, none⟩ (.int .i8 0)) (RotP p n (fun w' => Nd w' p 0 A B k v ∧ Nd w' n 0 (at0 p) C kn vn) ((w.setCell ⟨p, 0, none⟩ (.int .i8 0)).setCell ⟨n, 0, none⟩ (.int .i8 0)))) := Lib.hid ⟨only2 (only2 (Only.refl _ w) (.inl rfl)) (.inr rfl), (set_size _ _ _).trans (set_size _ _ _), rot0 ((h.setb _).off hne) ((g.off (fun e => hne e.symm)).setb _) hne⟩
  clear h g
  go_enter Try.func41, Try.ntmps41
  go_wp2_with (first | (go_at_call 47; refine (O _).mono ?_; rintro e w' ⟨rfl, rfl⟩) | (go_at_call 46; refine HF.out.2.2.mono ?_; rintro e w3 ⟨rfl, hN3, hO3, hz3⟩; have HE := Lib.hid (And.intro hN3 (And.intro (HF.out.1.trans hO3 (fun _ _ e => e)) (hz3.trans HF.out.2.1))); clear hN3 hO3 hz3) | fail)
  go_ret
  exact ⟨rfl, HE.out.1, HE.out.2.1, HE.out.2.2⟩
set_option maxRecDepth 100000 in
theorem insD1 {w : World} {p n m : Nat} {b bm k v kn vn km vm : Int} {A B1 B2 C : Option Addr} (h : Nd w p b A (at0 n) k v) (g : Nd w n (-1) (at0 m) C kn vn) (f : Nd w m bm B1 B2 km vm) (h1 : p ≠ n) (h2 : p ≠ m) (h3 : n ≠ m) (hb : -1 ≤ bm ∧ bm ≤ 1) : Calls Try.prog 41 #[.pointer (at0 p), .int .i64 1] w (DrP p n m (fun w' => Nd w' p (up2 bm) A B1 k v ∧ Nd w' n (lo2 bm) B2 C kn vn ∧ Nd w' m 0 (at0 p) (at0 n) km vm) w) := by
  have O := opp1
  have c1 := h.rc
  have d0 := g.bal
  have l1 := h.lt
  have l2 := g.lt
  have HA := Lib.hid (adj1 h g f h1 h2 h3 hb)
  have HD : Hid (∀ w2, (Nd w2 p (up2 bm) A (at0 n) k v ∧ Nd w2 n (lo2 bm) (at0 m) C kn vn ∧ Nd w2 m 0 B1 B2 km vm) → Calls Try.prog 49 #[.pointer (at0 p), .int .i64 0] w2 (DrP p n m (fun w' => Nd w' p (up2 bm) A B1 k v ∧ Nd w' n (lo2 bm) B2 C kn vn ∧ Nd w' m 0 (at0 p) (at0 n) km vm) w2)) := Lib.hid (fun w2 hx => drot0 hx.1 hx.2.1 hx.2.2 h1 h2 h3)
  clear h g f hb h1 h2 h3
  go_enter Try.func41, Try.ntmps41
  go_wp2_with (first | (go_at_call 47; refine (O _).mono ?_; rintro e w' ⟨rfl, rfl⟩) | (go_at_call 48; refine HA.out.mono ?_; rintro e w2 ⟨rfl, hN2, hO2, hz2⟩; have HD2 := Lib.hid (HD.out w2 hN2); have HO2 := Lib.hid (And.intro hO2 hz2); clear hN2 hO2 hz2) | (go_at_call 49; refine HD2.out.mono ?_; rintro e w3 ⟨rfl, hN3, hO3, hz3⟩; have HE := Lib.hid (And.intro hN3 (And.intro (HO2.out.1.trans hO3 (fun _ _ e => e)) (hz3.trans HO2.out.2))); clear hN3 hO3 hz3) | fail)
  go_ret
  exact ⟨rfl, HE.out.1, HE.out.2.1, HE.out.2.2⟩
end Go.Proofs.Ytdamanckgmkbiaa.av
