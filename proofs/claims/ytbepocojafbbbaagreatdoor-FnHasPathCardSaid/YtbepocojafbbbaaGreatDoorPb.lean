/- The parser's small functions: errors, exact, skip. -/
import Derived.Test.YtbepocojafbbbaaGreatDoorPa
namespace Go.Proofs.YtbepocojafbbbaaGreatDoor
open Go.RowKit
set_option maxRecDepth 100000

theorem errorf_spec (X : PX) (k : Nat) (w : World) (s : ByteArray) (a : Option Addr) (n c : Nat) (h : PSt X k w) :
    Calls Tryz.prog 104 #[.pointer (some ⟨X.b, 0, none⟩), .string s, .slice a n c] w fun e w' => (∃ v, e = .returned (.iface 341 v)) ∧ Ex No w w' := by
  obtain ⟨hb, htb, hne, h0, h1, _, hk, hbig, hat⟩ := h
  obtain ⟨t0, t1, t2, t3, t4, t5⟩ := hat k hk
  generalize X.tok k = t at *
  obtain ⟨b, tb, cap, toks⟩ := X
  dsimp only [PX.n] at *
  clear hat
  go_enter Tryz.func104, Tryz.ntmps104
  go_wp2
  go_region
  go_wp2
  go_region
  go_wp2_with fail
  refine (errNew_spec _ _).mono ?_
  rintro e w1 ⟨⟨v, rfl⟩, hx⟩
  go_wp2
  go_ret
  refine ⟨⟨_, rfl⟩, ?_⟩
  refine Ex.no ?_ hx
  repeat (with_reducible first | exact Ex.refl _ _ | refine Ex.drew ?_ | refine Ex.alloc ?_ _)

theorem exact_ok (X : PX) (k : Nat) (w : World) (s : ByteArray) (h : PSt X k w) (hs : (X.tok k).tx.toList = s.toList) :
    Calls Tryz.prog 83 #[.pointer (some ⟨X.b, 0, none⟩), .string s] w fun e w' => e = .returned .nilIface ∧ PSt X (X.nx k) w' ∧ Ex (On X.b) w w' := by
  go_enter Tryz.func83, Tryz.ntmps83
  go_wp2_with fail
  refine (advance_spec X k _ h).mono ?_
  rintro e w1 ⟨rfl, h1, hx⟩
  rcases ht : X.tok k with ⟨ty, fn, o, l, c, tx⟩
  simp only [TokC.val]
  have e1 : (tx.toList == s.toList) = true := by rw [ht] at hs; simpa using hs
  clear ht hs
  go_wp2
  go_ret
  exact ⟨rfl, h1.ex ((Ex.refl _ _).alloc _), hx.alloc _⟩

theorem exact_no (X : PX) (k : Nat) (w : World) (s : ByteArray) (h : PSt X k w) (hs : (X.tok k).tx.toList ≠ s.toList) :
    Calls Tryz.prog 83 #[.pointer (some ⟨X.b, 0, none⟩), .string s] w fun e w' => (∃ v, e = .returned (.iface 341 v)) ∧ Ex (On X.b) w w' := by
  go_enter Tryz.func83, Tryz.ntmps83
  go_wp2_with fail
  refine (advance_spec X k _ h).mono ?_
  rintro e w1 ⟨rfl, h1, hx⟩
  rcases ht : X.tok k with ⟨ty, fn, o, l, c, tx⟩
  simp only [TokC.val]
  have e1 : (tx.toList == s.toList) = false := by rw [ht] at hs; simpa using hs
  clear ht hs
  go_wp2_with fail
  refine (errorf_spec X (X.nx k) _ _ _ _ _ (h1.ex (((Ex.refl _ _).alloc _).alloc _))).mono ?_
  rintro e w2 ⟨⟨v, rfl⟩, hx2⟩
  go_wp2
  go_ret
  exact ⟨⟨_, rfl⟩, ((hx.alloc _).alloc _).no hx2⟩

theorem skip_yes (X : PX) (k : Nat) (w : World) (s : ByteArray) (h : PSt X k w) (hs : (X.tok k).tx.toList = s.toList) :
    Calls Tryz.prog 87 #[.pointer (some ⟨X.b, 0, none⟩), .string s] w fun e w' => e = .returned (.tuple #[]) ∧ PSt X (X.nx k) w' ∧ Ex (On X.b) w w' := by
  go_enter Tryz.func87, Tryz.ntmps87
  go_wp2_with fail
  refine (peek_spec X k _ h).mono ?_
  rintro e w1 ⟨rfl, hx⟩
  rcases ht : X.tok k with ⟨ty, fn, o, l, c, tx⟩
  simp only [TokC.val]
  have e1 : (tx.toList == s.toList) = true := by rw [ht] at hs; simpa using hs
  clear ht hs
  go_wp2_with fail
  refine (advance_spec X k _ ((h.ex hx).ex ((Ex.refl _ _).alloc _))).mono ?_
  rintro e w2 ⟨rfl, h2, hx2⟩
  go_wp2
  go_end0
  exact ⟨rfl, h2, (hx.of_no.alloc _).trans hx2⟩

theorem skip_no (X : PX) (k : Nat) (w : World) (s : ByteArray) (h : PSt X k w) (hs : (X.tok k).tx.toList ≠ s.toList) :
    Calls Tryz.prog 87 #[.pointer (some ⟨X.b, 0, none⟩), .string s] w fun e w' => e = .returned (.tuple #[]) ∧ Ex No w w' := by
  go_enter Tryz.func87, Tryz.ntmps87
  go_wp2_with fail
  refine (peek_spec X k _ h).mono ?_
  rintro e w1 ⟨rfl, hx⟩
  rcases ht : X.tok k with ⟨ty, fn, o, l, c, tx⟩
  simp only [TokC.val]
  have e1 : (tx.toList == s.toList) = false := by rw [ht] at hs; simpa using hs
  clear ht hs
  go_wp2
  go_end0
  exact ⟨rfl, hx.alloc _⟩
end Go.Proofs.YtbepocojafbbbaaGreatDoor
