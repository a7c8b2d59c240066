/- The tokenizer of a slice of bytes; the parser of a policy's text. -/
import Derived.Test.YtbepocojafbbbaaGreatDoorTq
import Derived.Test.YtbepocojafbbbaaGreatDoorPg
namespace Go.Proofs.YtbepocojafbbbaaGreatDoor
open Go.RowKit
set_option maxRecDepth 100000

theorem newBuffer_spec (w : World) (A : Option Addr) (n c : Nat) : Calls Tryz.prog 80 #[.slice A n c] w fun e' w' => e' = .returned (.pointer (some ⟨w.heap.size, 0, none⟩)) ∧ Ex No w w' ∧ Blk w' w.heap.size #[.slice A n c, .int .i64 0, .int .i8 0] 239 := by
  go_enter Tryz.func80, Tryz.ntmps80
  go_wp2
  go_ret
  exact ⟨rfl, (Ex.refl _ _).alloc _, Blk.new _ _ _⟩

/-- The text of which the tokens are read: a word first. -/
structure Txt (T : List UInt8) (m : Nat) (rest : List (Int × ByteArray)) : Prop where
  four : 4 ≤ T.length
  short : T.length ≤ 1000
  ascii : Ascii T
  h0 : whiteB (chr T 0) = false
  h1 : 0 < m
  h2 : m < T.length
  h3 : identB (chr T 0) true = true
  h4 : ∀ j, 0 < j → j < m → identB (chr T j) false = true
  h5 : identB (chr T m) false = false
  lex : Lex T m rest
def ToksN (w : World) (L : List (Int × ByteArray)) (e' : Ending) (w' : World) : Prop :=
  ∃ (ts : List TokC) (g cap : Nat), e' = .returned (.tuple #[.slice (some ⟨g, 0, none⟩) ts.length cap, .nilIface]) ∧ tks ts = L ++ [(0, ⟨#[]⟩)] ∧
    w'.ownsRow w.heap.size 154 6 (.slice (some ⟨g, 0, none⟩) ts.length cap) ts.length (rows6 ts) ∧ Ex No w w'

theorem tokenize_spec (w : World) (tb c : Nat) (ad : Addr) (T : List UInt8) (m : Nat) (rest : List (Int × ByteArray)) (hT : Txt T m rest)
    (ht : ∀ i, i < T.length → w.cell? ⟨tb, i, none⟩ = some (.int .u8 (T.getD i 0).toNat)) (hG : w.cell? ⟨0, 0, none⟩ = some (.iface 341 (.pointer (some ad)))) :
    Calls Tryz.prog 52 #[.slice (some ⟨tb, 0, none⟩) T.length c] w (ToksN w ((if reserved (cut T 0 m) then 3 else 1, cut T 0 m) :: rest)) := by
  have hw0 := some_lt hG
  have hwt := some_lt (ht 0 (by have := hT.four; omega))
  simp at hwt hw0
  have HT := Lib.hid ht
  have HG := Lib.hid hG
  obtain ⟨L, hL⟩ : ∃ L, L = ((if reserved (cut T 0 m) then 3 else 1 : Int), cut T 0 m) :: rest := ⟨_, rfl⟩
  rw [← hL]
  have HL := Lib.hid hL
  clear ht hG hL
  go_enter Tryz.func52, Tryz.ntmps52
  go_wp2_with fail
  refine (newBuffer_spec _ _ _ _).mono ?_
  rintro e' w1 ⟨rfl, hx1, hB1⟩
  go_wp2_with fail
  have h := reader_spec w1 w.heap.size tb c ad T m rest hB1 (by omega) (fun i hi => hx1.got (HT.out i hi) no_) (hx1.got HG.out no_) (by omega) hT.four hT.short hT.ascii hT.h0 hT.h1 hT.h2 hT.h3 hT.h4 hT.h5 hT.lex
  rw [← HL.out] at h
  refine h.mono ?_
  rintro e' w2 ⟨ts, g, cap, rfl, h1, h2, hx2⟩
  clear h
  have hx12 : Ex No w w2 := hx1.trans' hx2 (fun i hi h => by unfold On at h; omega)
  have hs := hx1.size
  have HH := Lib.hid (And.intro h1 (And.intro h2 hx12))
  clear h1 h2 hx2 hx12 hx1 hB1
  go_wp2
  go_ret2
  refine ⟨ts, g, cap, rfl, HH.out.1, ?_, HH.out.2.2⟩
  obtain ⟨hl, hr⟩ := HH.out.2.1
  refine ⟨hl, ?_⟩
  rcases hr with hr | ⟨g, cap, cur, hv, hb, k⟩
  · exact Or.inl hr
  · exact Or.inr ⟨g, cap, cur, hv, by omega, k⟩

theorem newParser_spec (w : World) (A : Option Addr) (n c : Nat) : Calls Tryz.prog 53 #[.slice A n c] w fun e' w' => e' = .returned (.agg #[.slice A n c, .int .i64 0]) ∧ Ex No w w' := by
  go_enter Tryz.func53, Tryz.ntmps53
  go_wp2
  refine bodyPost_ret (v := .agg #[.slice A n c, .int .i64 0]) (by simp [results, Tryz.results53, go_sem]) rfl ⟨rfl, ?_⟩
  repeat (with_reducible first | exact Ex.refl _ _ | refine Ex.alloc ?_ _)
end Go.Proofs.YtbepocojafbbbaaGreatDoor
