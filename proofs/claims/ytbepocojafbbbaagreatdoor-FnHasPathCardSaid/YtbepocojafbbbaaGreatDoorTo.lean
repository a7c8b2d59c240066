/- The scanner: one token behind the other. -/
import Derived.Test.YtbepocojafbbbaaGreatDoorTn
namespace Go.Proofs.YtbepocojafbbbaaGreatDoor
open Go.RowKit
set_option maxRecDepth 100000

/-- The tokens behind place q. -/
inductive Lex (T : List UInt8) : Nat → List (Int × ByteArray) → Prop
  | ident (q i m : Nat) (rest : List (Int × ByteArray)) (hqi : q ≤ i) (hw : ∀ j, q ≤ j → j < i → whiteB (chr T j) = true) (hi : whiteB (chr T i) = false)
      (h1 : i < m) (h2 : m < T.length) (h3 : identB (chr T i) true = true) (h4 : ∀ j, i < j → j < m → identB (chr T j) false = true) (h5 : identB (chr T m) false = false) (hr : Lex T m rest) :
      Lex T q ((if reserved (cut T i m) then 3 else 1, cut T i m) :: rest)
  | one (q i m : Nat) (rest : List (Int × ByteArray)) (hqi : q ≤ i) (hw : ∀ j, q ≤ j → j < i → whiteB (chr T j) = true) (hi : whiteB (chr T i) = false)
      (h1 : m = i + 1) (h2 : m < T.length) (h3 : chr T i = 40 ∨ chr T i = 41 ∨ chr T i = 44 ∨ chr T i = 123 ∨ chr T i = 125 ∨ chr T i = 46) (hr : Lex T m rest) : Lex T q ((5, cut T i m) :: rest)
  | two (q i m : Nat) (rest : List (Int × ByteArray)) (hqi : q ≤ i) (hw : ∀ j, q ≤ j → j < i → whiteB (chr T j) = true) (hi : whiteB (chr T i) = false)
      (h1 : m = i + 2) (h2 : m < T.length) (h3 : chr T i = 38) (h6 : chr T (i + 1) = 38) (hr : Lex T m rest) : Lex T q ((5, cut T i m) :: rest)
  | last (q i : Nat) (hqi : q ≤ i) (hw : ∀ j, q ≤ j → j < i → whiteB (chr T j) = true) (hi : whiteB (chr T i) = false) (hn : T.length = i + 1) (h3 : chr T i = 59) : Lex T q [(5, ⟨#[59]⟩)]

/-- The scanner stands behind a token; these follow. -/
inductive Ph (b bb : Nat) (T : List UInt8) (z : Value) (rb : Array Value) (w : World) : List (Int × ByteArray) → Prop
  | go (q : Nat) (rest : List (Int × ByteArray)) (h : At b T z q w) (hR : Blk w bb rb 239) (hL : Lex T q rest) : Ph b bb T z rb w rest
  | fin (cs : Array Value) (g : Nat) (hB : Blk w b cs 241) (hS : Sz cs g) (hch : cs[1038]? = some (.int .i32 (-1))) : Ph b bb T z rb w []
theorem At.keep {b q : Nat} {T : List UInt8} {z : Value} {w w' : World} {S : Nat → Prop} (h : At b T z q w) (hx : Ex S w w') (hn : ¬ S b) : At b T z q w' := by
  obtain ⟨cs, tp, h1, h2⟩ := h.cells
  exact ⟨cs, tp, h1.ex hx hn, h2⟩
theorem Ph.keep {b bb : Nat} {T : List UInt8} {z : Value} {rb : Array Value} {w w' : World} {l : List (Int × ByteArray)} {S : Nat → Prop} (h : Ph b bb T z rb w l) (hx : Ex S w w') (hn : ¬ S b) (hn2 : ¬ S bb) : Ph b bb T z rb w' l := by
  cases h with
  | go q rest h hR hL => exact .go q _ (h.keep hx hn) (hR.ex hx hn2) hL
  | fin cs g hB hS hch => exact .fin cs g (hB.ex hx hn) hS hch
def Fz (b : Nat) (w : World) : Prop := ∃ cs A c tp te, Blk w b cs 241 ∧ Sy cs A c tp te
theorem Fz.keep {b : Nat} {w w' : World} {S : Nat → Prop} (h : Fz b w) (hx : Ex S w w') (hn : ¬ S b) : Fz b w' := by
  obtain ⟨cs, A, c, tp, te, h1, h2⟩ := h
  exact ⟨cs, A, c, tp, te, h1.ex hx hn, h2⟩

def After (b bb : Nat) (T : List UInt8) (z : Value) (rb : Array Value) (w : World) (t : TokC) : List (Int × ByteArray) → Prop
  | [] => t.ty = 0 ∧ Fz b w
  | p :: r => t.ty = p.1 ∧ t.tx = p.2 ∧ Ph b bb T z rb w r
/-- What the next call of 'nextToken' answers. -/
def NextAns (w : World) (b bb : Nat) (T : List UInt8) (z : Value) (rb : Array Value) (l : List (Int × ByteArray)) (e' : Ending) (w' : World) : Prop :=
  ∃ t : TokC, e' = .returned t.val ∧ Ex (Tw b bb) w w' ∧ After b bb T z rb w' t l

theorem next_step (w : World) (b bb tb c : Nat) (ad : Addr) (T : List UInt8) (z : Value) (l : List (Int × ByteArray)) (hz : z = .iface 223 (.pointer (some ⟨bb, 0, none⟩))) (hA : Ascii T) (hne : b ≠ bb) (hb0 : b ≠ 0) (hbb : bb ≠ 0)
    (hG : w.cell? ⟨0, 0, none⟩ = some (.iface 341 (.pointer (some ad)))) (h : Ph b bb T z #[.slice (some ⟨tb, 0, none⟩) T.length c, .int .i64 T.length, .int .i8 (-1)] w l) :
    Calls Tryz.prog 90 #[.pointer (some ⟨b, 0, none⟩)] w (NextAns w b bb T z #[.slice (some ⟨tb, 0, none⟩) T.length c, .int .i64 T.length, .int .i8 (-1)] l) := by
  have fin : ∀ (m : Nat) (ty : Int) (tx : ByteArray) (rest : List (Int × ByteArray)) (hR : Blk w bb #[.slice (some ⟨tb, 0, none⟩) T.length c, .int .i64 T.length, .int .i8 (-1)] 239) (hr : Lex T m rest) (e' : Ending) (w' : World),
      TokIn w b T z m ty tx e' w' → NextAns w b bb T z #[.slice (some ⟨tb, 0, none⟩) T.length c, .int .i64 T.length, .int .i8 (-1)] ((ty, tx) :: rest) e' w' := by
    rintro m ty tx rest hR hr e' w' ⟨t, rfl, h1, h2, hx, hat⟩
    exact ⟨t, rfl, hx.mono (fun k h => Or.inl h), h1, h2, .go m _ hat (hR.ex hx (fun h => hne h.symm)) hr⟩
  cases h with
  | fin cs g hB hS hch =>
    refine (tok_eof w b g cs hB hS hch).mono ?_
    rintro e' w' ⟨t, rfl, h1, hx, h2⟩
    exact ⟨t, rfl, hx.mono (fun k h => Or.inl h), h1, h2⟩
  | go q _ hat hR hL =>
    cases hL with
    | ident _ i m rest hqi hw hi h1 h2 h3 h4 h5 hr => exact (tok_ident w b T z q i m hat hA hqi hw hi h1 h2 h3 h4 h5 _ rfl).mono (fun e' w' h => fin m _ _ rest hR hr e' w' h)
    | one _ i m rest hqi hw hi h1 h2 h3 hr => exact (tok_one w b T z q i m hat hA hqi hw hi h1 h2 h3 _ rfl).mono (fun e' w' h => fin m _ _ rest hR hr e' w' h)
    | two _ i m rest hqi hw hi h1 h2 h3 h6 hr => exact (tok_two w b T z q i m hat hA hqi hw hi h1 h2 h3 h6 _ rfl).mono (fun e' w' h => fin m _ _ rest hR hr e' w' h)
    | last _ i hqi hw hi hn h3 =>
      refine (tok_last w b T z q i hat hA hqi hw hi T.length bb tb c ad rfl hn h3 hz hR hG hne hb0 hbb _ rfl).mono ?_
      rintro e' w' ⟨t, rfl, h1, h2, hx, cs', g, hB, hS, hch⟩
      exact ⟨t, rfl, hx, h1, h2, .fin cs' g hB hS hch⟩
end Go.Proofs.YtbepocojafbbbaaGreatDoor
