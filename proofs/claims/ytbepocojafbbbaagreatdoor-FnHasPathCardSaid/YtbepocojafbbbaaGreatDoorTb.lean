/- The scanner: tests on signs, an identifier, a token's text. -/
import Derived.Test.YtbepocojafbbbaaGreatDoorTa
namespace Go.Proofs.YtbepocojafbbbaaGreatDoor
open Go.RowKit
set_option maxRecDepth 100000

def letterB (x : Int) : Bool := (decide (65 ≤ x) && decide (x ≤ 90)) || (decide (97 ≤ x) && decide (x ≤ 122))
def digitB (x : Int) : Bool := decide (48 ≤ x) && decide (x ≤ 57)
def identB (x : Int) (f : Bool) : Bool := (x == 95 || letterB x) || (digitB x && !f)
def whiteB (x : Int) : Bool := x == 9 || x == 10 || x == 13 || x == 32

theorem white_spec (w : World) (x : Int) : Calls Tryz.prog 123 #[.int .i32 x] w fun e' w' => e' = .returned (.bool (whiteB x)) ∧ w' = w := by
  go_enter Tryz.func123, Tryz.ntmps123
  go_wp2
  all_goals (go_ret; exact ⟨by simp_all [whiteB], rfl⟩)
theorem letter_spec (w : World) (x : Int) : Calls Tryz.prog 162 #[.int .i32 x] w fun e' w' => e' = .returned (.bool (letterB x)) ∧ w' = w := by
  go_enter Tryz.func162, Tryz.ntmps162
  go_wp2
  all_goals (go_ret; exact ⟨by first | (simp_all [letterB]; done) | (simp_all [letterB]; omega), rfl⟩)
theorem digit_spec (w : World) (x : Int) : Calls Tryz.prog 163 #[.int .i32 x] w fun e' w' => e' = .returned (.bool (digitB x)) ∧ w' = w := by
  go_enter Tryz.func163, Tryz.ntmps163
  go_wp2
  all_goals (go_ret; exact ⟨by first | (simp_all [digitB]; done) | (simp_all [digitB]; omega), rfl⟩)
theorem decimal_spec (w : World) (x : Int) : Calls Tryz.prog 127 #[.int .i32 x] w fun e' w' => e' = .returned (.bool (digitB x)) ∧ w' = w := by
  go_enter Tryz.func127, Tryz.ntmps127
  go_wp2
  all_goals (go_ret; exact ⟨by first | (simp_all [digitB]; done) | (simp_all [digitB]; omega), rfl⟩)
theorem identRune_spec (w : World) (x : Int) (f : Bool) : Calls Tryz.prog 125 #[.int .i32 x, .bool f] w fun e' w' => e' = .returned (.bool (identB x f)) ∧ w' = w := by
  go_enter Tryz.func125, Tryz.ntmps125
  go_wp2_with (first
    | (go_at_call 162; refine (letter_spec _ _).mono ?_; rintro e' w' ⟨rfl, rfl⟩)
    | (go_at_call 163; refine (digit_spec _ _).mono ?_; rintro e' w' ⟨rfl, rfl⟩))
  all_goals (go_ret; exact ⟨by simp_all [identB], rfl⟩)
/-- The scanner stands at p, and only its block has turned. -/
def Stands (w w' : World) (b : Nat) (cs : Array Value) (T : List UInt8) (p : Nat) (lc tp : Int) : Prop :=
  Ex (On b) w w' ∧ ∃ cs', Blk w' b cs' 241 ∧ Sc cs' T p lc tp ∧ cs'[1038]? = cs[1038]? ∧ cs'[0]? = cs[0]?
def chr (T : List UInt8) (i : Nat) : Nat := (T.getD i 0).toNat
def Ascii (T : List UInt8) : Prop := ∀ i, i < T.length → chr T i ≠ 0 ∧ chr T i < 128

theorem next_at (w : World) (b : Nat) (cs : Array Value) (T : List UInt8) (p : Nat) (lc tp : Int) (hB : Blk w b cs 241) (hS : Sc cs T p lc tp) (hp : p < T.length) (hA : Ascii T) :
    Calls Tryz.prog 122 #[.pointer (some ⟨b, 0, none⟩)] w fun e' w' => e' = .returned (.int .i32 (chr T p)) ∧ Stands w w' b cs T (p + 1) 1 tp := by
  refine (next_in w b cs T p lc tp hB hS hp (chr T p) rfl (hA p hp).1 (hA p hp).2).mono ?_
  rintro e' w' ⟨rfl, h⟩
  exact ⟨rfl, h⟩

theorem Stands.trans {w w' w'' : World} {b : Nat} {cs cs' : Array Value} {T : List UInt8} {p : Nat} {lc tp : Int} (k : Stands w' w'' b cs' T p lc tp) (h : Ex (On b) w w')
    (h1 : cs'[1038]? = cs[1038]?) (h2 : cs'[0]? = cs[0]?) : Stands w w'' b cs T p lc tp := by
  obtain ⟨hx, c, hb, hs, e1, e2⟩ := k
  exact ⟨h.trans hx, c, hb, hs, e1.trans h1, e2.trans h2⟩

theorem scanIdent_spec (w : World) (b : Nat) (cs : Array Value) (T : List UInt8) (p m : Nat) (lc tp : Int) (hB : Blk w b cs 241) (hS : Sc cs T p lc tp) (hA : Ascii T) (hpm : p ≤ m) (hm : m < T.length)
    (hi : ∀ i, p ≤ i → i < m → identB (chr T i) false = true) (he : identB (chr T m) false = false) :
    Calls Tryz.prog 126 #[.pointer (some ⟨b, 0, none⟩)] w fun e' w' => e' = .returned (.int .i32 (chr T m)) ∧ Stands w w' b cs T (m + 1) 1 tp := by
  have HI := Lib.hid hi
  have HE := Lib.hid he
  clear hi he
  go_enter Tryz.func126, Tryz.ntmps126
  go_wp2_with fail
  refine (next_at w b cs T p lc tp hB hS (by omega) hA).mono ?_
  rintro e' w1 ⟨rfl, h1⟩
  go_wp2_with fail
  go_loopw [3] (fun v wr => ∃ i, p ≤ i ∧ i ≤ m ∧ v = .int .i32 (chr T i) ∧ Stands w wr b cs T (i + 1) 1 tp)
    (fun _ wr => match wr.cell? ⟨b, 1026, none⟩ with | some v => m + 1 - (intOf v).toNat | none => 0)
  case atStart => exact ⟨p, Nat.le_refl _, hpm, rfl, h1⟩
  case round =>
    obtain ⟨i, hpi, him, rfl, hEx, cs1, hB1, hS1, e1, e2⟩ := hrel
    have HS1 := Lib.hid hS1
    have HB1 := Lib.hid hB1
    have HX := Lib.hid hEx
    clear hEx hB1 hS1
    by_cases hlt : i < m
    · have hid := HI.out i hpi hlt
      go_wp2_with (go_at_call 125; refine (identRune_spec _ _ _).mono ?_; rintro e' w' ⟨rfl, rfl⟩; rw [hid])
      refine (next_at _ b cs1 T (i + 1) 1 tp HB1.out HS1.out (by omega) hA).mono ?_
      rintro e' w2 ⟨rfl, h2⟩
      have HH := Lib.hid h2
      clear h2
      go_wp2
      go_roundw
      case rel => exact ⟨i + 1, by omega, by omega, rfl, HH.out.trans HX.out e1 e2⟩
      case measure =>
        obtain ⟨_, cs2, hB2, hS2, _⟩ := HH.out
        rw [(HB1.out.cell 1026).trans HS1.out.pos, (hB2.cell 1026).trans hS2.pos]
        simp only [intOf]
        omega
    · have : i = m := by omega
      subst this
      go_wp2_with (go_at_call 125; refine (identRune_spec _ _ _).mono ?_; rintro e' w' ⟨rfl, rfl⟩; rw [HE.out])
      go_ret
      exact ⟨rfl, HX.out, cs1, HB1.out, HS1.out, e1, e2⟩
end Go.Proofs.YtbepocojafbbbaaGreatDoor
