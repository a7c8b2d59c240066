/- The parser of a policy's text. -/
import Derived.Test.YtbepocojafbbbaaGreatDoorTr
import Derived.Test.YtbepocojafbbbaaGreatDoorXc
namespace Go.Proofs.YtbepocojafbbbaaGreatDoor
open Go.RowKit
set_option maxRecDepth 100000

theorem rows6_at (ts : List TokC) (j i : Nat) (hj : j < ts.length) (hi : i < 6) : (rows6 ts)[j * 6 + i]? = (ts.getD j default).cells[i]? := by
  induction ts generalizing j with
  | nil => simp at hj
  | cons t l ih =>
    have e : rows6 (t :: l) = t.cells.toList ++ rows6 l := rfl
    rw [e]
    cases j with
    | zero =>
      rw [List.getElem?_append_left (by simp [TokC.cells]; omega)]
      simp
    | succ j =>
      rw [List.getElem?_append_right (by simp [TokC.cells]; omega)]
      have : (j + 1) * 6 + i - t.cells.toList.length = j * 6 + i := by simp [TokC.cells]; omega
      rw [this, ih j (by simpa using hj)]
      simp
theorem pst_start {w : World} {base g cap b : Nat} {ts : List TokC} (hB : Blk w b #[.slice (some ⟨g, 0, none⟩) ts.length cap, .int .i64 0] 139) (hO : w.ownsRow base 154 6 (.slice (some ⟨g, 0, none⟩) ts.length cap) ts.length (rows6 ts)) (hne : g ≠ b)
    (h0 : 0 < ts.length) (hl : ts.length ≤ 100000000000) : PSt ⟨b, g, cap, ts⟩ 0 w := by
  have hc := own_cells hO
  refine ⟨hB.lt, ?_, hne, hB.cell 0, hB.cell 1, hB.free 1, h0, hl, fun j hj => ?_⟩
  · have := hc 0 (by omega)
    rw [show (rows6 ts)[0]? = (ts.getD 0 default).cells[0]? from rows6_at ts 0 0 h0 (by omega)] at this
    exact some_lt (a := ⟨g, 0, none⟩) (v := .int .i64 (ts.getD 0 default).ty) (by simpa [TokC.cells] using this)
  · have hj' : j < ts.length := hj
    have k : ∀ i, i < 6 → w.cell? ⟨g, j * 6 + i, none⟩ = (ts.getD j default).cells[i]? := fun i hi => (hc (j * 6 + i) (by omega)).trans (rows6_at ts j i hj' hi)
    exact ⟨k 0 (by omega), k 1 (by omega), k 2 (by omega), k 3 (by omega), k 4 (by omega), k 5 (by omega)⟩

/-- The parser reads this expression as the condition of the policy. -/
def Parses (L : List (Int × ByteArray)) (t : TypeId) (x : Value) : Prop := ∀ X : PX, tks X.toks = L ++ [(0, ⟨#[]⟩)] → ∃ k', Head X 0 k' ∧ OKx 157 X (k10 X 0) t x k'

/-- What 'UnmarshalCedar' answers. -/
def UnmAns (w : World) (p : Nat) (t : TypeId) (x : Value) (e' : Ending) (w' : World) : Prop :=
  e' = .returned .nilIface ∧ ∃ g cap fn o l c, Blk w' p (polCells true (.slice none 0 0) allV allV allV (.slice (some ⟨g, 0, none⟩) 1 cap) fn o l c) 86 ∧
    w.heap.size ≤ g ∧ w'.cell? ⟨g, 0, none⟩ = some (.bool true) ∧ w'.cell? ⟨g, 1, none⟩ = some (.iface t x) ∧ Ex (On p) w w'

theorem unmarshal_spec (w : World) (p tb c : Nat) (ad : Addr) (T : List UInt8) (m : Nat) (rest : List (Int × ByteArray)) (hT : Txt T m rest) (t : TypeId) (x : Value) (c0 c1 c2 c3 c4 c5 c6 c7 c8 c9 : Value)
    (hq : Blk w p #[c0, c1, c2, c3, c4, c5, c6, c7, c8, c9] 86) (hlen : rest.length ≤ 1000)
    (ht : ∀ i, i < T.length → w.cell? ⟨tb, i, none⟩ = some (.int .u8 (T.getD i 0).toNat)) (hG : w.cell? ⟨0, 0, none⟩ = some (.iface 341 (.pointer (some ad))))
    (hP : Parses ((if reserved (cut T 0 m) then 3 else 1, cut T 0 m) :: rest) t x) :
    Calls Tryz.prog 38 #[.pointer (some ⟨p, 0, none⟩), .slice (some ⟨tb, 0, none⟩) T.length c] w (UnmAns w p t x) := by
  have HT := Lib.hid ht
  have HG := Lib.hid hG
  have HQ := Lib.hid hq
  have HP := Lib.hid hP
  have e0 := neq_nil88
  have lq := hq.lt
  clear ht hG hq hP
  go_enter Tryz.func38, Tryz.ntmps38
  go_wp2_with fail
  refine (tokenize_spec w tb c ad T m rest hT HT.out HG.out).mono ?_
  rintro e' w1 ⟨ts, g, cap, rfl, htk, hO, hx1⟩
  have hl : ts.length = rest.length + 2 := by
    have := congrArg List.length htk
    simpa [tks] using this
  have s1 := hx1.size
  have hgb : w.heap.size ≤ g := by
    rcases hO.2 with ⟨h, _⟩ | ⟨g', c', cur, hv, hb, _⟩
    · cases h
    · injection hv with h1 h2 h3; injection h1 with h1; injection h1 with h1 h4; omega
  have hgl : g < w1.heap.size := by
    have := own_cells hO 0 (by omega)
    rw [show (rows6 ts)[0]? = (ts.getD 0 default).cells[0]? from rows6_at ts 0 0 (by omega) (by omega)] at this
    exact some_lt (a := ⟨g, 0, none⟩) (v := .int .i64 (ts.getD 0 default).ty) (by simpa [TokC.cells] using this)
  have HH := Lib.hid (And.intro htk (And.intro hO (And.intro hx1 hl)))
  clear htk hO hx1 hl
  go_wp2_with fail
  refine (newParser_spec _ _ _ _).mono ?_
  rintro e' w2 ⟨rfl, hx2⟩
  go_wp2_with fail
  have s2 := hx2.size
  have hx12 : Ex No w1 (w2.alloc (.cells #[.slice (some ⟨g, 0, none⟩) ts.length cap, .int .i64 0] 139)) := hx2.alloc _
  have hst : PSt ⟨w2.heap.size, g, cap, ts⟩ 0 (w2.alloc (.cells #[.slice (some ⟨g, 0, none⟩) ts.length cap, .int .i64 0] 139)) :=
    pst_start (Blk.new w2 _ 139) (own_ex HH.out.2.1 hx12 (fun _ _ => no_)) (by omega) (by have := HH.out.2.2.2; omega) (by have := HH.out.2.2.2; omega)
  obtain ⟨k', hh, hok⟩ := HP.out ⟨w2.heap.size, g, cap, ts⟩ HH.out.1
  have hq2 := HQ.out.ex (HH.out.2.2.1.trans hx12) no_
  refine (fromCedar_ok ⟨w2.heap.size, g, cap, ts⟩ 0 k' t x _ p c0 c1 c2 c3 c4 c5 c6 c7 c8 c9 hst hq2 (by show p ≠ w2.heap.size; omega) hh hok).mono ?_
  rintro e' w3 ⟨rfl, g3, cap3, fn, o, l, c', hB3, hO3, hx3⟩
  have hx03 : Ex (On p) w w3 := ((HH.out.2.2.1.trans hx12).of_no (S := On p)).trans' hx3 (fun i hi h => by rcases h with h | h; exact h; exact absurd h (by show i ≠ w2.heap.size; omega))
  have r0 := own_cells hO3 0 (by omega)
  have r1 := own_cells hO3 1 (by omega)
  have hg3 : w.heap.size ≤ g3 := by
    rcases hO3.2 with ⟨h, _⟩ | ⟨g', c', cur, hv, hb, _⟩
    · cases h
    · injection hv with h1 h2 h3; injection h1 with h1; injection h1 with h1 h4
      simp at hb; omega
  have HF := Lib.hid (And.intro hB3 (And.intro hg3 (And.intro r0 (And.intro r1 hx03))))
  clear hB3 hg3 r0 r1 hx03 hO3 hx3 hq2 hok hh hst hx12 hx2
  go_wp2
  go_ret
  exact ⟨rfl, g3, cap3, fn, o, l, c', HF.out.1, HF.out.2.1, HF.out.2.2.1, HF.out.2.2.2.1, HF.out.2.2.2.2⟩
end Go.Proofs.YtbepocojafbbbaaGreatDoor
