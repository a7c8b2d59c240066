/- The parser's small functions. -/
import Derived.Test.YtbepocojafbbbaaGreatDoorBase
namespace Go.Proofs.YtbepocojafbbbaaGreatDoor
open Go.RowKit
set_option maxRecDepth 100000

theorem field_text (ty o l c : Int) (fn tx : ByteArray) (w : World) :
    Sem.run Tryz.prog (Instr.field 154 (.agg #[.int .i64 ty, .string fn, .int .i64 o, .int .i64 l, .int .i64 c, .string tx]) 2) w = .ok (.string tx) w := by kernel_rfl
theorem field_pos (ty o l c : Int) (fn tx : ByteArray) (w : World) :
    Sem.run Tryz.prog (Instr.field 154 (.agg #[.int .i64 ty, .string fn, .int .i64 o, .int .i64 l, .int .i64 c, .string tx]) 1) w = .ok (.agg #[.string fn, .int .i64 o, .int .i64 l, .int .i64 c]) w := by kernel_rfl

theorem peek_spec (X : PX) (k : Nat) (w : World) (h : PSt X k w) :
    Calls Tryz.prog 58 #[.pointer (some ⟨X.b, 0, none⟩)] w fun e w' => e = .returned (X.tok k).val ∧ Ex No w w' := by
  obtain ⟨hb, htb, hne, h0, h1, _, hk, hbig, hat⟩ := h
  obtain ⟨t0, t1, t2, t3, t4, t5⟩ := hat k hk
  generalize X.tok k = t at *
  obtain ⟨b, tb, cap, toks⟩ := X
  dsimp only [PX.n] at *
  clear hat
  go_enter Tryz.func58, Tryz.ntmps58
  go_wp2
  go_region
  go_wp2
  refine bodyPost_ret (v := t.val) (by simp [results, Tryz.results58, go_sem, TokC.val]) rfl ⟨rfl, ?_⟩
  exact ((Ex.refl _ _).alloc _).drew

theorem errNew_spec (s : ByteArray) (w : World) :
    Calls Tryz.prog 149 #[.string s] w fun e w' => (∃ v, e = .returned (.iface 341 v)) ∧ Ex No w w' := by
  go_enter Tryz.func149, Tryz.ntmps149
  go_wp2
  go_ret
  exact ⟨⟨_, rfl⟩, (Ex.refl _ _).alloc _⟩

theorem advance_spec (X : PX) (k : Nat) (w : World) (h : PSt X k w) :
    Calls Tryz.prog 100 #[.pointer (some ⟨X.b, 0, none⟩)] w fun e w' => e = .returned (X.tok k).val ∧ PSt X (X.nx k) w' ∧ Ex (On X.b) w w' := by
  have hk := h.lt
  have hnx : X.nx k = if (k : Int) < (X.n : Int) - 1 then k + 1 else k := by unfold PX.nx; split <;> split <;> omega
  have HNX := Lib.hid hnx
  have hb' := h.hb
  have hbig := h.big
  have hne : X.b ≠ w.heap.size := by omega
  clear hnx
  go_enter Tryz.func100, Tryz.ntmps100
  go_wp2_with fail
  refine (peek_spec X k _ (h.ex ((Ex.refl _ _).alloc _))).mono ?_
  rintro e w1 ⟨rfl, hx⟩
  have h1 := (h.ex ((Ex.refl _ _).alloc _)).ex hx
  have hs := hx.size
  have hw := ((Ex.refl No w).alloc _).trans hx
  have c0 : ∀ i, w1.cell? ⟨w.heap.size, i, none⟩ = _ := fun i => hx.cell (p := ⟨w.heap.size, i, none⟩) (by simp) (fun h => h)
  have f0 : ∀ i, w1.frozen? ⟨w.heap.size, i, none⟩ = _ := fun i => hx.frozen (p := ⟨w.heap.size, i, none⟩) (by simp) (fun h => h)
  simp at c0 f0 hs
  have q0 := h1.toks
  have q1 := h1.pos
  have q2 := h1.free
  have hb := h1.hb
  have hlt : w.heap.size < w1.heap.size := by omega
  rcases ht : X.tok k with ⟨ty, fn, o, l, c, tx⟩
  have HT := Lib.hid ht
  clear ht
  simp only [TokC.val]
  have HW := Lib.hid hw
  clear hw hx
  go_wp2_with fail
  go_region
  go_wp2
  · refine bodyPost_ret (v := (X.tok k).val) (by rw [HT.out]; simp [results, Tryz.results100, go_sem, TokC.val, c0, hlt]) rfl ⟨rfl, ?_, ?_⟩
    · rw [HNX.out, if_pos (by assumption)]
      refine (h1.set (k' := k + 1) (by omega) (.int .i64 (↑k + 1)) (by simp)).from (B := w.heap.size) ?_ h.hb h.htb
      repeat (with_reducible first | exact Ex.refl _ _ | refine Ex.drew ?_ | refine Ex.alloc ?_ _ | refine Ex.setCell ?_ _ _ (Or.inl (Nat.le_refl _)))
    · repeat (with_reducible first | exact HW.out.of_no | refine Ex.drew ?_ | refine Ex.alloc ?_ _ | refine Ex.setCell ?_ _ _ (Or.inr (Nat.le_refl _)) | refine Ex.setCell ?_ _ _ (Or.inl (On.self _)))
  · refine bodyPost_ret (v := (X.tok k).val) (by rw [HT.out]; simp [results, Tryz.results100, go_sem, TokC.val, c0, hlt]) rfl ⟨rfl, ?_, ?_⟩
    · rw [HNX.out, if_neg (by omega)]
      refine h1.from (B := w.heap.size) ?_ h.hb h.htb
      repeat (with_reducible first | exact Ex.refl _ _ | refine Ex.drew ?_ | refine Ex.alloc ?_ _ | refine Ex.setCell ?_ _ _ (Or.inl (Nat.le_refl _)))
    · repeat (with_reducible first | exact HW.out.of_no | refine Ex.drew ?_ | refine Ex.alloc ?_ _ | refine Ex.setCell ?_ _ _ (Or.inr (Nat.le_refl _)) | refine Ex.setCell ?_ _ _ (Or.inl (On.self _)))

theorem isEOF_spec (t : TokC) (w : World) : Calls Tryz.prog 59 #[t.val] w fun e w' => e = .returned (.bool (t.ty == 0)) ∧ Ex No w w' := by
  obtain ⟨ty, fn, o, l, c, tx⟩ := t
  simp only [TokC.val]
  go_enter Tryz.func59, Tryz.ntmps59
  go_wp2
  go_ret
  exact ⟨rfl, (Ex.refl _ _).alloc _⟩
theorem isIdent_spec (t : TokC) (w : World) : Calls Tryz.prog 141 #[t.val] w fun e w' => e = .returned (.bool (t.ty == 1)) ∧ Ex No w w' := by
  obtain ⟨ty, fn, o, l, c, tx⟩ := t
  simp only [TokC.val]
  go_enter Tryz.func141, Tryz.ntmps141
  go_wp2
  go_ret
  exact ⟨rfl, (Ex.refl _ _).alloc _⟩
theorem isRes_spec (t : TokC) (w : World) : Calls Tryz.prog 142 #[t.val] w fun e w' => e = .returned (.bool (t.ty == 3)) ∧ Ex No w w' := by
  obtain ⟨ty, fn, o, l, c, tx⟩ := t
  simp only [TokC.val]
  go_enter Tryz.func142, Tryz.ntmps142
  go_wp2
  go_ret
  exact ⟨rfl, (Ex.refl _ _).alloc _⟩
theorem isString_spec (t : TokC) (w : World) : Calls Tryz.prog 145 #[t.val] w fun e w' => e = .returned (.bool (t.ty == 4)) ∧ Ex No w w' := by
  obtain ⟨ty, fn, o, l, c, tx⟩ := t
  simp only [TokC.val]
  go_enter Tryz.func145, Tryz.ntmps145
  go_wp2
  go_ret
  exact ⟨rfl, (Ex.refl _ _).alloc _⟩
theorem isInt_spec (t : TokC) (w : World) : Calls Tryz.prog 249 #[t.val] w fun e w' => e = .returned (.bool (t.ty == 2)) ∧ Ex No w w' := by
  obtain ⟨ty, fn, o, l, c, tx⟩ := t
  simp only [TokC.val]
  go_enter Tryz.func249, Tryz.ntmps249
  go_wp2
  go_ret
  exact ⟨rfl, (Ex.refl _ _).alloc _⟩
end Go.Proofs.YtbepocojafbbbaaGreatDoor
