/- The parser of expressions on the few forms that are needed. -/
import Derived.Test.YtbepocojafbbbaaGreatDoorAs
namespace Go.Proofs.YtbepocojafbbbaaGreatDoor
open Go.RowKit
set_option maxRecDepth 100000

/-- The function f of the parser, called at token k, reads this node and stands at token k' then. -/
def OKx (f : FuncId) (X : PX) (k : Nat) (t : TypeId) (x : Value) (k' : Nat) : Prop :=
  ∀ w, PSt X k w → Calls Tryz.prog f #[.pointer (some ⟨X.b, 0, none⟩)] w fun e w' =>
    e = .returned (.tuple #[.agg #[.iface t x], .nilIface]) ∧ PSt X k' w' ∧ Ex (On X.b) w w'
def PX.tx (X : PX) (k : Nat) : List UInt8 := (X.tok k).tx.toList

theorem node_end {X : PX} {k k' : Nat} {w w2 : World} (hp : PSt X k w) (hp2 : PSt X k' w2) (hE : Ex (On X.b) (w.alloc (.cells #[.nilIface] 296)) w2) (v : Value) :
    PSt X k' (w2.setCell ⟨w.heap.size, 0, none⟩ v) ∧ Ex (On X.b) w (w2.setCell ⟨w.heap.size, 0, none⟩ v) :=
  ⟨hp2.from (B := w.heap.size) ((Ex.refl _ _).setCell _ _ (Or.inl (Nat.le_refl _))) hp.hb hp.htb, (((Ex.refl _ _).alloc _).trans hE).setCell _ _ (Or.inr (Nat.le_refl _))⟩
theorem res_cell {X : PX} {k : Nat} {w w2 : World} (hp : PSt X k w) (hE : Ex (On X.b) (w.alloc (.cells #[.nilIface] 296)) w2) :
    w2.cell? ⟨w.heap.size, 0, none⟩ = some .nilIface ∧ w2.frozen? ⟨w.heap.size, 0, none⟩ = false := by
  have hb := hp.hb
  have hn : ¬ On X.b w.heap.size := by unfold On; omega
  exact ⟨hE.got (new_cell w #[.nilIface] 296 0) hn, hE.thaw (new_cell w #[.nilIface] 296 0) (new_free _ _ _ _) hn⟩

theorem node_end' {X : PX} {k k' : Nat} {w w2 : World} (hp : PSt X k w) (hp2 : PSt X k' w2) (hE : Ex (On X.b) w w2) (r i : Nat) (hr : w.heap.size ≤ r) (v : Value) :
    PSt X k' (w2.setCell ⟨r, i, none⟩ v) ∧ Ex (On X.b) w (w2.setCell ⟨r, i, none⟩ v) :=
  ⟨hp2.from (B := w.heap.size) ((Ex.refl _ _).setCell _ _ (Or.inl hr)) hp.hb hp.htb, hE.setCell _ _ (Or.inr hr)⟩
theorem PSt.ne_ {X : PX} {k : Nat} {w : World} (hp : PSt X k w) (r : Nat) (hr : w.heap.size ≤ r) : ¬ On X.b r := by
  have hb := hp.hb
  unfold On; omega

theorem expression_pass (X : PX) (k k' : Nat) (t : TypeId) (x : Value) (hne : (X.tx k == [105, 102]) = false) (h : OKx 177 X k t x k') :
    OKx 157 X k t x k' := by
  intro w hp
  have fT := field_text
  have H := Lib.hid h
  clear h
  go_enter Tryz.func157, Tryz.ntmps157
  go_wp2_with fail
  refine (peek_spec X k _ (hp.ex ((Ex.refl _ _).alloc _))).mono ?_
  rintro e w1 ⟨rfl, hx⟩
  rcases ht : X.tok k with ⟨ty, fn, o, l, c, tx⟩
  simp only [PX.tx, ht] at hne
  simp only [TokC.val]
  clear ht
  go_wp2_with fail
  refine (H.out _ (((hp.ex ((Ex.refl _ _).alloc _)).ex hx).ex ((Ex.refl _ _).alloc _))).mono ?_
  rintro e w2 ⟨rfl, hp2, hx2⟩
  have hE := ((hx.alloc _).of_no (S := On X.b)).trans hx2
  obtain ⟨c0, f0⟩ := res_cell hp hE
  go_wp2
  exact bodyPost_ret (v := .tuple #[.agg #[.iface t x], .nilIface]) (by simp [results, Tryz.results157, go_sem, c0]) rfl ⟨rfl, node_end hp hp2 hE _⟩

theorem or_pass (X : PX) (k k' : Nat) (t : TypeId) (x : Value) (hne : (X.tx k' == [124, 124]) = false) (h : OKx 198 X k t x k') :
    OKx 177 X k t x k' := by
  intro w hp
  have fT := field_text
  have H := Lib.hid h
  clear h
  go_enter Tryz.func177, Tryz.ntmps177
  go_wp2_with fail
  refine (H.out _ (hp.ex ((Ex.refl _ _).alloc _))).mono ?_
  rintro e w2 ⟨rfl, hp2, hx2⟩
  go_wp2_with fail
  refine wp_loop_once ?_
  go_wp2_with fail
  refine (peek_spec X k' _ (hp2.ex ((Ex.refl _ _).alloc _))).mono ?_
  rintro e w3 ⟨rfl, hx3⟩
  rcases ht : X.tok k' with ⟨ty, fn, o, l, c, tx⟩
  simp only [PX.tx, ht] at hne
  simp only [TokC.val]
  clear ht
  have d0 := hx3.got (new_cell w2 #[.iface t x] 296 0) no_
  have hE := (hx2.alloc _).no hx3
  have hp3 := (hp2.ex ((Ex.refl _ _).alloc _)).ex hx3
  obtain ⟨c0, f0⟩ := res_cell hp hE
  go_wp2
  exact bodyPost_ret (v := .tuple #[.agg #[.iface t x], .nilIface]) (by simp [results, Tryz.results177, go_sem, c0]) rfl ⟨rfl, node_end hp hp3 hE _⟩

theorem and_pass (X : PX) (k k' : Nat) (t : TypeId) (x : Value) (hne : (X.tx k' == [38, 38]) = false) (h : OKx 210 X k t x k') :
    OKx 198 X k t x k' := by
  intro w hp
  have fT := field_text
  have H := Lib.hid h
  clear h
  go_enter Tryz.func198, Tryz.ntmps198
  go_wp2_with fail
  refine (H.out _ (hp.ex ((Ex.refl _ _).alloc _))).mono ?_
  rintro e w2 ⟨rfl, hp2, hx2⟩
  go_wp2_with fail
  refine wp_loop_once ?_
  go_wp2_with fail
  refine (peek_spec X k' _ (hp2.ex ((Ex.refl _ _).alloc _))).mono ?_
  rintro e w3 ⟨rfl, hx3⟩
  rcases ht : X.tok k' with ⟨ty, fn, o, l, c, tx⟩
  simp only [PX.tx, ht] at hne
  simp only [TokC.val]
  clear ht
  have d0 := hx3.got (new_cell w2 #[.iface t x] 296 0) no_
  have hE := (hx2.alloc _).no hx3
  have hp3 := (hp2.ex ((Ex.refl _ _).alloc _)).ex hx3
  obtain ⟨c0, f0⟩ := res_cell hp hE
  go_wp2
  exact bodyPost_ret (v := .tuple #[.agg #[.iface t x], .nilIface]) (by simp [results, Tryz.results198, go_sem, c0]) rfl ⟨rfl, node_end hp hp3 hE _⟩

theorem mult_pass (X : PX) (k k' : Nat) (t : TypeId) (x : Value) (hne : (X.tx k' == [42]) = false) (h : OKx 241 X k t x k') :
    OKx 229 X k t x k' := by
  intro w hp
  have fT := field_text
  have H := Lib.hid h
  clear h
  go_enter Tryz.func229, Tryz.ntmps229
  go_wp2_with fail
  refine (H.out _ (hp.ex ((Ex.refl _ _).alloc _))).mono ?_
  rintro e w2 ⟨rfl, hp2, hx2⟩
  go_wp2_with fail
  refine wp_loop_once ?_
  go_wp2_with fail
  refine (peek_spec X k' _ (hp2.ex ((Ex.refl _ _).alloc _))).mono ?_
  rintro e w3 ⟨rfl, hx3⟩
  rcases ht : X.tok k' with ⟨ty, fn, o, l, c, tx⟩
  simp only [PX.tx, ht] at hne
  simp only [TokC.val]
  clear ht
  have d0 := hx3.got (new_cell w2 #[.iface t x] 296 0) no_
  have hE := (hx2.alloc _).no hx3
  have hp3 := (hp2.ex ((Ex.refl _ _).alloc _)).ex hx3
  obtain ⟨c0, f0⟩ := res_cell hp hE
  go_wp2
  exact bodyPost_ret (v := .tuple #[.agg #[.iface t x], .nilIface]) (by simp [results, Tryz.results229, go_sem, c0]) rfl ⟨rfl, node_end hp hp3 hE _⟩

theorem add_pass (X : PX) (k k' : Nat) (t : TypeId) (x : Value) (h1 : (X.tx k' == [43]) = false) (h2 : (X.tx k' == [45]) = false) (h : OKx 229 X k t x k') :
    OKx 216 X k t x k' := by
  intro w hp
  have fT := field_text
  have nf : ∀ w, Sem.run Tryz.prog (binOp BinOp.eql 372 Value.nilFunc Value.nilFunc) w = .ok (.bool true) w := fun _ => by kernel_rfl
  have H := Lib.hid h
  clear h
  go_enter Tryz.func216, Tryz.ntmps216
  go_wp2_with fail
  refine (H.out _ (hp.ex ((Ex.refl _ _).alloc _))).mono ?_
  rintro e w2 ⟨rfl, hp2, hx2⟩
  go_wp2_with fail
  refine wp_loop_once ?_
  go_wp2_with fail
  refine (peek_spec X k' _ (hp2.ex ((Ex.refl _ _).alloc _))).mono ?_
  rintro e w3 ⟨rfl, hx3⟩
  rcases ht : X.tok k' with ⟨ty, fn, o, l, c, tx⟩
  simp only [PX.tx, ht] at h1 h2
  simp only [TokC.val]
  clear ht
  have d0 := hx3.got (new_cell w2 #[.iface t x] 296 0) no_
  have hE := (hx2.alloc _).no hx3
  have hp3 := (hp2.ex ((Ex.refl _ _).alloc _)).ex hx3
  obtain ⟨c0, f0⟩ := res_cell hp hE
  have hbd := some_lt c0
  have hbd2 := some_lt d0
  go_wp2
  have N := node_end hp hp3 hE (.iface t x)
  exact bodyPost_ret (v := .tuple #[.agg #[.iface t x], .nilIface]) (by simp [results, Tryz.results216, go_sem, c0, hbd]) rfl ⟨rfl, N.1.ex ((Ex.refl _ _).alloc _), N.2.alloc _⟩

theorem relation_pass (X : PX) (k k' : Nat) (t : TypeId) (x : Value)
    (h1 : (X.tx k' == [104, 97, 115]) = false) (h2 : (X.tx k' == [108, 105, 107, 101]) = false) (h3 : (X.tx k' == [105, 115]) = false)
    (h4 : (X.tx k' == [60]) = false) (h5 : (X.tx k' == [60, 61]) = false) (h6 : (X.tx k' == [62]) = false) (h7 : (X.tx k' == [62, 61]) = false)
    (h8 : (X.tx k' == [33, 61]) = false) (h9 : (X.tx k' == [61, 61]) = false) (h10 : (X.tx k' == [105, 110]) = false) (h : OKx 216 X k t x k') :
    OKx 210 X k t x k' := by
  intro w hp
  have fT := field_text
  have H := Lib.hid h
  clear h
  go_enter Tryz.func210, Tryz.ntmps210
  go_wp2_with fail
  refine (H.out _ (hp.ex ((Ex.refl _ _).alloc _))).mono ?_
  rintro e w2 ⟨rfl, hp2, hx2⟩
  go_wp2_with fail
  refine (peek_spec X k' _ (hp2.ex ((Ex.refl _ _).alloc _))).mono ?_
  rintro e w3 ⟨rfl, hx3⟩
  rcases ht : X.tok k' with ⟨ty, fn, o, l, c, tx⟩
  simp only [PX.tx, ht] at h1 h2 h3 h4 h5 h6 h7 h8 h9 h10
  simp only [TokC.val]
  clear ht
  have d0 := hx3.got (new_cell w2 #[.iface t x] 296 0) no_
  have hE := (hx2.alloc _).no hx3
  have hp3 := (hp2.ex ((Ex.refl _ _).alloc _)).ex hx3
  obtain ⟨c0, f0⟩ := res_cell hp hE
  have hbd := some_lt c0
  have hbd2 := some_lt d0
  go_wp2
  have N := node_end hp hp3 hE (.iface t x)
  exact bodyPost_ret (v := .tuple #[.agg #[.iface t x], .nilIface]) (by simp [results, Tryz.results210, go_sem, c0, hbd]) rfl ⟨rfl, N.1.ex ((Ex.refl _ _).alloc _), N.2.alloc _⟩

/-- 'has' behind a node, called behind the word: token k is a name, none with a point behind it. -/
theorem has_one (X : PX) (k : Nat) (t : TypeId) (x : Value) (hty : (X.tok k).ty = 1) (hdot : (X.tx (X.nx k) == [46]) = false) (w : World) (hp : PSt X k w) :
    Calls Tryz.prog 217 #[.pointer (some ⟨X.b, 0, none⟩), .agg #[.iface t x]] w fun e w' =>
      e = .returned (.tuple #[.agg #[.iface 186 (.agg #[.iface t x, .string (X.tok k).tx])], .nilIface]) ∧ PSt X (X.nx k) w' ∧ Ex (On X.b) w w' := by
  have fT := field_text
  go_enter Tryz.func217, Tryz.ntmps217
  go_wp2_with fail
  refine (advance_spec X k _ (hp.ex (((Ex.refl _ _).alloc _).alloc _))).mono ?_
  rintro e w1 ⟨rfl, hp1, hx1⟩
  have a0 := hx1.got (p := ⟨w.heap.size, 0, none⟩) (by simp [go_sem]; rfl) (hp.ne_ _ (Nat.le_refl _))
  have c0 := hx1.got (p := ⟨w.heap.size + 1, 0, none⟩) (by simp [go_sem]; rfl) (hp.ne_ _ (Nat.le_succ _))
  have f0 := hx1.thaw (p := ⟨w.heap.size + 1, 0, none⟩) (by simp [go_sem]; rfl) (by simp [go_sem]) (hp.ne_ _ (Nat.le_succ _))
  have hx0 := (((Ex.refl (On X.b) w).alloc _).alloc _).trans hx1
  rcases ht : X.tok k with ⟨ty, fn, o, l, c, tx⟩
  simp only [ht] at hty
  subst hty
  have HT := Lib.hid ht
  clear ht
  simp only [TokC.val]
  go_wp2_with fail
  refine (isIdent_spec ⟨1, fn, o, l, c, tx⟩ _).mono ?_
  rintro e w2 ⟨rfl, hx2⟩
  have d5 := hx2.got (new_cell w1 #[.int .i64 1, .string fn, .int .i64 o, .int .i64 l, .int .i64 c, .string tx] 154 5) no_
  have hx12 := ((Ex.refl No w1).alloc _).trans hx2
  have a2 := hx12.got a0 no_
  have c2 := hx12.got c0 no_
  have f2 := hx12.thaw c0 f0 no_
  go_wp2_with fail
  refine (has_spec _ _ _ _).mono ?_
  rintro e w3 ⟨rfl, hx3⟩
  have a3 := hx3.got a2 no_
  have c3 := hx3.got c2 no_
  have f3 := hx3.thaw c2 f2 no_
  have l3 := some_lt a3
  have m3 := some_lt c3
  go_wp2_with fail
  refine (access_spec _ _ _ _).mono ?_
  rintro e w4 ⟨rfl, hx4⟩
  have hx34 := ((Ex.refl No w3).alloc _).trans hx4
  have c4 := hx34.got c3 no_
  have f4 := hx34.thaw c3 f3 no_
  have r4 := hx4.got (new_cell w3 #[.iface 186 (.agg #[.iface t x, .string tx])] 296 0) no_
  have l4 := some_lt c4
  have m4 := some_lt r4
  have hp4 : PSt X (X.nx k) w4 := ((hp1.ex hx12).ex hx3).ex hx34
  have hE4 : Ex (On X.b) w w4 := ((hx0.no hx12).no hx3).no hx34
  go_wp2_with fail
  refine wp_loop_once ?_
  go_wp2_with fail
  refine (peek_spec X (X.nx k) _ (hp4.ex ((Ex.refl _ _).alloc _))).mono ?_
  rintro e w5 ⟨rfl, hx5⟩
  rcases ht : X.tok (X.nx k) with ⟨ty', fn', o', l', c', tx'⟩
  simp only [PX.tx, ht] at hdot
  simp only [TokC.val]
  clear ht
  have hx45 := ((Ex.refl No w4).alloc _).trans hx5
  have c5 := hx45.got c4 no_
  have f5 := hx45.thaw c4 f4 no_
  have r5 := hx45.got r4 no_
  have l5 := some_lt c5
  have N := node_end' hp (hp4.ex hx45) (hE4.no hx45) (w.heap.size + 1) 0 (Nat.le_succ _) (.iface 186 (.agg #[.iface t x, .string tx]))
  go_wp2
  exact bodyPost_ret (v := .tuple #[.agg #[.iface 186 (.agg #[.iface t x, .string (X.tok k).tx])], .nilIface]) (by rw [HT.out]; simp [results, Tryz.results217, go_sem, c5]) rfl ⟨rfl, N⟩

theorem relation_has (X : PX) (k k' : Nat) (t : TypeId) (x : Value) (h1 : (X.tx k' == [104, 97, 115]) = true) (hty : (X.tok (X.nx k')).ty = 1) (hdot : (X.tx (X.nx (X.nx k')) == [46]) = false)
    (h : OKx 216 X k t x k') :
    OKx 210 X k 186 (.agg #[.iface t x, .string (X.tok (X.nx k')).tx]) (X.nx (X.nx k')) := by
  intro w hp
  have fT := field_text
  have H := Lib.hid h
  clear h
  go_enter Tryz.func210, Tryz.ntmps210
  go_wp2_with fail
  refine (H.out _ (hp.ex ((Ex.refl _ _).alloc _))).mono ?_
  rintro e w2 ⟨rfl, hp2, hx2⟩
  go_wp2_with fail
  refine (peek_spec X k' _ (hp2.ex ((Ex.refl _ _).alloc _))).mono ?_
  rintro e w3 ⟨rfl, hx3⟩
  rcases ht : X.tok k' with ⟨ty, fn, o, l, c, tx⟩
  simp only [PX.tx, ht] at h1
  simp only [TokC.val]
  clear ht
  have d0 := hx3.got (new_cell w2 #[.iface t x] 296 0) no_
  have hE := (hx2.alloc _).no hx3
  have hp3 := (hp2.ex ((Ex.refl _ _).alloc _)).ex hx3
  obtain ⟨c0, f0⟩ := res_cell hp hE
  have hbd := some_lt c0
  have hbd2 := some_lt d0
  go_wp2_with fail
  refine (advance_spec X k' _ (hp3.ex ((Ex.refl _ _).alloc _))).mono ?_
  rintro e w4 ⟨rfl, hp4, hx4⟩
  have hx34 := ((Ex.refl (On X.b) w3).alloc _).trans hx4
  have hE4 := hE.trans hx34
  obtain ⟨c4, f4⟩ := res_cell hp hE4
  have l4 := some_lt c4
  have d4 := hx34.got d0 (hp2.ne_ _ (Nat.le_refl _))
  have m4 := some_lt d4
  go_wp2_with fail
  refine (has_one X (X.nx k') t x hty hdot _ hp4).mono ?_
  rintro e w5 ⟨rfl, hp5, hx5⟩
  have hE5 := hE4.trans hx5
  obtain ⟨c5, f5⟩ := res_cell hp hE5
  have l5 := some_lt c5
  go_wp2
  exact bodyPost_ret (v := .tuple #[.agg #[.iface 186 (.agg #[.iface t x, .string (X.tok (X.nx k')).tx])], .nilIface]) (by simp [results, Tryz.results210, go_sem, c5]) rfl ⟨rfl, node_end hp hp5 hE5 _⟩

theorem unary_pass (X : PX) (k k' : Nat) (t : TypeId) (x : Value) (h1 : (X.tx k == [45]) = false) (h2 : (X.tx k == [33]) = false) (h : OKx 252 X k t x k') :
    OKx 241 X k t x k' := by
  intro w hp
  have fT := field_text
  have H := Lib.hid h
  clear h
  go_enter Tryz.func241, Tryz.ntmps241
  go_wp2_with fail
  refine wp_loop_once ?_
  go_wp2_with fail
  refine (peek_spec X k _ (hp.ex ((Ex.refl _ _).alloc _))).mono ?_
  rintro e w1 ⟨rfl, hx1⟩
  rcases ht : X.tok k with ⟨ty, fn, o, l, c, tx⟩
  simp only [PX.tx, ht] at h1 h2
  simp only [TokC.val]
  have hp1 := (hp.ex ((Ex.refl _ _).alloc _)).ex hx1
  have hE1 := hx1.of_no (S := On X.b)
  go_wp2_with fail
  refine (peek_spec X k _ (hp1.ex (((Ex.refl _ _).alloc _).alloc _))).mono ?_
  rintro e w2 ⟨rfl, hx2⟩
  simp only [ht, TokC.val]
  clear ht
  have r2 := hx2.got (p := ⟨w1.heap.size + 1, 0, none⟩) (v := .nilIface) (by simp [go_sem]) no_
  have z2 := hx2.thaw (p := ⟨w1.heap.size + 1, 0, none⟩) (v := .nilIface) (by simp [go_sem]) (by simp [go_sem]) no_
  have hx12 := (((Ex.refl No w1).alloc _).alloc _).trans hx2
  have hp2 := hp1.ex hx12
  have hE2 := hE1.no hx12
  go_wp2_with fail
  refine (H.out _ (hp2.ex ((Ex.refl _ _).alloc _))).mono ?_
  rintro e w3 ⟨rfl, hp3, hx3⟩
  have hx23 := ((Ex.refl (On X.b) w2).alloc _).trans hx3
  have hE3 := hE2.trans hx23
  obtain ⟨c3, f3⟩ := res_cell hp hE3
  have s1 := hx1.size
  simp at s1
  have r3 := hx23.got r2 (hp.ne_ (w1.heap.size + 1) (by omega))
  have z3 := hx23.thaw r2 z2 (hp.ne_ (w1.heap.size + 1) (by omega))
  have l3 := some_lt c3
  have q3 := some_lt r3
  go_wp2_with fail
  refine wp_loop_once ?_
  go_wp2_with fail
  have hb := hp.hb
  have N1 := node_end' hp hp3 (((Ex.refl _ _).alloc _).trans hE3) (w1.heap.size + 1) 0 (by omega) (.iface t x)
  have N2 := node_end' hp N1.1 N1.2 w.heap.size 0 (Nat.le_refl _) (.iface t x)
  exact bodyPost_ret (v := .tuple #[.agg #[.iface t x], .nilIface]) (by simp [results, Tryz.results241, go_sem, c3]) rfl ⟨rfl, N2⟩

/-- No access stands at token k. -/
theorem access_no (X : PX) (k : Nat) (t : TypeId) (x : Value) (h1 : (X.tx k == [46]) = false) (h2 : (X.tx k == [91]) = false) (w : World) (hp : PSt X k w) :
    Calls Tryz.prog 261 #[.pointer (some ⟨X.b, 0, none⟩), .agg #[.iface t x]] w fun e w' =>
      e = .returned (.tuple #[.agg #[.iface t x], .bool false, .nilIface]) ∧ Ex No w w' := by
  have fT := field_text
  go_enter Tryz.func261, Tryz.ntmps261
  go_wp2_with fail
  refine (peek_spec X k _ (hp.ex (((Ex.refl _ _).alloc _).alloc _))).mono ?_
  rintro e w1 ⟨rfl, hx1⟩
  rcases ht : X.tok k with ⟨ty, fn, o, l, c, tx⟩
  simp only [PX.tx, ht] at h1 h2
  simp only [TokC.val]
  clear ht
  have a1 := hx1.got (p := ⟨w.heap.size, 0, none⟩) (v := .iface t x) (by simp [go_sem]) no_
  have c1 := hx1.got (p := ⟨w.heap.size + 1, 0, none⟩) (v := .nilIface) (by simp [go_sem]) no_
  have f1 := hx1.thaw (p := ⟨w.heap.size + 1, 0, none⟩) (v := .nilIface) (by simp [go_sem]) (by simp [go_sem]) no_
  have l1 := some_lt c1
  have m1 := some_lt a1
  go_wp2
  exact bodyPost_ret (v := .tuple #[.agg #[.iface t x], .bool false, .nilIface]) (by simp [results, Tryz.results261, go_sem, c1, l1]) rfl ⟨rfl, ((((((Ex.refl _ _).alloc _).alloc _).trans hx1).setCell _ _ (Or.inr (Nat.le_succ _))).alloc _)⟩

/-- '.name' stands at token k, no bracket behind it. -/
theorem access_name (X : PX) (k : Nat) (t : TypeId) (x : Value) (h1 : (X.tx k == [46]) = true) (hty : (X.tok (X.nx k)).ty = 1) (h2 : (X.tx (X.nx (X.nx k)) == [40]) = false) (w : World) (hp : PSt X k w) :
    Calls Tryz.prog 261 #[.pointer (some ⟨X.b, 0, none⟩), .agg #[.iface t x]] w fun e w' =>
      e = .returned (.tuple #[.agg #[.iface 187 (.agg #[.iface t x, .string (X.tok (X.nx k)).tx])], .bool true, .nilIface]) ∧ PSt X (X.nx (X.nx k)) w' ∧ Ex (On X.b) w w' := by
  have fT := field_text
  go_enter Tryz.func261, Tryz.ntmps261
  go_wp2_with fail
  refine (peek_spec X k _ (hp.ex (((Ex.refl _ _).alloc _).alloc _))).mono ?_
  rintro e w1 ⟨rfl, hx1⟩
  rcases ht : X.tok k with ⟨ty, fn, o, l, c, tx⟩
  simp only [PX.tx, ht] at h1
  simp only [TokC.val]
  clear ht
  have a1 := hx1.got (p := ⟨w.heap.size, 0, none⟩) (v := .iface t x) (by simp [go_sem]) no_
  have c1 := hx1.got (p := ⟨w.heap.size + 1, 0, none⟩) (v := .nilIface) (by simp [go_sem]) no_
  have f1 := hx1.thaw (p := ⟨w.heap.size + 1, 0, none⟩) (v := .nilIface) (by simp [go_sem]) (by simp [go_sem]) no_
  have hp1 := (hp.ex (((Ex.refl _ _).alloc _).alloc _)).ex hx1
  have hE1 := ((((Ex.refl (On X.b) w).alloc _).alloc _).no hx1)
  go_wp2_with fail
  refine (advance_spec X k _ (hp1.ex ((Ex.refl _ _).alloc _))).mono ?_
  rintro e w2 ⟨rfl, hp2, hx2⟩
  have hx12 := ((Ex.refl (On X.b) w1).alloc _).trans hx2
  have hE2 := hE1.trans hx12
  have n0 := hp.ne_ w.heap.size (Nat.le_refl _)
  have n1 := hp.ne_ (w.heap.size + 1) (Nat.le_succ _)
  have a2 := hx12.got a1 n0
  have c2 := hx12.got c1 n1
  have f2 := hx12.thaw c1 f1 n1
  go_wp2_with fail
  refine (advance_spec X (X.nx k) _ hp2).mono ?_
  rintro e w3 ⟨rfl, hp3, hx3⟩
  have hE3 := hE2.trans hx3
  have a3 := hx3.got a2 n0
  have c3 := hx3.got c2 n1
  have f3 := hx3.thaw c2 f2 n1
  rcases ht : X.tok (X.nx k) with ⟨ty, fn', o', l', c', tx'⟩
  simp only [ht] at hty
  subst hty
  simp only [TokC.val]
  have HT := Lib.hid ht
  clear ht
  go_wp2_with fail
  refine (isIdent_spec ⟨1, fn', o', l', c', tx'⟩ _).mono ?_
  rintro e w4 ⟨rfl, hx4⟩
  have d4 := hx4.got (new_cell w3 #[.int .i64 1, .string fn', .int .i64 o', .int .i64 l', .int .i64 c', .string tx'] 154 5) no_
  have hx34 := ((Ex.refl No w3).alloc _).trans hx4
  have hE4 := hE3.no hx34
  have hp4 := hp3.ex hx34
  have a4 := hx34.got a3 no_
  have c4 := hx34.got c3 no_
  have f4 := hx34.thaw c3 f3 no_
  go_wp2_with fail
  refine (peek_spec X (X.nx (X.nx k)) _ hp4).mono ?_
  rintro e w5 ⟨rfl, hx5⟩
  rcases ht : X.tok (X.nx (X.nx k)) with ⟨ty2, fn2, o2, l2, c2, tx2⟩
  simp only [PX.tx, ht] at h2
  simp only [TokC.val]
  clear ht
  have a5 := hx5.got a4 no_
  have c5 := hx5.got c4 no_
  have f5 := hx5.thaw c4 f4 no_
  have d5 := hx5.got d4 no_
  go_wp2_with fail
  refine (access_spec _ _ _ _).mono ?_
  rintro e w6 ⟨rfl, hx6⟩
  have c6 := hx6.got c5 no_
  have f6 := hx6.thaw c5 f5 no_
  have N := node_end' hp ((hp4.ex hx5).ex hx6) ((hE4.no hx5).no hx6) (w.heap.size + 1) 0 (Nat.le_succ _) (.iface 187 (.agg #[.iface t x, .string tx']))
  go_wp2
  exact bodyPost_ret (v := .tuple #[.agg #[.iface 187 (.agg #[.iface t x, .string (X.tok (X.nx k)).tx])], .bool true, .nilIface]) (by rw [HT.out]; simp [results, Tryz.results261, go_sem, c6]) rfl ⟨rfl, N⟩
end Go.Proofs.YtbepocojafbbbaaGreatDoor
