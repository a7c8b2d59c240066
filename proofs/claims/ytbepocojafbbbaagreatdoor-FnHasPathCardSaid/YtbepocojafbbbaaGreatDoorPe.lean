/- The parser of a policy: its head, its conditions. -/
import Derived.Test.YtbepocojafbbbaaGreatDoorPd
namespace Go.Proofs.YtbepocojafbbbaaGreatDoor
open Go.RowKit
set_option maxRecDepth 100000

theorem annotations_none (X : PX) (k : Nat) (w : World) (hp : PSt X k w) (h1 : (X.tx k == [64]) = false) :
    Calls Tryz.prog 81 #[.pointer (some ⟨X.b, 0, none⟩)] w fun e w' => e = .returned (.tuple #[.agg #[.slice none 0 0], .nilIface]) ∧ Ex No w w' := by
  have fT := field_text
  go_enter Tryz.func81, Tryz.ntmps81
  go_wp2_with fail
  refine wp_loop_once ?_
  go_wp2_with fail
  refine (peek_spec X k _ (hp.ex ((((Ex.refl _ _).alloc _).alloc _).alloc _))).mono ?_
  rintro e w1 ⟨rfl, hx1⟩
  rcases ht : X.tok k with ⟨ty, fn, o, l, c, tx⟩
  simp only [PX.tx, ht] at h1
  simp only [TokC.val]
  clear ht
  have c1 := hx1.got (p := ⟨w.heap.size, 0, none⟩) (v := .slice none 0 0) (by simp [go_sem]) no_
  have f1 := hx1.thaw (p := ⟨w.heap.size, 0, none⟩) (v := .slice none 0 0) (by simp [go_sem]) (by simp [go_sem]) no_
  have d1 := hx1.got (p := ⟨w.heap.size + 1, 0, none⟩) (v := .slice none 0 0) (by simp [go_sem]) no_
  go_wp2
  refine bodyPost_ret (v := .tuple #[.agg #[.slice none 0 0], .nilIface]) (by simp [results, Tryz.results81, go_sem, c1]) rfl ⟨rfl, ?_⟩
  exact (((((Ex.refl _ _).alloc _).alloc _).alloc _).trans hx1).setCell _ _ (Or.inr (Nat.le_refl _))

def polCells (eff : Bool) (ann pr ac re cond : Value) (fn : ByteArray) (o l c : Int) : Array Value :=
  #[.bool eff, ann, pr, ac, re, cond, .string fn, .int .i64 o, .int .i64 l, .int .i64 c]
def allV : Value := .iface 339 (.agg #[])

theorem scopeAll_spec (w : World) : Calls Tryz.prog 175 #[.agg #[]] w fun e w' => e = .returned (.agg #[]) ∧ Ex No w w' := by
  go_enter Tryz.func175, Tryz.ntmps175
  go_wp2
  refine bodyPost_ret (v := .agg #[]) (by simp [results, Tryz.results175, go_sem]) rfl ⟨rfl, ?_⟩
  exact ((Ex.refl _ _).alloc _).alloc _

theorem newPolicy_spec (eff : Bool) (ann : Option Addr) (n c : Nat) (w : World) :
    Calls Tryz.prog 148 #[.bool eff, .slice ann n c] w fun e w' => e = .returned (.pointer (some ⟨w'.heap.size - 1, 0, none⟩)) ∧ Ex No w w' ∧
      w.heap.size < w'.heap.size ∧ Blk w' (w'.heap.size - 1) (polCells eff (.slice ann n c) allV allV allV (.slice none 0 0) ⟨#[]⟩ 0 0 0) 109 := by
  go_enter Tryz.func148, Tryz.ntmps148
  go_wp2_with fail
  refine (scopeAll_spec _).mono ?_
  rintro e w1 ⟨rfl, hx1⟩
  go_wp2_with fail
  refine (scopeAll_spec _).mono ?_
  rintro e w2 ⟨rfl, hx2⟩
  go_wp2_with fail
  refine (scopeAll_spec _).mono ?_
  rintro e w3 ⟨rfl, hx3⟩
  have hx := (hx1.trans hx2).trans hx3
  go_wp2
  go_ret
  have hs := hx.size
  refine ⟨by simp, hx.alloc _, by simp; omega, ?_⟩
  have := Blk.new w3 (polCells eff (.slice ann n c) allV allV allV (.slice none 0 0) ⟨#[]⟩ 0 0 0) 109
  simpa [polCells, allV] using this

theorem permit_spec (a : Nat) (ann : Option Addr) (n c : Nat) (w : World) (h : w.cell? ⟨a, 0, none⟩ = some (.slice ann n c)) :
    Calls Tryz.prog 102 #[.pointer (some ⟨a, 0, none⟩)] w fun e w' => e = .returned (.pointer (some ⟨w'.heap.size - 1, 0, none⟩)) ∧ Ex No w w' ∧
      w.heap.size < w'.heap.size ∧ Blk w' (w'.heap.size - 1) (polCells true (.slice ann n c) allV allV allV (.slice none 0 0) ⟨#[]⟩ 0 0 0) 109 := by
  go_enter Tryz.func102, Tryz.ntmps102
  go_wp2_with fail
  refine (newPolicy_spec _ _ _ _ _).mono ?_
  rintro e w1 ⟨rfl, hx1, hs, hB⟩
  go_wp2
  go_ret
  exact ⟨rfl, hx1, hs, hB⟩

theorem effect_permit (X : PX) (k a : Nat) (ann : Option Addr) (n c : Nat) (w : World) (hp : PSt X k w) (h1 : (X.tx k == [112, 101, 114, 109, 105, 116]) = true)
    (h : w.cell? ⟨a, 0, none⟩ = some (.slice ann n c)) (ha : a ≠ X.b) :
    Calls Tryz.prog 82 #[.pointer (some ⟨X.b, 0, none⟩), .pointer (some ⟨a, 0, none⟩)] w fun e w' =>
      e = .returned (.tuple #[.pointer (some ⟨w'.heap.size - 1, 0, none⟩), .nilIface]) ∧ PSt X (X.nx k) w' ∧ Ex (On X.b) w w' ∧
      w.heap.size < w'.heap.size ∧ Blk w' (w'.heap.size - 1) (polCells true (.slice ann n c) allV allV allV (.slice none 0 0) ⟨#[]⟩ 0 0 0) 109 := by
  have fT := field_text
  go_enter Tryz.func82, Tryz.ntmps82
  go_wp2_with fail
  refine (advance_spec X k _ hp).mono ?_
  rintro e w1 ⟨rfl, hp1, hx1⟩
  rcases ht : X.tok k with ⟨ty, fn, o, l, c', tx⟩
  simp only [PX.tx, ht] at h1
  simp only [TokC.val]
  clear ht
  go_wp2_with fail
  refine (permit_spec a ann n c _ (((Ex.refl No _).alloc _).got (hx1.got h ha) no_)).mono ?_
  rintro e w2 ⟨rfl, hx2, hs2, hB⟩
  have hx12 := ((Ex.refl No w1).alloc _).trans hx2
  go_wp2
  go_ret2
  exact ⟨rfl, hp1.ex hx12, hx1.no hx12, by have := hx1.size; simp at hs2; omega, hB⟩

theorem principal_none (X : PX) (k q : Nat) (w : World) (hp : PSt X k w) (h1 : X.tx k = [112, 114, 105, 110, 99, 105, 112, 97, 108]) (h2 : (X.tx (X.nx k) == [61, 61]) = false) (h3 : (X.tx (X.nx k) == [105, 115]) = false) (h4 : (X.tx (X.nx k) == [105, 110]) = false) :
    Calls Tryz.prog 84 #[.pointer (some ⟨X.b, 0, none⟩), .pointer (some ⟨q, 0, none⟩)] w fun e w' => e = .returned .nilIface ∧ PSt X (X.nx k) w' ∧ Ex (On X.b) w w' := by
  have fT := field_text
  go_enter Tryz.func84, Tryz.ntmps84
  go_wp2_with fail
  refine (exact_ok X k _ _ hp (by show X.tx k = _; rw [h1]; simp [go_sem])).mono ?_
  rintro e w1 ⟨rfl, hp1, hx1⟩
  clear h1
  go_wp2_with fail
  refine (peek_spec X (X.nx k) _ hp1).mono ?_
  rintro e w2 ⟨rfl, hx2⟩
  rcases ht : X.tok (X.nx k) with ⟨ty, fn, o, l, c, tx⟩
  simp only [PX.tx, ht] at h2 h3 h4
  simp only [TokC.val]
  clear ht
  go_wp2
  go_ret
  exact ⟨rfl, hp1.ex hx2, hx1.no hx2⟩

theorem action_none (X : PX) (k q : Nat) (w : World) (hp : PSt X k w) (h1 : X.tx k = [97, 99, 116, 105, 111, 110]) (h2 : (X.tx (X.nx k) == [61, 61]) = false) (h4 : (X.tx (X.nx k) == [105, 110]) = false) :
    Calls Tryz.prog 85 #[.pointer (some ⟨X.b, 0, none⟩), .pointer (some ⟨q, 0, none⟩)] w fun e w' => e = .returned .nilIface ∧ PSt X (X.nx k) w' ∧ Ex (On X.b) w w' := by
  have fT := field_text
  go_enter Tryz.func85, Tryz.ntmps85
  go_wp2_with fail
  refine (exact_ok X k _ _ hp (by show X.tx k = _; rw [h1]; simp [go_sem])).mono ?_
  rintro e w1 ⟨rfl, hp1, hx1⟩
  clear h1
  go_wp2_with fail
  refine (peek_spec X (X.nx k) _ hp1).mono ?_
  rintro e w2 ⟨rfl, hx2⟩
  rcases ht : X.tok (X.nx k) with ⟨ty, fn, o, l, c, tx⟩
  simp only [PX.tx, ht] at h2 h4
  simp only [TokC.val]
  clear ht
  go_wp2
  go_ret
  exact ⟨rfl, hp1.ex hx2, hx1.no hx2⟩

theorem resource_none (X : PX) (k q : Nat) (w : World) (hp : PSt X k w) (h1 : X.tx k = [114, 101, 115, 111, 117, 114, 99, 101]) (h2 : (X.tx (X.nx k) == [61, 61]) = false) (h3 : (X.tx (X.nx k) == [105, 115]) = false) (h4 : (X.tx (X.nx k) == [105, 110]) = false) :
    Calls Tryz.prog 86 #[.pointer (some ⟨X.b, 0, none⟩), .pointer (some ⟨q, 0, none⟩)] w fun e w' => e = .returned .nilIface ∧ PSt X (X.nx k) w' ∧ Ex (On X.b) w w' := by
  have fT := field_text
  go_enter Tryz.func86, Tryz.ntmps86
  go_wp2_with fail
  refine (exact_ok X k _ _ hp (by show X.tx k = _; rw [h1]; simp [go_sem])).mono ?_
  rintro e w1 ⟨rfl, hp1, hx1⟩
  clear h1
  go_wp2_with fail
  refine (peek_spec X (X.nx k) _ hp1).mono ?_
  rintro e w2 ⟨rfl, hx2⟩
  rcases ht : X.tok (X.nx k) with ⟨ty, fn, o, l, c, tx⟩
  simp only [PX.tx, ht] at h2 h3 h4
  simp only [TokC.val]
  clear ht
  go_wp2
  go_ret
  exact ⟨rfl, hp1.ex hx2, hx1.no hx2⟩

theorem condition_spec (X : PX) (k k' : Nat) (t : TypeId) (x : Value) (w : World) (hp : PSt X k w) (h1 : X.tx k = [123]) (h2 : X.tx k' = [125]) (h : OKx 157 X (X.nx k) t x k') :
    Calls Tryz.prog 119 #[.pointer (some ⟨X.b, 0, none⟩)] w fun e w' => e = .returned (.tuple #[.agg #[.iface t x], .nilIface]) ∧ PSt X (X.nx k') w' ∧ Ex (On X.b) w w' := by
  have H := Lib.hid h
  clear h
  have n0 := hp.ne_ w.heap.size (Nat.le_refl _)
  have n1 := hp.ne_ (w.heap.size + 1) (Nat.le_succ _)
  go_enter Tryz.func119, Tryz.ntmps119
  go_wp2_with fail
  refine (exact_ok X k _ _ (hp.ex (((Ex.refl _ _).alloc _).alloc _)) (by show X.tx k = _; rw [h1]; simp [go_sem])).mono ?_
  rintro e w1 ⟨rfl, hp1, hx1⟩
  clear h1
  have c1 := hx1.got (p := ⟨w.heap.size, 0, none⟩) (v := .nilIface) (by simp [go_sem]) n0
  have f1 := hx1.thaw (p := ⟨w.heap.size, 0, none⟩) (v := .nilIface) (by simp [go_sem]) (by simp [go_sem]) n0
  have d1 := hx1.got (p := ⟨w.heap.size + 1, 0, none⟩) (v := .nilIface) (by simp [go_sem]) n1
  have g1 := hx1.thaw (p := ⟨w.heap.size + 1, 0, none⟩) (v := .nilIface) (by simp [go_sem]) (by simp [go_sem]) n1
  have hE1 := ((((Ex.refl (On X.b) w).alloc (.cells #[.nilIface] 296)).alloc (.cells #[.nilIface] 296)).trans hx1)
  go_wp2_with fail
  refine (H.out _ hp1).mono ?_
  rintro e w2 ⟨rfl, hp2, hx2⟩
  have c2 := hx2.got c1 n0
  have f2 := hx2.thaw c1 f1 n0
  have d2 := hx2.got d1 n1
  have g2 := hx2.thaw d1 g1 n1
  have hE2 := hE1.trans hx2
  have M := node_end' hp hp2 hE2 (w.heap.size + 1) 0 (Nat.le_succ _) (.iface t x)
  have cs : (w2.setCell ⟨w.heap.size + 1, 0, none⟩ (.iface t x)).cell? ⟨w.heap.size, 0, none⟩ = some .nilIface := by
    rw [World.cell?_setCell_other _ _ _ _ (fun e => by have := congrArg Addr.block e; simp at this)]; exact c2
  have rs : (w2.setCell ⟨w.heap.size + 1, 0, none⟩ (.iface t x)).cell? ⟨w.heap.size + 1, 0, none⟩ = some (.iface t x) :=
    World.cell?_setCell_same _ _ _ d2
  have fs : (w2.setCell ⟨w.heap.size + 1, 0, none⟩ (.iface t x)).frozen? ⟨w.heap.size, 0, none⟩ = false := by simp [f2]
  have C := Lib.hid cs
  have R := Lib.hid rs
  have F := Lib.hid fs
  clear cs rs fs
  go_wp2_with fail
  refine (exact_ok X k' _ _ M.1 (by show X.tx k' = _; rw [h2]; simp [go_sem])).mono ?_
  rintro e w3 ⟨rfl, hp3, hx3⟩
  clear h2
  have c3 := hx3.got C.out n0
  have f3 := hx3.thaw C.out F.out n0
  have r3 := hx3.got R.out n1
  have N := node_end' hp hp3 (M.2.trans hx3) w.heap.size 0 (Nat.le_refl _) (.iface t x)
  go_wp2
  exact bodyPost_ret (v := .tuple #[.agg #[.iface t x], .nilIface]) (by simp [results, Tryz.results119, go_sem, c3]) rfl ⟨rfl, N⟩
end Go.Proofs.YtbepocojafbbbaaGreatDoor
