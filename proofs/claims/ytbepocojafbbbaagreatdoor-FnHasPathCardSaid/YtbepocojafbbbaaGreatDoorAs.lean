/- The builders of nodes. -/
import Derived.Test.YtbepocojafbbbaaGreatDoorPb
namespace Go.Proofs.YtbepocojafbbbaaGreatDoor
open Go.RowKit
set_option maxRecDepth 100000

theorem newNode_spec (t : TypeId) (x : Value) (w : World) :
    Calls Tryz.prog 197 #[.iface t x] w fun e w' => e = .returned (.agg #[.iface t x]) ∧ Ex No w w' := by
  go_enter Tryz.func197, Tryz.ntmps197
  go_wp2
  refine bodyPost_ret (v := .agg #[.iface t x]) (by simp [results, Tryz.results197, go_sem]) rfl ⟨rfl, ?_⟩
  exact (Ex.refl _ _).alloc _

def ctxB : ByteArray := { data := #[99, 111, 110, 116, 101, 120, 116] }
theorem newCtx_spec (w : World) :
    Calls Tryz.prog 299 #[] w fun e w' => e = .returned (.agg #[.string ctxB]) ∧ Ex No w w' := by
  go_enter Tryz.func299, Tryz.ntmps299
  go_wp2
  refine bodyPost_ret (v := .agg #[.string ctxB]) (by simp [results, Tryz.results299, go_sem, ctxB]) rfl ⟨rfl, ?_⟩
  exact (Ex.refl _ _).alloc _

theorem context_spec (w : World) :
    Calls Tryz.prog 275 #[] w fun e w' => e = .returned (.agg #[.iface 179 (.agg #[.string ctxB])]) ∧ Ex No w w' := by
  go_enter Tryz.func275, Tryz.ntmps275
  go_wp2_with fail
  refine (newCtx_spec _).mono ?_
  rintro e w1 ⟨rfl, hx⟩
  go_wp2_with fail
  refine (newNode_spec _ _ _).mono ?_
  rintro e w2 ⟨rfl, hx2⟩
  have c0 := (hx.trans hx2).got (new_cell w #[.nilIface] 296 0) no_
  have f0 := (hx.trans hx2).thaw (new_cell w #[.nilIface] 296 0) (new_free _ _ _ _) no_
  go_wp2
  refine bodyPost_ret (v := .agg #[.iface 179 (.agg #[.string ctxB])]) (by simp [results, Tryz.results275, go_sem, c0]) rfl ⟨rfl, ?_⟩
  exact ((((Ex.refl _ _).alloc _).trans hx).trans hx2).setCell _ _ (Or.inr (Nat.le_refl _))

theorem has_spec (w : World) (t : TypeId) (x : Value) (s : ByteArray) :
    Calls Tryz.prog 232 #[.agg #[.iface t x], .string s] w fun e w' => e = .returned (.agg #[.iface 186 (.agg #[.iface t x, .string s])]) ∧ Ex No w w' := by
  go_enter Tryz.func232, Tryz.ntmps232
  go_wp2_with fail
  refine (newNode_spec _ _ _).mono ?_
  rintro e w1 ⟨rfl, hx⟩
  have c0 := hx.got (p := ⟨w.heap.size + 1, 0, none⟩) (by simp [go_sem]; rfl) no_
  have f0 := hx.thaw (p := ⟨w.heap.size + 1, 0, none⟩) (by simp [go_sem]; rfl) (by simp [go_sem]) no_
  go_wp2
  refine bodyPost_ret (v := .agg #[.iface 186 (.agg #[.iface t x, .string s])]) (by simp [results, Tryz.results232, go_sem, c0]) rfl ⟨rfl, ?_⟩
  exact ((((Ex.refl _ _).alloc _).alloc _).trans hx).setCell _ _ (Or.inr (Nat.le_succ _))

theorem access_spec (w : World) (t : TypeId) (x : Value) (s : ByteArray) :
    Calls Tryz.prog 233 #[.agg #[.iface t x], .string s] w fun e w' => e = .returned (.agg #[.iface 187 (.agg #[.iface t x, .string s])]) ∧ Ex No w w' := by
  go_enter Tryz.func233, Tryz.ntmps233
  go_wp2_with fail
  refine (newNode_spec _ _ _).mono ?_
  rintro e w1 ⟨rfl, hx⟩
  have c0 := hx.got (p := ⟨w.heap.size + 1, 0, none⟩) (by simp [go_sem]; rfl) no_
  have f0 := hx.thaw (p := ⟨w.heap.size + 1, 0, none⟩) (by simp [go_sem]; rfl) (by simp [go_sem]) no_
  go_wp2
  refine bodyPost_ret (v := .agg #[.iface 187 (.agg #[.iface t x, .string s])]) (by simp [results, Tryz.results233, go_sem, c0]) rfl ⟨rfl, ?_⟩
  exact ((((Ex.refl _ _).alloc _).alloc _).trans hx).setCell _ _ (Or.inr (Nat.le_succ _))


theorem bOr_spec (w : World) (t u : TypeId) (x y : Value) :
    Calls Tryz.prog 199 #[.agg #[.iface t x], .agg #[.iface u y]] w fun e w' => e = .returned (.agg #[.iface 252 (.agg #[.iface t x, .iface u y])]) ∧ Ex No w w' := by
  go_enter Tryz.func199, Tryz.ntmps199
  go_wp2_with fail
  refine (newNode_spec _ _ _).mono ?_
  rintro e w1 ⟨rfl, hx⟩
  have c0 := hx.got (p := ⟨w.heap.size + 1 + 1, 0, none⟩) (by simp [go_sem]; rfl) no_
  have f0 := hx.thaw (p := ⟨w.heap.size + 1 + 1, 0, none⟩) (by simp [go_sem]; rfl) (by simp [go_sem]) no_
  go_wp2
  refine bodyPost_ret (v := .agg #[.iface 252 (.agg #[.iface t x, .iface u y])]) (by simp [results, Tryz.results199, go_sem, c0]) rfl ⟨rfl, ?_⟩
  exact (((((Ex.refl _ _).alloc _).alloc _).alloc _).trans hx).setCell _ _ (Or.inr (Nat.le_add_right _ 2))

theorem bAnd_spec (w : World) (t u : TypeId) (x y : Value) :
    Calls Tryz.prog 211 #[.agg #[.iface t x], .agg #[.iface u y]] w fun e w' => e = .returned (.agg #[.iface 254 (.agg #[.iface t x, .iface u y])]) ∧ Ex No w w' := by
  go_enter Tryz.func211, Tryz.ntmps211
  go_wp2_with fail
  refine (newNode_spec _ _ _).mono ?_
  rintro e w1 ⟨rfl, hx⟩
  have c0 := hx.got (p := ⟨w.heap.size + 1 + 1, 0, none⟩) (by simp [go_sem]; rfl) no_
  have f0 := hx.thaw (p := ⟨w.heap.size + 1 + 1, 0, none⟩) (by simp [go_sem]; rfl) (by simp [go_sem]) no_
  go_wp2
  refine bodyPost_ret (v := .agg #[.iface 254 (.agg #[.iface t x, .iface u y])]) (by simp [results, Tryz.results211, go_sem, c0]) rfl ⟨rfl, ?_⟩
  exact (((((Ex.refl _ _).alloc _).alloc _).alloc _).trans hx).setCell _ _ (Or.inr (Nat.le_add_right _ 2))

theorem bLessThan_spec (w : World) (t u : TypeId) (x y : Value) :
    Calls Tryz.prog 220 #[.agg #[.iface t x], .agg #[.iface u y]] w fun e w' => e = .returned (.agg #[.iface 255 (.agg #[.iface t x, .iface u y])]) ∧ Ex No w w' := by
  go_enter Tryz.func220, Tryz.ntmps220
  go_wp2_with fail
  refine (newNode_spec _ _ _).mono ?_
  rintro e w1 ⟨rfl, hx⟩
  have c0 := hx.got (p := ⟨w.heap.size + 1 + 1, 0, none⟩) (by simp [go_sem]; rfl) no_
  have f0 := hx.thaw (p := ⟨w.heap.size + 1 + 1, 0, none⟩) (by simp [go_sem]; rfl) (by simp [go_sem]) no_
  go_wp2
  refine bodyPost_ret (v := .agg #[.iface 255 (.agg #[.iface t x, .iface u y])]) (by simp [results, Tryz.results220, go_sem, c0]) rfl ⟨rfl, ?_⟩
  exact (((((Ex.refl _ _).alloc _).alloc _).alloc _).trans hx).setCell _ _ (Or.inr (Nat.le_add_right _ 2))

theorem bLessThanOrEqual_spec (w : World) (t u : TypeId) (x y : Value) :
    Calls Tryz.prog 221 #[.agg #[.iface t x], .agg #[.iface u y]] w fun e w' => e = .returned (.agg #[.iface 256 (.agg #[.iface t x, .iface u y])]) ∧ Ex No w w' := by
  go_enter Tryz.func221, Tryz.ntmps221
  go_wp2_with fail
  refine (newNode_spec _ _ _).mono ?_
  rintro e w1 ⟨rfl, hx⟩
  have c0 := hx.got (p := ⟨w.heap.size + 1 + 1, 0, none⟩) (by simp [go_sem]; rfl) no_
  have f0 := hx.thaw (p := ⟨w.heap.size + 1 + 1, 0, none⟩) (by simp [go_sem]; rfl) (by simp [go_sem]) no_
  go_wp2
  refine bodyPost_ret (v := .agg #[.iface 256 (.agg #[.iface t x, .iface u y])]) (by simp [results, Tryz.results221, go_sem, c0]) rfl ⟨rfl, ?_⟩
  exact (((((Ex.refl _ _).alloc _).alloc _).alloc _).trans hx).setCell _ _ (Or.inr (Nat.le_add_right _ 2))

theorem bGreaterThan_spec (w : World) (t u : TypeId) (x y : Value) :
    Calls Tryz.prog 222 #[.agg #[.iface t x], .agg #[.iface u y]] w fun e w' => e = .returned (.agg #[.iface 257 (.agg #[.iface t x, .iface u y])]) ∧ Ex No w w' := by
  go_enter Tryz.func222, Tryz.ntmps222
  go_wp2_with fail
  refine (newNode_spec _ _ _).mono ?_
  rintro e w1 ⟨rfl, hx⟩
  have c0 := hx.got (p := ⟨w.heap.size + 1 + 1, 0, none⟩) (by simp [go_sem]; rfl) no_
  have f0 := hx.thaw (p := ⟨w.heap.size + 1 + 1, 0, none⟩) (by simp [go_sem]; rfl) (by simp [go_sem]) no_
  go_wp2
  refine bodyPost_ret (v := .agg #[.iface 257 (.agg #[.iface t x, .iface u y])]) (by simp [results, Tryz.results222, go_sem, c0]) rfl ⟨rfl, ?_⟩
  exact (((((Ex.refl _ _).alloc _).alloc _).alloc _).trans hx).setCell _ _ (Or.inr (Nat.le_add_right _ 2))

theorem bGreaterThanOrEqual_spec (w : World) (t u : TypeId) (x y : Value) :
    Calls Tryz.prog 223 #[.agg #[.iface t x], .agg #[.iface u y]] w fun e w' => e = .returned (.agg #[.iface 258 (.agg #[.iface t x, .iface u y])]) ∧ Ex No w w' := by
  go_enter Tryz.func223, Tryz.ntmps223
  go_wp2_with fail
  refine (newNode_spec _ _ _).mono ?_
  rintro e w1 ⟨rfl, hx⟩
  have c0 := hx.got (p := ⟨w.heap.size + 1 + 1, 0, none⟩) (by simp [go_sem]; rfl) no_
  have f0 := hx.thaw (p := ⟨w.heap.size + 1 + 1, 0, none⟩) (by simp [go_sem]; rfl) (by simp [go_sem]) no_
  go_wp2
  refine bodyPost_ret (v := .agg #[.iface 258 (.agg #[.iface t x, .iface u y])]) (by simp [results, Tryz.results223, go_sem, c0]) rfl ⟨rfl, ?_⟩
  exact (((((Ex.refl _ _).alloc _).alloc _).alloc _).trans hx).setCell _ _ (Or.inr (Nat.le_add_right _ 2))

theorem bNotEqual_spec (w : World) (t u : TypeId) (x y : Value) :
    Calls Tryz.prog 224 #[.agg #[.iface t x], .agg #[.iface u y]] w fun e w' => e = .returned (.agg #[.iface 259 (.agg #[.iface t x, .iface u y])]) ∧ Ex No w w' := by
  go_enter Tryz.func224, Tryz.ntmps224
  go_wp2_with fail
  refine (newNode_spec _ _ _).mono ?_
  rintro e w1 ⟨rfl, hx⟩
  have c0 := hx.got (p := ⟨w.heap.size + 1 + 1, 0, none⟩) (by simp [go_sem]; rfl) no_
  have f0 := hx.thaw (p := ⟨w.heap.size + 1 + 1, 0, none⟩) (by simp [go_sem]; rfl) (by simp [go_sem]) no_
  go_wp2
  refine bodyPost_ret (v := .agg #[.iface 259 (.agg #[.iface t x, .iface u y])]) (by simp [results, Tryz.results224, go_sem, c0]) rfl ⟨rfl, ?_⟩
  exact (((((Ex.refl _ _).alloc _).alloc _).alloc _).trans hx).setCell _ _ (Or.inr (Nat.le_add_right _ 2))

theorem bEqual_spec (w : World) (t u : TypeId) (x y : Value) :
    Calls Tryz.prog 225 #[.agg #[.iface t x], .agg #[.iface u y]] w fun e w' => e = .returned (.agg #[.iface 260 (.agg #[.iface t x, .iface u y])]) ∧ Ex No w w' := by
  go_enter Tryz.func225, Tryz.ntmps225
  go_wp2_with fail
  refine (newNode_spec _ _ _).mono ?_
  rintro e w1 ⟨rfl, hx⟩
  have c0 := hx.got (p := ⟨w.heap.size + 1 + 1, 0, none⟩) (by simp [go_sem]; rfl) no_
  have f0 := hx.thaw (p := ⟨w.heap.size + 1 + 1, 0, none⟩) (by simp [go_sem]; rfl) (by simp [go_sem]) no_
  go_wp2
  refine bodyPost_ret (v := .agg #[.iface 260 (.agg #[.iface t x, .iface u y])]) (by simp [results, Tryz.results225, go_sem, c0]) rfl ⟨rfl, ?_⟩
  exact (((((Ex.refl _ _).alloc _).alloc _).alloc _).trans hx).setCell _ _ (Or.inr (Nat.le_add_right _ 2))

theorem bIn_spec (w : World) (t u : TypeId) (x y : Value) :
    Calls Tryz.prog 226 #[.agg #[.iface t x], .agg #[.iface u y]] w fun e w' => e = .returned (.agg #[.iface 261 (.agg #[.iface t x, .iface u y])]) ∧ Ex No w w' := by
  go_enter Tryz.func226, Tryz.ntmps226
  go_wp2_with fail
  refine (newNode_spec _ _ _).mono ?_
  rintro e w1 ⟨rfl, hx⟩
  have c0 := hx.got (p := ⟨w.heap.size + 1 + 1, 0, none⟩) (by simp [go_sem]; rfl) no_
  have f0 := hx.thaw (p := ⟨w.heap.size + 1 + 1, 0, none⟩) (by simp [go_sem]; rfl) (by simp [go_sem]) no_
  go_wp2
  refine bodyPost_ret (v := .agg #[.iface 261 (.agg #[.iface t x, .iface u y])]) (by simp [results, Tryz.results226, go_sem, c0]) rfl ⟨rfl, ?_⟩
  exact (((((Ex.refl _ _).alloc _).alloc _).alloc _).trans hx).setCell _ _ (Or.inr (Nat.le_add_right _ 2))

theorem bAdd_spec (w : World) (t u : TypeId) (x y : Value) :
    Calls Tryz.prog 230 #[.agg #[.iface t x], .agg #[.iface u y]] w fun e w' => e = .returned (.agg #[.iface 268 (.agg #[.iface t x, .iface u y])]) ∧ Ex No w w' := by
  go_enter Tryz.func230, Tryz.ntmps230
  go_wp2_with fail
  refine (newNode_spec _ _ _).mono ?_
  rintro e w1 ⟨rfl, hx⟩
  have c0 := hx.got (p := ⟨w.heap.size + 1 + 1, 0, none⟩) (by simp [go_sem]; rfl) no_
  have f0 := hx.thaw (p := ⟨w.heap.size + 1 + 1, 0, none⟩) (by simp [go_sem]; rfl) (by simp [go_sem]) no_
  go_wp2
  refine bodyPost_ret (v := .agg #[.iface 268 (.agg #[.iface t x, .iface u y])]) (by simp [results, Tryz.results230, go_sem, c0]) rfl ⟨rfl, ?_⟩
  exact (((((Ex.refl _ _).alloc _).alloc _).alloc _).trans hx).setCell _ _ (Or.inr (Nat.le_add_right _ 2))

theorem bSubtract_spec (w : World) (t u : TypeId) (x y : Value) :
    Calls Tryz.prog 231 #[.agg #[.iface t x], .agg #[.iface u y]] w fun e w' => e = .returned (.agg #[.iface 267 (.agg #[.iface t x, .iface u y])]) ∧ Ex No w w' := by
  go_enter Tryz.func231, Tryz.ntmps231
  go_wp2_with fail
  refine (newNode_spec _ _ _).mono ?_
  rintro e w1 ⟨rfl, hx⟩
  have c0 := hx.got (p := ⟨w.heap.size + 1 + 1, 0, none⟩) (by simp [go_sem]; rfl) no_
  have f0 := hx.thaw (p := ⟨w.heap.size + 1 + 1, 0, none⟩) (by simp [go_sem]; rfl) (by simp [go_sem]) no_
  go_wp2
  refine bodyPost_ret (v := .agg #[.iface 267 (.agg #[.iface t x, .iface u y])]) (by simp [results, Tryz.results231, go_sem, c0]) rfl ⟨rfl, ?_⟩
  exact (((((Ex.refl _ _).alloc _).alloc _).alloc _).trans hx).setCell _ _ (Or.inr (Nat.le_add_right _ 2))

theorem bMultiply_spec (w : World) (t u : TypeId) (x y : Value) :
    Calls Tryz.prog 242 #[.agg #[.iface t x], .agg #[.iface u y]] w fun e w' => e = .returned (.agg #[.iface 269 (.agg #[.iface t x, .iface u y])]) ∧ Ex No w w' := by
  go_enter Tryz.func242, Tryz.ntmps242
  go_wp2_with fail
  refine (newNode_spec _ _ _).mono ?_
  rintro e w1 ⟨rfl, hx⟩
  have c0 := hx.got (p := ⟨w.heap.size + 1 + 1, 0, none⟩) (by simp [go_sem]; rfl) no_
  have f0 := hx.thaw (p := ⟨w.heap.size + 1 + 1, 0, none⟩) (by simp [go_sem]; rfl) (by simp [go_sem]) no_
  go_wp2
  refine bodyPost_ret (v := .agg #[.iface 269 (.agg #[.iface t x, .iface u y])]) (by simp [results, Tryz.results242, go_sem, c0]) rfl ⟨rfl, ?_⟩
  exact (((((Ex.refl _ _).alloc _).alloc _).alloc _).trans hx).setCell _ _ (Or.inr (Nat.le_add_right _ 2))

theorem bContains_spec (w : World) (t u : TypeId) (x y : Value) :
    Calls Tryz.prog 280 #[.agg #[.iface t x], .agg #[.iface u y]] w fun e w' => e = .returned (.agg #[.iface 270 (.agg #[.iface t x, .iface u y])]) ∧ Ex No w w' := by
  go_enter Tryz.func280, Tryz.ntmps280
  go_wp2_with fail
  refine (newNode_spec _ _ _).mono ?_
  rintro e w1 ⟨rfl, hx⟩
  have c0 := hx.got (p := ⟨w.heap.size + 1 + 1, 0, none⟩) (by simp [go_sem]; rfl) no_
  have f0 := hx.thaw (p := ⟨w.heap.size + 1 + 1, 0, none⟩) (by simp [go_sem]; rfl) (by simp [go_sem]) no_
  go_wp2
  refine bodyPost_ret (v := .agg #[.iface 270 (.agg #[.iface t x, .iface u y])]) (by simp [results, Tryz.results280, go_sem, c0]) rfl ⟨rfl, ?_⟩
  exact (((((Ex.refl _ _).alloc _).alloc _).alloc _).trans hx).setCell _ _ (Or.inr (Nat.le_add_right _ 2))

theorem bContainsAll_spec (w : World) (t u : TypeId) (x y : Value) :
    Calls Tryz.prog 281 #[.agg #[.iface t x], .agg #[.iface u y]] w fun e w' => e = .returned (.agg #[.iface 271 (.agg #[.iface t x, .iface u y])]) ∧ Ex No w w' := by
  go_enter Tryz.func281, Tryz.ntmps281
  go_wp2_with fail
  refine (newNode_spec _ _ _).mono ?_
  rintro e w1 ⟨rfl, hx⟩
  have c0 := hx.got (p := ⟨w.heap.size + 1 + 1, 0, none⟩) (by simp [go_sem]; rfl) no_
  have f0 := hx.thaw (p := ⟨w.heap.size + 1 + 1, 0, none⟩) (by simp [go_sem]; rfl) (by simp [go_sem]) no_
  go_wp2
  refine bodyPost_ret (v := .agg #[.iface 271 (.agg #[.iface t x, .iface u y])]) (by simp [results, Tryz.results281, go_sem, c0]) rfl ⟨rfl, ?_⟩
  exact (((((Ex.refl _ _).alloc _).alloc _).alloc _).trans hx).setCell _ _ (Or.inr (Nat.le_add_right _ 2))

theorem bContainsAny_spec (w : World) (t u : TypeId) (x y : Value) :
    Calls Tryz.prog 282 #[.agg #[.iface t x], .agg #[.iface u y]] w fun e w' => e = .returned (.agg #[.iface 272 (.agg #[.iface t x, .iface u y])]) ∧ Ex No w w' := by
  go_enter Tryz.func282, Tryz.ntmps282
  go_wp2_with fail
  refine (newNode_spec _ _ _).mono ?_
  rintro e w1 ⟨rfl, hx⟩
  have c0 := hx.got (p := ⟨w.heap.size + 1 + 1, 0, none⟩) (by simp [go_sem]; rfl) no_
  have f0 := hx.thaw (p := ⟨w.heap.size + 1 + 1, 0, none⟩) (by simp [go_sem]; rfl) (by simp [go_sem]) no_
  go_wp2
  refine bodyPost_ret (v := .agg #[.iface 272 (.agg #[.iface t x, .iface u y])]) (by simp [results, Tryz.results282, go_sem, c0]) rfl ⟨rfl, ?_⟩
  exact (((((Ex.refl _ _).alloc _).alloc _).alloc _).trans hx).setCell _ _ (Or.inr (Nat.le_add_right _ 2))

theorem bHasTag_spec (w : World) (t u : TypeId) (x y : Value) :
    Calls Tryz.prog 283 #[.agg #[.iface t x], .agg #[.iface u y]] w fun e w' => e = .returned (.agg #[.iface 262 (.agg #[.iface t x, .iface u y])]) ∧ Ex No w w' := by
  go_enter Tryz.func283, Tryz.ntmps283
  go_wp2_with fail
  refine (newNode_spec _ _ _).mono ?_
  rintro e w1 ⟨rfl, hx⟩
  have c0 := hx.got (p := ⟨w.heap.size + 1 + 1, 0, none⟩) (by simp [go_sem]; rfl) no_
  have f0 := hx.thaw (p := ⟨w.heap.size + 1 + 1, 0, none⟩) (by simp [go_sem]; rfl) (by simp [go_sem]) no_
  go_wp2
  refine bodyPost_ret (v := .agg #[.iface 262 (.agg #[.iface t x, .iface u y])]) (by simp [results, Tryz.results283, go_sem, c0]) rfl ⟨rfl, ?_⟩
  exact (((((Ex.refl _ _).alloc _).alloc _).alloc _).trans hx).setCell _ _ (Or.inr (Nat.le_add_right _ 2))

theorem bGetTag_spec (w : World) (t u : TypeId) (x y : Value) :
    Calls Tryz.prog 284 #[.agg #[.iface t x], .agg #[.iface u y]] w fun e w' => e = .returned (.agg #[.iface 263 (.agg #[.iface t x, .iface u y])]) ∧ Ex No w w' := by
  go_enter Tryz.func284, Tryz.ntmps284
  go_wp2_with fail
  refine (newNode_spec _ _ _).mono ?_
  rintro e w1 ⟨rfl, hx⟩
  have c0 := hx.got (p := ⟨w.heap.size + 1 + 1, 0, none⟩) (by simp [go_sem]; rfl) no_
  have f0 := hx.thaw (p := ⟨w.heap.size + 1 + 1, 0, none⟩) (by simp [go_sem]; rfl) (by simp [go_sem]) no_
  go_wp2
  refine bodyPost_ret (v := .agg #[.iface 263 (.agg #[.iface t x, .iface u y])]) (by simp [results, Tryz.results284, go_sem, c0]) rfl ⟨rfl, ?_⟩
  exact (((((Ex.refl _ _).alloc _).alloc _).alloc _).trans hx).setCell _ _ (Or.inr (Nat.le_add_right _ 2))

theorem uIsEmpty_spec (w : World) (t : TypeId) (x : Value) :
    Calls Tryz.prog 286 #[.agg #[.iface t x]] w fun e w' => e = .returned (.agg #[.iface 203 (.agg #[.iface t x])]) ∧ Ex No w w' := by
  go_enter Tryz.func286, Tryz.ntmps286
  go_wp2_with fail
  refine (newNode_spec _ _ _).mono ?_
  rintro e w1 ⟨rfl, hx⟩
  have c0 := hx.got (p := ⟨w.heap.size + 1, 0, none⟩) (by simp [go_sem]; rfl) no_
  have f0 := hx.thaw (p := ⟨w.heap.size + 1, 0, none⟩) (by simp [go_sem]; rfl) (by simp [go_sem]) no_
  go_wp2
  refine bodyPost_ret (v := .agg #[.iface 203 (.agg #[.iface t x])]) (by simp [results, Tryz.results286, go_sem, c0]) rfl ⟨rfl, ?_⟩
  exact ((((Ex.refl _ _).alloc _).alloc _).trans hx).setCell _ _ (Or.inr (Nat.le_succ _))

theorem uNegate_spec (w : World) (t : TypeId) (x : Value) :
    Calls Tryz.prog 253 #[.agg #[.iface t x]] w fun e w' => e = .returned (.agg #[.iface 201 (.agg #[.iface t x])]) ∧ Ex No w w' := by
  go_enter Tryz.func253, Tryz.ntmps253
  go_wp2_with fail
  refine (newNode_spec _ _ _).mono ?_
  rintro e w1 ⟨rfl, hx⟩
  have c0 := hx.got (p := ⟨w.heap.size + 1, 0, none⟩) (by simp [go_sem]; rfl) no_
  have f0 := hx.thaw (p := ⟨w.heap.size + 1, 0, none⟩) (by simp [go_sem]; rfl) (by simp [go_sem]) no_
  go_wp2
  refine bodyPost_ret (v := .agg #[.iface 201 (.agg #[.iface t x])]) (by simp [results, Tryz.results253, go_sem, c0]) rfl ⟨rfl, ?_⟩
  exact ((((Ex.refl _ _).alloc _).alloc _).trans hx).setCell _ _ (Or.inr (Nat.le_succ _))

theorem uNot_spec (w : World) (t : TypeId) (x : Value) :
    Calls Tryz.prog 254 #[.agg #[.iface t x]] w fun e w' => e = .returned (.agg #[.iface 202 (.agg #[.iface t x])]) ∧ Ex No w w' := by
  go_enter Tryz.func254, Tryz.ntmps254
  go_wp2_with fail
  refine (newNode_spec _ _ _).mono ?_
  rintro e w1 ⟨rfl, hx⟩
  have c0 := hx.got (p := ⟨w.heap.size + 1, 0, none⟩) (by simp [go_sem]; rfl) no_
  have f0 := hx.thaw (p := ⟨w.heap.size + 1, 0, none⟩) (by simp [go_sem]; rfl) (by simp [go_sem]) no_
  go_wp2
  refine bodyPost_ret (v := .agg #[.iface 202 (.agg #[.iface t x])]) (by simp [results, Tryz.results254, go_sem, c0]) rfl ⟨rfl, ?_⟩
  exact ((((Ex.refl _ _).alloc _).alloc _).trans hx).setCell _ _ (Or.inr (Nat.le_succ _))

end Go.Proofs.YtbepocojafbbbaaGreatDoor
