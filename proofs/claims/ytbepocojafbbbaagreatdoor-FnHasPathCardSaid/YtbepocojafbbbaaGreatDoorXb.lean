/- Expressions as plain data: 'plainExpr'. -/
import Derived.Test.YtbepocojafbbbaaGreatDoorXa
namespace Go.Proofs.YtbepocojafbbbaaGreatDoor
open Go.RowKit
set_option maxRecDepth 100000

theorem ta_179_175 (x : Value) (w : World) : Sem.run Tryz.prog (Instr.typeAssert (.iface 179 x) 117 175 true) w = .ok (.tuple #[.agg #[.nilIface], .bool false]) w := by kernel_rfl
theorem ta_179_179 (x : Value) (w : World) : Sem.run Tryz.prog (Instr.typeAssert (.iface 179 x) 117 179 true) w = .ok (.tuple #[x, .bool true]) w := by kernel_rfl
theorem ta_186_175 (x : Value) (w : World) : Sem.run Tryz.prog (Instr.typeAssert (.iface 186 x) 117 175 true) w = .ok (.tuple #[.agg #[.nilIface], .bool false]) w := by kernel_rfl
theorem ta_186_179 (x : Value) (w : World) : Sem.run Tryz.prog (Instr.typeAssert (.iface 186 x) 117 179 true) w = .ok (.tuple #[.agg #[.string ⟨#[]⟩], .bool false]) w := by kernel_rfl
theorem ta_186_181 (x : Value) (w : World) : Sem.run Tryz.prog (Instr.typeAssert (.iface 186 x) 117 181 true) w = .ok (.tuple #[.agg #[.nilIface, .nilIface, .nilIface], .bool false]) w := by kernel_rfl
theorem ta_186_186 (x : Value) (w : World) : Sem.run Tryz.prog (Instr.typeAssert (.iface 186 x) 117 186 true) w = .ok (.tuple #[x, .bool true]) w := by kernel_rfl
theorem ta_187_175 (x : Value) (w : World) : Sem.run Tryz.prog (Instr.typeAssert (.iface 187 x) 117 175 true) w = .ok (.tuple #[.agg #[.nilIface], .bool false]) w := by kernel_rfl
theorem ta_187_179 (x : Value) (w : World) : Sem.run Tryz.prog (Instr.typeAssert (.iface 187 x) 117 179 true) w = .ok (.tuple #[.agg #[.string ⟨#[]⟩], .bool false]) w := by kernel_rfl
theorem ta_187_181 (x : Value) (w : World) : Sem.run Tryz.prog (Instr.typeAssert (.iface 187 x) 117 181 true) w = .ok (.tuple #[.agg #[.nilIface, .nilIface, .nilIface], .bool false]) w := by kernel_rfl
theorem ta_187_186 (x : Value) (w : World) : Sem.run Tryz.prog (Instr.typeAssert (.iface 187 x) 117 186 true) w = .ok (.tuple #[.agg #[.nilIface, .string ⟨#[]⟩], .bool false]) w := by kernel_rfl
theorem ta_187_187 (x : Value) (w : World) : Sem.run Tryz.prog (Instr.typeAssert (.iface 187 x) 117 187 true) w = .ok (.tuple #[x, .bool true]) w := by kernel_rfl
theorem ta_254_175 (x : Value) (w : World) : Sem.run Tryz.prog (Instr.typeAssert (.iface 254 x) 117 175 true) w = .ok (.tuple #[.agg #[.nilIface], .bool false]) w := by kernel_rfl
theorem ta_254_179 (x : Value) (w : World) : Sem.run Tryz.prog (Instr.typeAssert (.iface 254 x) 117 179 true) w = .ok (.tuple #[.agg #[.string ⟨#[]⟩], .bool false]) w := by kernel_rfl
theorem ta_254_181 (x : Value) (w : World) : Sem.run Tryz.prog (Instr.typeAssert (.iface 254 x) 117 181 true) w = .ok (.tuple #[.agg #[.nilIface, .nilIface, .nilIface], .bool false]) w := by kernel_rfl
theorem ta_254_186 (x : Value) (w : World) : Sem.run Tryz.prog (Instr.typeAssert (.iface 254 x) 117 186 true) w = .ok (.tuple #[.agg #[.nilIface, .string ⟨#[]⟩], .bool false]) w := by kernel_rfl
theorem ta_254_187 (x : Value) (w : World) : Sem.run Tryz.prog (Instr.typeAssert (.iface 254 x) 117 187 true) w = .ok (.tuple #[.agg #[.nilIface, .string ⟨#[]⟩], .bool false]) w := by kernel_rfl
theorem ta_254_192 (x : Value) (w : World) : Sem.run Tryz.prog (Instr.typeAssert (.iface 254 x) 117 192 true) w = .ok (.tuple #[.agg #[.nilIface, .slice none 0 0], .bool false]) w := by kernel_rfl
theorem ta_254_195 (x : Value) (w : World) : Sem.run Tryz.prog (Instr.typeAssert (.iface 254 x) 117 195 true) w = .ok (.tuple #[.agg #[.nilIface, .string ⟨#[]⟩], .bool false]) w := by kernel_rfl
theorem ta_254_197 (x : Value) (w : World) : Sem.run Tryz.prog (Instr.typeAssert (.iface 254 x) 117 197 true) w = .ok (.tuple #[.agg #[.nilIface, .string ⟨#[]⟩, .nilIface], .bool false]) w := by kernel_rfl
theorem ta_254_201 (x : Value) (w : World) : Sem.run Tryz.prog (Instr.typeAssert (.iface 254 x) 117 201 true) w = .ok (.tuple #[.agg #[.nilIface], .bool false]) w := by kernel_rfl
theorem ta_254_202 (x : Value) (w : World) : Sem.run Tryz.prog (Instr.typeAssert (.iface 254 x) 117 202 true) w = .ok (.tuple #[.agg #[.nilIface], .bool false]) w := by kernel_rfl
theorem ta_254_203 (x : Value) (w : World) : Sem.run Tryz.prog (Instr.typeAssert (.iface 254 x) 117 203 true) w = .ok (.tuple #[.agg #[.nilIface], .bool false]) w := by kernel_rfl
theorem ta_254_207 (x : Value) (w : World) : Sem.run Tryz.prog (Instr.typeAssert (.iface 254 x) 117 207 true) w = .ok (.tuple #[.agg #[.string ⟨#[]⟩, .slice none 0 0], .bool false]) w := by kernel_rfl
theorem ta_254_209 (x : Value) (w : World) : Sem.run Tryz.prog (Instr.typeAssert (.iface 254 x) 117 209 true) w = .ok (.tuple #[.agg #[.slice none 0 0], .bool false]) w := by kernel_rfl
theorem ta_254_212 (x : Value) (w : World) : Sem.run Tryz.prog (Instr.typeAssert (.iface 254 x) 117 212 true) w = .ok (.tuple #[.agg #[.slice none 0 0], .bool false]) w := by kernel_rfl
theorem ta_254_252 (x : Value) (w : World) : Sem.run Tryz.prog (Instr.typeAssert (.iface 254 x) 117 252 true) w = .ok (.tuple #[.agg #[.nilIface, .nilIface], .bool false]) w := by kernel_rfl
theorem ta_254_254 (x : Value) (w : World) : Sem.run Tryz.prog (Instr.typeAssert (.iface 254 x) 117 254 true) w = .ok (.tuple #[x, .bool true]) w := by kernel_rfl

theorem plain_var (s : ByteArray) (w : World) : Calls Tryz.prog 46 #[.iface 179 (.agg #[.string s])] w (PE (.mk 2 s []) w) := by
  have t1 := ta_179_175
  have t2 := ta_179_179
  go_enter Tryz.func46, Tryz.ntmps46
  go_wp2
  refine bodyPost_ret (v := .tuple #[.agg (xc 2 s none 0 0), .bool true]) (by simp [results, Tryz.results46, go_sem, xc]) rfl ⟨none, 0, 0, rfl, ?_, ?_⟩
  · exact .mk 2 s [] none 0 0 0 (fun _ => (none, 0, 0)) rfl (fun h => by omega) (fun h => by omega) (fun j hj => by simp at hj) (fun j hj => by simp at hj)
  · exact ((Ex.refl _ _).alloc _).alloc _

/-- The result of 'many' is handed on through the caller's own result block. -/
theorem PE.on {e : E} {w w0 w1 w2 : World} {A : Option Addr} {n c : Nat} (hw0 : Ex No w w0) (hER : ER w1 (From w0.heap.size) e A n c) (hx : Ex No w0 w1) (r : Nat) (hr : w.heap.size ≤ r) (hr2 : r < w0.heap.size)
    (h2 : Ex (On r) w1 w2) : ER w2 (From w.heap.size) e A n c ∧ Ex No w w2 := by
  have s0 := hw0.size
  refine ⟨hER.keep h2 (fun b hb h => by unfold From at hb; unfold On at h; omega) (fun b _ hb => by unfold From at *; omega), ?_⟩
  exact (hw0.trans hx).trans' h2 (fun i hi h => by unfold On at h; omega)

theorem many1 (op : Int) (s : ByteArray) (e : E) (t : TypeId) (y : Value) (g c : Nat) (w : World) (hc : w.cell? ⟨g, 0, none⟩ = some (.iface t y))
    (h : ∀ W, Ex No w W → Calls Tryz.prog 46 #[.iface t y] W (PE e W)) : Calls Tryz.prog 62 #[.int .i64 op, .string s, .slice (some ⟨g, 0, none⟩) 1 c] w (PE (.mk op s [e]) w) :=
  many_spec op s [e] [.iface t y] g c w rfl (by simp) (fun j hj => by obtain rfl : j = 0 := by simpa using hj
                                                                      exact hc)
    (fun j hj => by obtain rfl : j = 0 := by simpa using hj
                    exact ⟨t, y, rfl⟩)
    (fun j hj W hW => by obtain rfl : j = 0 := by simpa using hj
                         exact h W hW)
theorem many2 (op : Int) (s : ByteArray) (e1 e2 : E) (t1 t2 : TypeId) (y1 y2 : Value) (g c : Nat) (w : World) (hc : w.cell? ⟨g, 0, none⟩ = some (.iface t1 y1)) (hc2 : w.cell? ⟨g, 1, none⟩ = some (.iface t2 y2))
    (h : ∀ W, Ex No w W → Calls Tryz.prog 46 #[.iface t1 y1] W (PE e1 W)) (h2 : ∀ W, Ex No w W → Calls Tryz.prog 46 #[.iface t2 y2] W (PE e2 W)) :
    Calls Tryz.prog 62 #[.int .i64 op, .string s, .slice (some ⟨g, 0, none⟩) 2 c] w (PE (.mk op s [e1, e2]) w) :=
  many_spec op s [e1, e2] [.iface t1 y1, .iface t2 y2] g c w rfl (by simp)
    (fun j hj => by
      match j, hj with
      | 0, _ => exact hc
      | 1, _ => exact hc2)
    (fun j hj => by
      match j, hj with
      | 0, _ => exact ⟨t1, y1, rfl⟩
      | 1, _ => exact ⟨t2, y2, rfl⟩)
    (fun j hj W hW => by
      match j, hj with
      | 0, _ => exact h W hW
      | 1, _ => exact h2 W hW)

theorem plain_has (t : TypeId) (y : Value) (s : ByteArray) (e : E) (w : World) (h : ∀ W, Ex No w W → Calls Tryz.prog 46 #[.iface t y] W (PE e W)) :
    Calls Tryz.prog 46 #[.iface 186 (.agg #[.iface t y, .string s])] w (PE (.mk 13 s [e]) w) := by
  have t0 := ta_186_175
  have t1 := ta_186_179
  have t2 := ta_186_181
  have t3 := ta_186_186
  have H := Lib.hid h
  clear h
  go_enter Tryz.func46, Tryz.ntmps46
  go_wp2_with fail
  have hA : ∀ o o' o'' : Obj, Ex No w (((w.alloc o).alloc o').alloc o'') := fun _ _ _ => (((Ex.refl _ _).alloc _).alloc _).alloc _
  refine (many1 13 s e t y _ _ _ (by simp [go_sem]) (fun W hW => H.out W ((hA _ _ _).trans hW))).mono ?_
  rintro e' w1 ⟨A, n, c, rfl, hER, hx⟩
  have B : Blk w1 w.heap.size (xc 0 ⟨#[]⟩ none 0 0) 30 := (Blk.new w (xc 0 ⟨#[]⟩ none 0 0) 30).ex ((((Ex.refl No (w.alloc (.cells (xc 0 ⟨#[]⟩ none 0 0) 30))).alloc _).alloc _).trans hx) no_
  have rc := B.cell
  have rf := B.free
  have rl := B.lt
  simp only [xc, E.op, E.s] at rc ⊢
  go_wp2
  refine bodyPost_ret (v := .tuple #[.agg (xc 13 s A n c), .bool true]) (by simp [results, Tryz.results46, go_sem, rc, xc]) rfl ⟨A, n, c, rfl, PE.on (hA _ _ _) hER hx w.heap.size (Nat.le_refl _) (by simp only [World.size_alloc]; omega) ?_⟩
  repeat (with_reducible first | exact Ex.refl _ _ | refine Ex.setCell ?_ _ _ (Or.inl (On.self _)))

theorem plain_access (t : TypeId) (y : Value) (s : ByteArray) (e : E) (w : World) (h : ∀ W, Ex No w W → Calls Tryz.prog 46 #[.iface t y] W (PE e W)) :
    Calls Tryz.prog 46 #[.iface 187 (.agg #[.iface t y, .string s])] w (PE (.mk 23 s [e]) w) := by
  have t0 := ta_187_175
  have t1 := ta_187_179
  have t2 := ta_187_181
  have t3 := ta_187_186
  have t4 := ta_187_187
  have H := Lib.hid h
  clear h
  go_enter Tryz.func46, Tryz.ntmps46
  go_wp2_with fail
  have hA : ∀ o o' o'' : Obj, Ex No w (((w.alloc o).alloc o').alloc o'') := fun _ _ _ => (((Ex.refl _ _).alloc _).alloc _).alloc _
  refine (many1 23 s e t y _ _ _ (by simp [go_sem]) (fun W hW => H.out W ((hA _ _ _).trans hW))).mono ?_
  rintro e' w1 ⟨A, n, c, rfl, hER, hx⟩
  have B : Blk w1 w.heap.size (xc 0 ⟨#[]⟩ none 0 0) 30 := (Blk.new w (xc 0 ⟨#[]⟩ none 0 0) 30).ex ((((Ex.refl No (w.alloc (.cells (xc 0 ⟨#[]⟩ none 0 0) 30))).alloc _).alloc _).trans hx) no_
  have rc := B.cell
  have rf := B.free
  have rl := B.lt
  simp only [xc, E.op, E.s] at rc ⊢
  go_wp2
  refine bodyPost_ret (v := .tuple #[.agg (xc 23 s A n c), .bool true]) (by simp [results, Tryz.results46, go_sem, rc, xc]) rfl ⟨A, n, c, rfl, PE.on (hA _ _ _) hER hx w.heap.size (Nat.le_refl _) (by simp only [World.size_alloc]; omega) ?_⟩
  repeat (with_reducible first | exact Ex.refl _ _ | refine Ex.setCell ?_ _ _ (Or.inl (On.self _)))

theorem two_and (t1 t2 : TypeId) (y1 y2 : Value) (op : Int) (e1 e2 : E) (w : World) (h : ∀ W, Ex No w W → Calls Tryz.prog 46 #[.iface t1 y1] W (PE e1 W)) (h2 : ∀ W, Ex No w W → Calls Tryz.prog 46 #[.iface t2 y2] W (PE e2 W)) :
    Calls Tryz.prog 92 #[.int .i64 op, .agg #[.iface t1 y1, .iface t2 y2]] w (PE (.mk op ⟨#[]⟩ [e1, e2]) w) := by
  have H := Lib.hid h
  have H2 := Lib.hid h2
  clear h h2
  go_enter Tryz.func92, Tryz.ntmps92
  go_wp2_with fail
  have hA : ∀ o o' o'' : Obj, Ex No w (((w.alloc o).alloc o').alloc o'') := fun _ _ _ => (((Ex.refl _ _).alloc _).alloc _).alloc _
  refine (many2 op ⟨#[]⟩ e1 e2 t1 t2 y1 y2 _ _ _ (by simp [go_sem]) (by simp [go_sem]) (fun W hW => H.out W ((hA _ _ _).trans hW)) (fun W hW => H2.out W ((hA _ _ _).trans hW))).mono ?_
  rintro e' w1 ⟨A, n, c, rfl, hER, hx⟩
  have hB0 := (Blk.new (w.alloc (.cells #[.iface t1 y1, .iface t2 y2] 250)) (xc 0 ⟨#[]⟩ none 0 0) 30).ex (((Ex.refl No _).alloc _).trans hx) no_
  have B : Blk w1 (w.heap.size + 1) (xc 0 ⟨#[]⟩ none 0 0) 30 := by simpa using hB0
  clear hB0
  have rc := B.cell
  have rf := B.free
  have rl := B.lt
  simp only [xc, E.op, E.s] at rc ⊢
  go_wp2
  refine bodyPost_ret (v := .tuple #[.agg (xc op ⟨#[]⟩ A n c), .bool true]) (by simp [results, Tryz.results92, go_sem, rc, xc]) rfl ⟨A, n, c, rfl, PE.on (hA _ _ _) hER hx (w.heap.size + 1) (Nat.le_succ _) (by simp only [World.size_alloc]; omega) ?_⟩
  repeat (with_reducible first | exact Ex.refl _ _ | refine Ex.setCell ?_ _ _ (Or.inl (On.self _)))

theorem binary_and (t1 t2 : TypeId) (y1 y2 : Value) (e1 e2 : E) (w : World) (h : ∀ W, Ex No w W → Calls Tryz.prog 46 #[.iface t1 y1] W (PE e1 W)) (h2 : ∀ W, Ex No w W → Calls Tryz.prog 46 #[.iface t2 y2] W (PE e2 W)) :
    Calls Tryz.prog 64 #[.iface 254 (.agg #[.iface t1 y1, .iface t2 y2])] w (PE (.mk 5 ⟨#[]⟩ [e1, e2]) w) := by
  have q1 := ta_254_252
  have q2 := ta_254_254
  have H := Lib.hid h
  have H2 := Lib.hid h2
  clear h h2
  go_enter Tryz.func64, Tryz.ntmps64
  go_wp2_with fail
  have hA : ∀ o o' : Obj, Ex No w ((w.alloc o).alloc o') := fun _ _ => ((Ex.refl _ _).alloc _).alloc _
  refine (two_and t1 t2 y1 y2 5 e1 e2 _ (fun W hW => H.out W ((hA _ _).trans hW)) (fun W hW => H2.out W ((hA _ _).trans hW))).mono ?_
  rintro e' w1 ⟨A, n, c, rfl, hER, hx⟩
  have B : Blk w1 w.heap.size (xc 0 ⟨#[]⟩ none 0 0) 30 := (Blk.new w (xc 0 ⟨#[]⟩ none 0 0) 30).ex (((Ex.refl No (w.alloc (.cells (xc 0 ⟨#[]⟩ none 0 0) 30))).alloc _).trans hx) no_
  have rc := B.cell
  have rf := B.free
  have rl := B.lt
  simp only [xc, E.op, E.s] at rc ⊢
  go_wp2
  refine bodyPost_ret (v := .tuple #[.agg (xc 5 ⟨#[]⟩ A n c), .bool true]) (by simp [results, Tryz.results64, go_sem, rc, xc]) rfl ⟨A, n, c, rfl, PE.on (hA _ _) hER hx w.heap.size (Nat.le_refl _) (by simp only [World.size_alloc]; omega) ?_⟩
  repeat (with_reducible first | exact Ex.refl _ _ | refine Ex.setCell ?_ _ _ (Or.inl (On.self _)))

theorem plain_and (t1 t2 : TypeId) (y1 y2 : Value) (e1 e2 : E) (w : World) (h : ∀ W, Ex No w W → Calls Tryz.prog 46 #[.iface t1 y1] W (PE e1 W)) (h2 : ∀ W, Ex No w W → Calls Tryz.prog 46 #[.iface t2 y2] W (PE e2 W)) :
    Calls Tryz.prog 46 #[.iface 254 (.agg #[.iface t1 y1, .iface t2 y2])] w (PE (.mk 5 ⟨#[]⟩ [e1, e2]) w) := by
  have q175 := ta_254_175
  have q179 := ta_254_179
  have q181 := ta_254_181
  have q186 := ta_254_186
  have q187 := ta_254_187
  have q192 := ta_254_192
  have q195 := ta_254_195
  have q197 := ta_254_197
  have q201 := ta_254_201
  have q202 := ta_254_202
  have q203 := ta_254_203
  have q207 := ta_254_207
  have q209 := ta_254_209
  have q212 := ta_254_212
  have H := Lib.hid h
  have H2 := Lib.hid h2
  clear h h2
  go_enter Tryz.func46, Tryz.ntmps46
  go_wp2_with fail
  have hA : ∀ o : Obj, Ex No w (w.alloc o) := fun _ => (Ex.refl _ _).alloc _
  refine (binary_and t1 t2 y1 y2 e1 e2 _ (fun W hW => H.out W ((hA _).trans hW)) (fun W hW => H2.out W ((hA _).trans hW))).mono ?_
  rintro e' w1 ⟨A, n, c, rfl, hER, hx⟩
  have B : Blk w1 w.heap.size (xc 0 ⟨#[]⟩ none 0 0) 30 := (Blk.new w (xc 0 ⟨#[]⟩ none 0 0) 30).ex hx no_
  have rc := B.cell
  have rf := B.free
  have rl := B.lt
  simp only [xc, E.op, E.s] at rc ⊢
  go_wp2
  refine bodyPost_ret (v := .tuple #[.agg (xc 5 ⟨#[]⟩ A n c), .bool true]) (by simp [results, Tryz.results46, go_sem, rc, xc]) rfl ⟨A, n, c, rfl, PE.on (hA _) hER hx w.heap.size (Nat.le_refl _) (by simp only [World.size_alloc]; omega) ?_⟩
  repeat (with_reducible first | exact Ex.refl _ _ | refine Ex.setCell ?_ _ _ (Or.inl (On.self _)))
end Go.Proofs.YtbepocojafbbbaaGreatDoor
