/- Support: worlds that agree but for some blocks; the parser's state; its tokens. -/
import Derived.Test.YtbepocojafbbbaaGreatDoorProg
import Derived.WalkKit
import Derived.Lib.Hide
import Derived.Outline
import Derived.BigRegion
import Derived.BigQuiet
import Derived.Deep.QuietTactic
import Derived.WalkLawsBesides
import Derived.WalkSpells
namespace Go.Proofs.YtbepocojafbbbaaGreatDoor
open Go.RowKit

/-- All old blocks but those of S are as they were. -/
structure Ex (S : Nat → Prop) (w w' : World) : Prop where
  os : w'.os = w.os
  tape : w'.tape = w.tape
  output : w'.output = w.output
  size : w.heap.size ≤ w'.heap.size
  block : ∀ k, k < w.heap.size → ¬ S k → w'.heap[k]? = w.heap[k]?

def No : Nat → Prop := fun _ => False
def On (b : Nat) : Nat → Prop := fun k => k = b

theorem On.self (b : Nat) : On b b := rfl
theorem Ex.refl (S : Nat → Prop) (w : World) : Ex S w w := ⟨rfl, rfl, rfl, Nat.le_refl _, fun _ _ _ => rfl⟩
theorem Ex.trans' {S S' : Nat → Prop} {a b c : World} (h : Ex S a b) (k : Ex S' b c) (hS : ∀ i, i < a.heap.size → S' i → S i) : Ex S a c :=
  ⟨k.os.trans h.os, k.tape.trans h.tape, k.output.trans h.output, Nat.le_trans h.size k.size,
   fun i hi hn => (k.block i (Nat.lt_of_lt_of_le hi h.size) (fun hs => hn (hS i hi hs))).trans (h.block i hi hn)⟩
theorem Ex.trans {S : Nat → Prop} {a b c : World} (h : Ex S a b) (k : Ex S b c) : Ex S a c := h.trans' k (fun _ _ h => h)
theorem Ex.no {S : Nat → Prop} {a b c : World} (h : Ex S a b) (k : Ex No b c) : Ex S a c := h.trans' k (fun _ _ h => h.elim)
theorem Ex.mono {S S' : Nat → Prop} {a b : World} (h : Ex S a b) (hS : ∀ i, S i → S' i) : Ex S' a b :=
  ⟨h.os, h.tape, h.output, h.size, fun i hi hn => h.block i hi (fun hs => hn (hS i hs))⟩
theorem Ex.of_no {S : Nat → Prop} {a b : World} (h : Ex No a b) : Ex S a b := h.mono (fun _ h => h.elim)
theorem Ex.drew {S : Nat → Prop} {a w : World} (h : Ex S a w) : Ex S a w.drew := ⟨h.os, h.tape, h.output, h.size, h.block⟩
theorem Ex.alloc {S : Nat → Prop} {a w : World} (h : Ex S a w) (o : Obj) : Ex S a (w.alloc o) :=
  h.trans ⟨rfl, rfl, rfl, by simp, fun k hk _ => Below.heap_alloc _ _ _ hk⟩
theorem Ex.setCell {S : Nat → Prop} {a w : World} (h : Ex S a w) (p : Addr) (u : Value) (hp : S p.block ∨ a.heap.size ≤ p.block) : Ex S a (w.setCell p u) :=
  ⟨h.os, h.tape, h.output, by simpa using h.size, fun k hk hn => by
    rw [Below.heap_setCell _ _ _ _ (by rintro rfl; rcases hp with hp | hp; exact hn hp; omega)]; exact h.block k hk hn⟩
theorem Ex.cell {S : Nat → Prop} {w w' : World} (h : Ex S w w') {p : Addr} (hp : p.block < w.heap.size) (hn : ¬ S p.block) : w'.cell? p = w.cell? p :=
  World.cell?_of_block (w := w) (h.block p.block hp hn)
theorem Ex.frozen {S : Nat → Prop} {w w' : World} (h : Ex S w w') {p : Addr} (hp : p.block < w.heap.size) (hn : ¬ S p.block) : w'.frozen? p = w.frozen? p :=
  World.frozen?_of_block (w := w) (h.block p.block hp hn)
theorem Ex.below {w w' : World} (h : Ex No w w') : Below w.heap.size w w' := ⟨h.os, h.tape, h.output, h.size, fun k hk => h.block k hk (fun h => h)⟩
theorem Ex.of_below {S : Nat → Prop} {w w' : World} (h : Below w.heap.size w w') : Ex S w w' := ⟨h.os, h.tape, h.output, h.size, fun k hk _ => h.block k hk⟩
theorem Ex.of_drewN {S : Nat → Prop} {a w : World} (h : Ex S a w) (n : Nat) : Ex S a (w.drewN n) := by
  refine h.trans ⟨?_, ?_, ?_, ?_, fun k hk _ => ?_⟩ <;> simp [World.drewN]

theorem some_lt {w : World} {a : Addr} {v : Value} (h : w.cell? a = some v) : a.block < w.heap.size := by
  unfold World.cell? at h
  by_cases hb : a.block < w.heap.size
  · exact hb
  · rw [Array.getElem?_eq_none (by omega)] at h; simp at h

theorem Ex.got {S : Nat → Prop} {w w' : World} (h : Ex S w w') {p : Addr} {v : Value} (hv : w.cell? p = some v) (hn : ¬ S p.block) : w'.cell? p = some v :=
  (h.cell (some_lt hv) hn).trans hv
theorem Ex.thaw {S : Nat → Prop} {w w' : World} (h : Ex S w w') {p : Addr} {v : Value} (hv : w.cell? p = some v) (hf : w.frozen? p = false) (hn : ¬ S p.block) : w'.frozen? p = false :=
  (h.frozen (some_lt hv) hn).trans hf
theorem Ex.all {S : Nat → Prop} {w w' : World} (h : Ex S w w') {b : Nat} {f : Nat → Option Value} (hv : ∀ i, w.cell? ⟨b, i, none⟩ = f i) (hb : b < w.heap.size) (hn : ¬ S b) : ∀ i, w'.cell? ⟨b, i, none⟩ = f i :=
  fun i => (h.cell (p := ⟨b, i, none⟩) hb hn).trans (hv i)
theorem no_ {k : Nat} : ¬ No k := fun h => h
theorem new_cell (w : World) (c : Array Value) (t : TypeId) (i : Nat) : (w.alloc (.cells c t)).cell? ⟨w.heap.size, i, none⟩ = c[i]? := World.cell?_alloc_at _ _ _ _ rfl
theorem new_free (w : World) (c : Array Value) (t : TypeId) (i : Nat) : (w.alloc (.cells c t)).frozen? ⟨w.heap.size, i, none⟩ = false := World.frozen?_alloc_at _ _ _ _ rfl

/-- A block known whole. -/
def Blk (w : World) (b : Nat) (c : Array Value) (e : TypeId) : Prop := w.heap[b]? = some (.cells c e (0, 0))
theorem Blk.lt {w : World} {b : Nat} {c : Array Value} {e : TypeId} (h : Blk w b c e) : b < w.heap.size := by
  unfold Blk at h
  by_cases hb : b < w.heap.size
  · exact hb
  · rw [Array.getElem?_eq_none (by omega)] at h; simp at h
theorem Blk.cell {w : World} {b : Nat} {c : Array Value} {e : TypeId} (h : Blk w b c e) (i : Nat) : w.cell? ⟨b, i, none⟩ = c[i]? := by
  unfold Blk at h; simp [World.cell?, h]
theorem Blk.free {w : World} {b : Nat} {c : Array Value} {e : TypeId} (h : Blk w b c e) (i : Nat) : w.frozen? ⟨b, i, none⟩ = false := by
  unfold Blk at h; simp [World.frozen?, h]
theorem Blk.ex {S : Nat → Prop} {w w' : World} {b : Nat} {c : Array Value} {e : TypeId} (h : Blk w b c e) (hx : Ex S w w') (hn : ¬ S b) : Blk w' b c e :=
  (hx.block b h.lt hn).trans h
theorem Blk.new (w : World) (c : Array Value) (e : TypeId) : Blk (w.alloc (.cells c e)) w.heap.size c e := by
  show (w.heap.push _)[w.heap.size]? = _; simp
theorem Blk.set {w : World} {b : Nat} {c : Array Value} {e : TypeId} (h : Blk w b c e) (i : Nat) (v : Value) : Blk (w.setCell ⟨b, i, none⟩ v) b (c.setIfInBounds i v) e := by
  unfold Blk at h ⊢
  simp [World.setCell, Array.getElem?_modify, h]
theorem Blk.set_other {w : World} {b : Nat} {c : Array Value} {e : TypeId} (h : Blk w b c e) (a : Addr) (v : Value) (hn : a.block ≠ b) : Blk (w.setCell a v) b c e := by
  unfold Blk at h ⊢
  rw [Below.heap_setCell _ _ _ _ (fun e => hn e.symm)]; exact h

/-- A token. -/
structure TokC where
  ty : Int
  fn : ByteArray
  o : Int
  l : Int
  c : Int
  tx : ByteArray
instance : Inhabited TokC := ⟨⟨0, ByteArray.empty, 0, 0, 0, ByteArray.empty⟩⟩
def TokC.cells (t : TokC) : Array Value := #[.int .i64 t.ty, .string t.fn, .int .i64 t.o, .int .i64 t.l, .int .i64 t.c, .string t.tx]
def TokC.val (t : TokC) : Value := .agg #[.int .i64 t.ty, .string t.fn, .int .i64 t.o, .int .i64 t.l, .int .i64 t.c, .string t.tx]
def TokAt (w : World) (tb o : Nat) (t : TokC) : Prop :=
  w.cell? ⟨tb, o, none⟩ = some (.int .i64 t.ty) ∧ w.cell? ⟨tb, o + 1, none⟩ = some (.string t.fn) ∧ w.cell? ⟨tb, o + 2, none⟩ = some (.int .i64 t.o) ∧
  w.cell? ⟨tb, o + 3, none⟩ = some (.int .i64 t.l) ∧ w.cell? ⟨tb, o + 4, none⟩ = some (.int .i64 t.c) ∧ w.cell? ⟨tb, o + 5, none⟩ = some (.string t.tx)
theorem TokAt.ex {S : Nat → Prop} {w w' : World} {tb o : Nat} {t : TokC} (h : TokAt w tb o t) (hx : Ex S w w') (hn : ¬ S tb) : TokAt w' tb o t := by
  have hb := some_lt h.1
  simp only [TokAt] at h ⊢
  rw [hx.cell (p := ⟨tb, o, none⟩) hb hn, hx.cell (p := ⟨tb, o + 1, none⟩) hb hn, hx.cell (p := ⟨tb, o + 2, none⟩) hb hn, hx.cell (p := ⟨tb, o + 3, none⟩) hb hn, hx.cell (p := ⟨tb, o + 4, none⟩) hb hn, hx.cell (p := ⟨tb, o + 5, none⟩) hb hn]
  exact h

/-- A parser: its block, the block of its tokens. -/
structure PX where
  b : Nat
  tb : Nat
  cap : Nat
  toks : List TokC
def PX.n (X : PX) : Nat := X.toks.length
def PX.tok (X : PX) (k : Nat) : TokC := X.toks.getD k default
def PX.nx (X : PX) (k : Nat) : Nat := if k + 1 < X.n then k + 1 else k

/-- The parser stands at token k. -/
structure PSt (X : PX) (k : Nat) (w : World) : Prop where
  hb : X.b < w.heap.size
  htb : X.tb < w.heap.size
  ne : X.tb ≠ X.b
  toks : w.cell? ⟨X.b, 0, none⟩ = some (.slice (some ⟨X.tb, 0, none⟩) X.n X.cap)
  pos : w.cell? ⟨X.b, 1, none⟩ = some (.int .i64 k)
  free : w.frozen? ⟨X.b, 1, none⟩ = false
  lt : k < X.n
  big : X.n ≤ 100000000000
  at_ : ∀ j, j < X.n → TokAt w X.tb (j * 6) (X.tok j)

theorem PSt.ex' {S : Nat → Prop} {X : PX} {k : Nat} {w w' : World} (h : PSt X k w) (hx : Ex S w w') (n1 : ¬ S X.b) (n2 : ¬ S X.tb) : PSt X k w' where
  hb := Nat.lt_of_lt_of_le h.hb hx.size
  htb := Nat.lt_of_lt_of_le h.htb hx.size
  ne := h.ne
  toks := by rw [hx.cell h.hb n1]; exact h.toks
  pos := by rw [hx.cell h.hb n1]; exact h.pos
  free := by rw [hx.frozen h.hb n1]; exact h.free
  lt := h.lt
  big := h.big
  at_ := fun j hj => (h.at_ j hj).ex hx n2
theorem PSt.ex {X : PX} {k : Nat} {w w' : World} (h : PSt X k w) (hx : Ex No w w') : PSt X k w' := h.ex' hx (fun h => h) (fun h => h)
def From (B : Nat) : Nat → Prop := fun k => B ≤ k
theorem PSt.from {B : Nat} {X : PX} {k : Nat} {w w' : World} (h : PSt X k w) (hx : Ex (From B) w w') (h1 : X.b < B) (h2 : X.tb < B) : PSt X k w' :=
  h.ex' hx (fun h => Nat.not_lt.2 h h1) (fun h => Nat.not_lt.2 h h2)

theorem PSt.set {X : PX} {k k' : Nat} {w : World} (h : PSt X k w) (hk : k' < X.n) (v : Value) (hv : v = .int .i64 k') : PSt X k' (w.setCell ⟨X.b, 1, none⟩ v) where
  hb := by simpa using h.hb
  htb := by simpa using h.htb
  ne := h.ne
  toks := by rw [World.cell?_setCell_other _ _ _ _ (by simp)]; exact h.toks
  pos := by rw [World.cell?_setCell_same _ _ _ h.pos, hv]
  free := by simpa using h.free
  lt := hk
  big := h.big
  at_ := fun j hj => (h.at_ j hj).ex (S := On X.b) ((Ex.refl _ _).setCell _ _ (Or.inl rfl)) (fun e => h.ne e)

theorem PSt.nx_lt {X : PX} {k : Nat} {w : World} (h : PSt X k w) : X.nx k < X.n := by
  have := h.lt
  unfold PX.nx; split <;> omega

end Go.Proofs.YtbepocojafbbbaaGreatDoor
