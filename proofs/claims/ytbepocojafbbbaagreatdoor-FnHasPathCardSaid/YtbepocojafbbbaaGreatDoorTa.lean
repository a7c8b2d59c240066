/- The scanner: one sign read inside the buffer. -/
import Derived.Test.YtbepocojafbbbaaGreatDoorXe
namespace Go.Proofs.YtbepocojafbbbaaGreatDoor
open Go.RowKit
set_option maxRecDepth 100000

theorem Ex.own {b : Nat} {a w : World} (h : Ex (On b) a w) (i : Nat) (v : Value) : Ex (On b) a (w.setCell ⟨b, i, none⟩ v) := h.setCell _ _ (Or.inl rfl)

/-- The scanner's cells, while it stands at place p of the text T, which lies in its buffer. -/
structure Sc (cs : Array Value) (T : List UInt8) (p : Nat) (lc tp : Int) : Prop where
  size : cs.size = 1044
  short : T.length ≤ 1000
  bytes : ∀ i, i < T.length → cs[1 + i]? = some (.int .u8 (T.getD i 0).toNat)
  mark : cs[1 + T.length]? = some (.int .u8 128)
  pos : cs[1026]? = some (.int .i64 p)
  fin : cs[1027]? = some (.int .i64 T.length)
  base : ∃ v, cs[1028]? = some (.int .i64 v)
  line : ∃ v, cs[1029]? = some (.int .i64 v)
  column : ∃ v, cs[1030]? = some (.int .i64 v)
  lline : ∃ v, cs[1031]? = some (.int .i64 v)
  lc : cs[1032]? = some (.int .i64 lc)
  tb : cs[1033]? = some (.slice none 0 0)
  to : cs[1034]? = some (.int .i64 0)
  tr : cs[1035]? = some (.int .i8 0)
  tp : cs[1036]? = some (.int .i64 tp)
  te : ∃ v, cs[1037]? = some (.int .i64 v)
  err : cs[1039]? = some .nilIface
  pfn : ∃ v, cs[1040]? = some (.string v)
  po : ∃ v, cs[1041]? = some (.int .i64 v)
  pl : ∃ v, cs[1042]? = some (.int .i64 v)
  pc : ∃ v, cs[1043]? = some (.int .i64 v)

theorem set_at {cs : Array Value} {v : Value} {i : Nat} (h : cs.size = 1044) (hi : i < 1044) : (cs.setIfInBounds i v)[i]? = some v := by
  rw [Array.getElem?_setIfInBounds_self_of_lt (by omega)]
theorem Sc.setPos {cs : Array Value} {T : List UInt8} {p : Nat} {lc tp : Int} (h : Sc cs T p lc tp) (q : Nat) : Sc (cs.setIfInBounds 1026 (.int .i64 q)) T q lc tp where
  size := by simpa using h.size
  short := h.short
  bytes := fun i hi => by have := h.short; rw [Array.getElem?_setIfInBounds_ne (by omega)]; exact h.bytes i hi
  mark := by have := h.short; rw [Array.getElem?_setIfInBounds_ne (by omega)]; exact h.mark
  pos := set_at h.size (by omega)
  fin := by rw [Array.getElem?_setIfInBounds_ne (by omega)]; exact h.fin
  base := by rw [Array.getElem?_setIfInBounds_ne (by omega)]; exact h.base
  line := by rw [Array.getElem?_setIfInBounds_ne (by omega)]; exact h.line
  column := by rw [Array.getElem?_setIfInBounds_ne (by omega)]; exact h.column
  lline := by rw [Array.getElem?_setIfInBounds_ne (by omega)]; exact h.lline
  lc := by rw [Array.getElem?_setIfInBounds_ne (by omega)]; exact h.lc
  tb := by rw [Array.getElem?_setIfInBounds_ne (by omega)]; exact h.tb
  to := by rw [Array.getElem?_setIfInBounds_ne (by omega)]; exact h.to
  tr := by rw [Array.getElem?_setIfInBounds_ne (by omega)]; exact h.tr
  tp := by rw [Array.getElem?_setIfInBounds_ne (by omega)]; exact h.tp
  te := by rw [Array.getElem?_setIfInBounds_ne (by omega)]; exact h.te
  err := by rw [Array.getElem?_setIfInBounds_ne (by omega)]; exact h.err
  pfn := by rw [Array.getElem?_setIfInBounds_ne (by omega)]; exact h.pfn
  po := by rw [Array.getElem?_setIfInBounds_ne (by omega)]; exact h.po
  pl := by rw [Array.getElem?_setIfInBounds_ne (by omega)]; exact h.pl
  pc := by rw [Array.getElem?_setIfInBounds_ne (by omega)]; exact h.pc
theorem Sc.setLc {cs : Array Value} {T : List UInt8} {p : Nat} {lc tp : Int} (h : Sc cs T p lc tp) (q : Int) : Sc (cs.setIfInBounds 1032 (.int .i64 q)) T p q tp where
  size := by simpa using h.size
  short := h.short
  bytes := fun i hi => by have := h.short; rw [Array.getElem?_setIfInBounds_ne (by omega)]; exact h.bytes i hi
  mark := by have := h.short; rw [Array.getElem?_setIfInBounds_ne (by omega)]; exact h.mark
  pos := by rw [Array.getElem?_setIfInBounds_ne (by omega)]; exact h.pos
  fin := by rw [Array.getElem?_setIfInBounds_ne (by omega)]; exact h.fin
  base := by rw [Array.getElem?_setIfInBounds_ne (by omega)]; exact h.base
  line := by rw [Array.getElem?_setIfInBounds_ne (by omega)]; exact h.line
  column := by rw [Array.getElem?_setIfInBounds_ne (by omega)]; exact h.column
  lline := by rw [Array.getElem?_setIfInBounds_ne (by omega)]; exact h.lline
  lc := set_at h.size (by omega)
  tb := by rw [Array.getElem?_setIfInBounds_ne (by omega)]; exact h.tb
  to := by rw [Array.getElem?_setIfInBounds_ne (by omega)]; exact h.to
  tr := by rw [Array.getElem?_setIfInBounds_ne (by omega)]; exact h.tr
  tp := by rw [Array.getElem?_setIfInBounds_ne (by omega)]; exact h.tp
  te := by rw [Array.getElem?_setIfInBounds_ne (by omega)]; exact h.te
  err := by rw [Array.getElem?_setIfInBounds_ne (by omega)]; exact h.err
  pfn := by rw [Array.getElem?_setIfInBounds_ne (by omega)]; exact h.pfn
  po := by rw [Array.getElem?_setIfInBounds_ne (by omega)]; exact h.po
  pl := by rw [Array.getElem?_setIfInBounds_ne (by omega)]; exact h.pl
  pc := by rw [Array.getElem?_setIfInBounds_ne (by omega)]; exact h.pc
theorem Sc.setTp {cs : Array Value} {T : List UInt8} {p : Nat} {lc tp : Int} (h : Sc cs T p lc tp) (q : Int) : Sc (cs.setIfInBounds 1036 (.int .i64 q)) T p lc q where
  size := by simpa using h.size
  short := h.short
  bytes := fun i hi => by have := h.short; rw [Array.getElem?_setIfInBounds_ne (by omega)]; exact h.bytes i hi
  mark := by have := h.short; rw [Array.getElem?_setIfInBounds_ne (by omega)]; exact h.mark
  pos := by rw [Array.getElem?_setIfInBounds_ne (by omega)]; exact h.pos
  fin := by rw [Array.getElem?_setIfInBounds_ne (by omega)]; exact h.fin
  base := by rw [Array.getElem?_setIfInBounds_ne (by omega)]; exact h.base
  line := by rw [Array.getElem?_setIfInBounds_ne (by omega)]; exact h.line
  column := by rw [Array.getElem?_setIfInBounds_ne (by omega)]; exact h.column
  lline := by rw [Array.getElem?_setIfInBounds_ne (by omega)]; exact h.lline
  lc := by rw [Array.getElem?_setIfInBounds_ne (by omega)]; exact h.lc
  tb := by rw [Array.getElem?_setIfInBounds_ne (by omega)]; exact h.tb
  to := by rw [Array.getElem?_setIfInBounds_ne (by omega)]; exact h.to
  tr := by rw [Array.getElem?_setIfInBounds_ne (by omega)]; exact h.tr
  tp := set_at h.size (by omega)
  te := by rw [Array.getElem?_setIfInBounds_ne (by omega)]; exact h.te
  err := by rw [Array.getElem?_setIfInBounds_ne (by omega)]; exact h.err
  pfn := by rw [Array.getElem?_setIfInBounds_ne (by omega)]; exact h.pfn
  po := by rw [Array.getElem?_setIfInBounds_ne (by omega)]; exact h.po
  pl := by rw [Array.getElem?_setIfInBounds_ne (by omega)]; exact h.pl
  pc := by rw [Array.getElem?_setIfInBounds_ne (by omega)]; exact h.pc
theorem Sc.setBase {cs : Array Value} {T : List UInt8} {p : Nat} {lc tp : Int} (h : Sc cs T p lc tp) (q : Int) : Sc (cs.setIfInBounds 1028 (.int .i64 q)) T p lc tp where
  size := by simpa using h.size
  short := h.short
  bytes := fun i hi => by have := h.short; rw [Array.getElem?_setIfInBounds_ne (by omega)]; exact h.bytes i hi
  mark := by have := h.short; rw [Array.getElem?_setIfInBounds_ne (by omega)]; exact h.mark
  pos := by rw [Array.getElem?_setIfInBounds_ne (by omega)]; exact h.pos
  fin := by rw [Array.getElem?_setIfInBounds_ne (by omega)]; exact h.fin
  base := ⟨_, set_at h.size (by omega)⟩
  line := by rw [Array.getElem?_setIfInBounds_ne (by omega)]; exact h.line
  column := by rw [Array.getElem?_setIfInBounds_ne (by omega)]; exact h.column
  lline := by rw [Array.getElem?_setIfInBounds_ne (by omega)]; exact h.lline
  lc := by rw [Array.getElem?_setIfInBounds_ne (by omega)]; exact h.lc
  tb := by rw [Array.getElem?_setIfInBounds_ne (by omega)]; exact h.tb
  to := by rw [Array.getElem?_setIfInBounds_ne (by omega)]; exact h.to
  tr := by rw [Array.getElem?_setIfInBounds_ne (by omega)]; exact h.tr
  tp := by rw [Array.getElem?_setIfInBounds_ne (by omega)]; exact h.tp
  te := by rw [Array.getElem?_setIfInBounds_ne (by omega)]; exact h.te
  err := by rw [Array.getElem?_setIfInBounds_ne (by omega)]; exact h.err
  pfn := by rw [Array.getElem?_setIfInBounds_ne (by omega)]; exact h.pfn
  po := by rw [Array.getElem?_setIfInBounds_ne (by omega)]; exact h.po
  pl := by rw [Array.getElem?_setIfInBounds_ne (by omega)]; exact h.pl
  pc := by rw [Array.getElem?_setIfInBounds_ne (by omega)]; exact h.pc
theorem Sc.setLine {cs : Array Value} {T : List UInt8} {p : Nat} {lc tp : Int} (h : Sc cs T p lc tp) (q : Int) : Sc (cs.setIfInBounds 1029 (.int .i64 q)) T p lc tp where
  size := by simpa using h.size
  short := h.short
  bytes := fun i hi => by have := h.short; rw [Array.getElem?_setIfInBounds_ne (by omega)]; exact h.bytes i hi
  mark := by have := h.short; rw [Array.getElem?_setIfInBounds_ne (by omega)]; exact h.mark
  pos := by rw [Array.getElem?_setIfInBounds_ne (by omega)]; exact h.pos
  fin := by rw [Array.getElem?_setIfInBounds_ne (by omega)]; exact h.fin
  base := by rw [Array.getElem?_setIfInBounds_ne (by omega)]; exact h.base
  line := ⟨_, set_at h.size (by omega)⟩
  column := by rw [Array.getElem?_setIfInBounds_ne (by omega)]; exact h.column
  lline := by rw [Array.getElem?_setIfInBounds_ne (by omega)]; exact h.lline
  lc := by rw [Array.getElem?_setIfInBounds_ne (by omega)]; exact h.lc
  tb := by rw [Array.getElem?_setIfInBounds_ne (by omega)]; exact h.tb
  to := by rw [Array.getElem?_setIfInBounds_ne (by omega)]; exact h.to
  tr := by rw [Array.getElem?_setIfInBounds_ne (by omega)]; exact h.tr
  tp := by rw [Array.getElem?_setIfInBounds_ne (by omega)]; exact h.tp
  te := by rw [Array.getElem?_setIfInBounds_ne (by omega)]; exact h.te
  err := by rw [Array.getElem?_setIfInBounds_ne (by omega)]; exact h.err
  pfn := by rw [Array.getElem?_setIfInBounds_ne (by omega)]; exact h.pfn
  po := by rw [Array.getElem?_setIfInBounds_ne (by omega)]; exact h.po
  pl := by rw [Array.getElem?_setIfInBounds_ne (by omega)]; exact h.pl
  pc := by rw [Array.getElem?_setIfInBounds_ne (by omega)]; exact h.pc
theorem Sc.setColumn {cs : Array Value} {T : List UInt8} {p : Nat} {lc tp : Int} (h : Sc cs T p lc tp) (q : Int) : Sc (cs.setIfInBounds 1030 (.int .i64 q)) T p lc tp where
  size := by simpa using h.size
  short := h.short
  bytes := fun i hi => by have := h.short; rw [Array.getElem?_setIfInBounds_ne (by omega)]; exact h.bytes i hi
  mark := by have := h.short; rw [Array.getElem?_setIfInBounds_ne (by omega)]; exact h.mark
  pos := by rw [Array.getElem?_setIfInBounds_ne (by omega)]; exact h.pos
  fin := by rw [Array.getElem?_setIfInBounds_ne (by omega)]; exact h.fin
  base := by rw [Array.getElem?_setIfInBounds_ne (by omega)]; exact h.base
  line := by rw [Array.getElem?_setIfInBounds_ne (by omega)]; exact h.line
  column := ⟨_, set_at h.size (by omega)⟩
  lline := by rw [Array.getElem?_setIfInBounds_ne (by omega)]; exact h.lline
  lc := by rw [Array.getElem?_setIfInBounds_ne (by omega)]; exact h.lc
  tb := by rw [Array.getElem?_setIfInBounds_ne (by omega)]; exact h.tb
  to := by rw [Array.getElem?_setIfInBounds_ne (by omega)]; exact h.to
  tr := by rw [Array.getElem?_setIfInBounds_ne (by omega)]; exact h.tr
  tp := by rw [Array.getElem?_setIfInBounds_ne (by omega)]; exact h.tp
  te := by rw [Array.getElem?_setIfInBounds_ne (by omega)]; exact h.te
  err := by rw [Array.getElem?_setIfInBounds_ne (by omega)]; exact h.err
  pfn := by rw [Array.getElem?_setIfInBounds_ne (by omega)]; exact h.pfn
  po := by rw [Array.getElem?_setIfInBounds_ne (by omega)]; exact h.po
  pl := by rw [Array.getElem?_setIfInBounds_ne (by omega)]; exact h.pl
  pc := by rw [Array.getElem?_setIfInBounds_ne (by omega)]; exact h.pc
theorem Sc.setLline {cs : Array Value} {T : List UInt8} {p : Nat} {lc tp : Int} (h : Sc cs T p lc tp) (q : Int) : Sc (cs.setIfInBounds 1031 (.int .i64 q)) T p lc tp where
  size := by simpa using h.size
  short := h.short
  bytes := fun i hi => by have := h.short; rw [Array.getElem?_setIfInBounds_ne (by omega)]; exact h.bytes i hi
  mark := by have := h.short; rw [Array.getElem?_setIfInBounds_ne (by omega)]; exact h.mark
  pos := by rw [Array.getElem?_setIfInBounds_ne (by omega)]; exact h.pos
  fin := by rw [Array.getElem?_setIfInBounds_ne (by omega)]; exact h.fin
  base := by rw [Array.getElem?_setIfInBounds_ne (by omega)]; exact h.base
  line := by rw [Array.getElem?_setIfInBounds_ne (by omega)]; exact h.line
  column := by rw [Array.getElem?_setIfInBounds_ne (by omega)]; exact h.column
  lline := ⟨_, set_at h.size (by omega)⟩
  lc := by rw [Array.getElem?_setIfInBounds_ne (by omega)]; exact h.lc
  tb := by rw [Array.getElem?_setIfInBounds_ne (by omega)]; exact h.tb
  to := by rw [Array.getElem?_setIfInBounds_ne (by omega)]; exact h.to
  tr := by rw [Array.getElem?_setIfInBounds_ne (by omega)]; exact h.tr
  tp := by rw [Array.getElem?_setIfInBounds_ne (by omega)]; exact h.tp
  te := by rw [Array.getElem?_setIfInBounds_ne (by omega)]; exact h.te
  err := by rw [Array.getElem?_setIfInBounds_ne (by omega)]; exact h.err
  pfn := by rw [Array.getElem?_setIfInBounds_ne (by omega)]; exact h.pfn
  po := by rw [Array.getElem?_setIfInBounds_ne (by omega)]; exact h.po
  pl := by rw [Array.getElem?_setIfInBounds_ne (by omega)]; exact h.pl
  pc := by rw [Array.getElem?_setIfInBounds_ne (by omega)]; exact h.pc
theorem Sc.setTe {cs : Array Value} {T : List UInt8} {p : Nat} {lc tp : Int} (h : Sc cs T p lc tp) (q : Int) : Sc (cs.setIfInBounds 1037 (.int .i64 q)) T p lc tp where
  size := by simpa using h.size
  short := h.short
  bytes := fun i hi => by have := h.short; rw [Array.getElem?_setIfInBounds_ne (by omega)]; exact h.bytes i hi
  mark := by have := h.short; rw [Array.getElem?_setIfInBounds_ne (by omega)]; exact h.mark
  pos := by rw [Array.getElem?_setIfInBounds_ne (by omega)]; exact h.pos
  fin := by rw [Array.getElem?_setIfInBounds_ne (by omega)]; exact h.fin
  base := by rw [Array.getElem?_setIfInBounds_ne (by omega)]; exact h.base
  line := by rw [Array.getElem?_setIfInBounds_ne (by omega)]; exact h.line
  column := by rw [Array.getElem?_setIfInBounds_ne (by omega)]; exact h.column
  lline := by rw [Array.getElem?_setIfInBounds_ne (by omega)]; exact h.lline
  lc := by rw [Array.getElem?_setIfInBounds_ne (by omega)]; exact h.lc
  tb := by rw [Array.getElem?_setIfInBounds_ne (by omega)]; exact h.tb
  to := by rw [Array.getElem?_setIfInBounds_ne (by omega)]; exact h.to
  tr := by rw [Array.getElem?_setIfInBounds_ne (by omega)]; exact h.tr
  tp := by rw [Array.getElem?_setIfInBounds_ne (by omega)]; exact h.tp
  te := ⟨_, set_at h.size (by omega)⟩
  err := by rw [Array.getElem?_setIfInBounds_ne (by omega)]; exact h.err
  pfn := by rw [Array.getElem?_setIfInBounds_ne (by omega)]; exact h.pfn
  po := by rw [Array.getElem?_setIfInBounds_ne (by omega)]; exact h.po
  pl := by rw [Array.getElem?_setIfInBounds_ne (by omega)]; exact h.pl
  pc := by rw [Array.getElem?_setIfInBounds_ne (by omega)]; exact h.pc
theorem Sc.setPo {cs : Array Value} {T : List UInt8} {p : Nat} {lc tp : Int} (h : Sc cs T p lc tp) (q : Int) : Sc (cs.setIfInBounds 1041 (.int .i64 q)) T p lc tp where
  size := by simpa using h.size
  short := h.short
  bytes := fun i hi => by have := h.short; rw [Array.getElem?_setIfInBounds_ne (by omega)]; exact h.bytes i hi
  mark := by have := h.short; rw [Array.getElem?_setIfInBounds_ne (by omega)]; exact h.mark
  pos := by rw [Array.getElem?_setIfInBounds_ne (by omega)]; exact h.pos
  fin := by rw [Array.getElem?_setIfInBounds_ne (by omega)]; exact h.fin
  base := by rw [Array.getElem?_setIfInBounds_ne (by omega)]; exact h.base
  line := by rw [Array.getElem?_setIfInBounds_ne (by omega)]; exact h.line
  column := by rw [Array.getElem?_setIfInBounds_ne (by omega)]; exact h.column
  lline := by rw [Array.getElem?_setIfInBounds_ne (by omega)]; exact h.lline
  lc := by rw [Array.getElem?_setIfInBounds_ne (by omega)]; exact h.lc
  tb := by rw [Array.getElem?_setIfInBounds_ne (by omega)]; exact h.tb
  to := by rw [Array.getElem?_setIfInBounds_ne (by omega)]; exact h.to
  tr := by rw [Array.getElem?_setIfInBounds_ne (by omega)]; exact h.tr
  tp := by rw [Array.getElem?_setIfInBounds_ne (by omega)]; exact h.tp
  te := by rw [Array.getElem?_setIfInBounds_ne (by omega)]; exact h.te
  err := by rw [Array.getElem?_setIfInBounds_ne (by omega)]; exact h.err
  pfn := by rw [Array.getElem?_setIfInBounds_ne (by omega)]; exact h.pfn
  po := ⟨_, set_at h.size (by omega)⟩
  pl := by rw [Array.getElem?_setIfInBounds_ne (by omega)]; exact h.pl
  pc := by rw [Array.getElem?_setIfInBounds_ne (by omega)]; exact h.pc
theorem Sc.setPl {cs : Array Value} {T : List UInt8} {p : Nat} {lc tp : Int} (h : Sc cs T p lc tp) (q : Int) : Sc (cs.setIfInBounds 1042 (.int .i64 q)) T p lc tp where
  size := by simpa using h.size
  short := h.short
  bytes := fun i hi => by have := h.short; rw [Array.getElem?_setIfInBounds_ne (by omega)]; exact h.bytes i hi
  mark := by have := h.short; rw [Array.getElem?_setIfInBounds_ne (by omega)]; exact h.mark
  pos := by rw [Array.getElem?_setIfInBounds_ne (by omega)]; exact h.pos
  fin := by rw [Array.getElem?_setIfInBounds_ne (by omega)]; exact h.fin
  base := by rw [Array.getElem?_setIfInBounds_ne (by omega)]; exact h.base
  line := by rw [Array.getElem?_setIfInBounds_ne (by omega)]; exact h.line
  column := by rw [Array.getElem?_setIfInBounds_ne (by omega)]; exact h.column
  lline := by rw [Array.getElem?_setIfInBounds_ne (by omega)]; exact h.lline
  lc := by rw [Array.getElem?_setIfInBounds_ne (by omega)]; exact h.lc
  tb := by rw [Array.getElem?_setIfInBounds_ne (by omega)]; exact h.tb
  to := by rw [Array.getElem?_setIfInBounds_ne (by omega)]; exact h.to
  tr := by rw [Array.getElem?_setIfInBounds_ne (by omega)]; exact h.tr
  tp := by rw [Array.getElem?_setIfInBounds_ne (by omega)]; exact h.tp
  te := by rw [Array.getElem?_setIfInBounds_ne (by omega)]; exact h.te
  err := by rw [Array.getElem?_setIfInBounds_ne (by omega)]; exact h.err
  pfn := by rw [Array.getElem?_setIfInBounds_ne (by omega)]; exact h.pfn
  po := by rw [Array.getElem?_setIfInBounds_ne (by omega)]; exact h.po
  pl := ⟨_, set_at h.size (by omega)⟩
  pc := by rw [Array.getElem?_setIfInBounds_ne (by omega)]; exact h.pc
theorem Sc.setPc {cs : Array Value} {T : List UInt8} {p : Nat} {lc tp : Int} (h : Sc cs T p lc tp) (q : Int) : Sc (cs.setIfInBounds 1043 (.int .i64 q)) T p lc tp where
  size := by simpa using h.size
  short := h.short
  bytes := fun i hi => by have := h.short; rw [Array.getElem?_setIfInBounds_ne (by omega)]; exact h.bytes i hi
  mark := by have := h.short; rw [Array.getElem?_setIfInBounds_ne (by omega)]; exact h.mark
  pos := by rw [Array.getElem?_setIfInBounds_ne (by omega)]; exact h.pos
  fin := by rw [Array.getElem?_setIfInBounds_ne (by omega)]; exact h.fin
  base := by rw [Array.getElem?_setIfInBounds_ne (by omega)]; exact h.base
  line := by rw [Array.getElem?_setIfInBounds_ne (by omega)]; exact h.line
  column := by rw [Array.getElem?_setIfInBounds_ne (by omega)]; exact h.column
  lline := by rw [Array.getElem?_setIfInBounds_ne (by omega)]; exact h.lline
  lc := by rw [Array.getElem?_setIfInBounds_ne (by omega)]; exact h.lc
  tb := by rw [Array.getElem?_setIfInBounds_ne (by omega)]; exact h.tb
  to := by rw [Array.getElem?_setIfInBounds_ne (by omega)]; exact h.to
  tr := by rw [Array.getElem?_setIfInBounds_ne (by omega)]; exact h.tr
  tp := by rw [Array.getElem?_setIfInBounds_ne (by omega)]; exact h.tp
  te := by rw [Array.getElem?_setIfInBounds_ne (by omega)]; exact h.te
  err := by rw [Array.getElem?_setIfInBounds_ne (by omega)]; exact h.err
  pfn := by rw [Array.getElem?_setIfInBounds_ne (by omega)]; exact h.pfn
  po := by rw [Array.getElem?_setIfInBounds_ne (by omega)]; exact h.po
  pl := by rw [Array.getElem?_setIfInBounds_ne (by omega)]; exact h.pl
  pc := ⟨_, set_at h.size (by omega)⟩
theorem Sc.setCh {cs : Array Value} {T : List UInt8} {p : Nat} {lc tp : Int} (h : Sc cs T p lc tp) (v : Value) : Sc (cs.setIfInBounds 1038 v) T p lc tp where
  size := by simpa using h.size
  short := h.short
  bytes := fun i hi => by have := h.short; rw [Array.getElem?_setIfInBounds_ne (by omega)]; exact h.bytes i hi
  mark := by have := h.short; rw [Array.getElem?_setIfInBounds_ne (by omega)]; exact h.mark
  pos := by rw [Array.getElem?_setIfInBounds_ne (by omega)]; exact h.pos
  fin := by rw [Array.getElem?_setIfInBounds_ne (by omega)]; exact h.fin
  base := by rw [Array.getElem?_setIfInBounds_ne (by omega)]; exact h.base
  line := by rw [Array.getElem?_setIfInBounds_ne (by omega)]; exact h.line
  column := by rw [Array.getElem?_setIfInBounds_ne (by omega)]; exact h.column
  lline := by rw [Array.getElem?_setIfInBounds_ne (by omega)]; exact h.lline
  lc := by rw [Array.getElem?_setIfInBounds_ne (by omega)]; exact h.lc
  tb := by rw [Array.getElem?_setIfInBounds_ne (by omega)]; exact h.tb
  to := by rw [Array.getElem?_setIfInBounds_ne (by omega)]; exact h.to
  tr := by rw [Array.getElem?_setIfInBounds_ne (by omega)]; exact h.tr
  tp := by rw [Array.getElem?_setIfInBounds_ne (by omega)]; exact h.tp
  te := by rw [Array.getElem?_setIfInBounds_ne (by omega)]; exact h.te
  err := by rw [Array.getElem?_setIfInBounds_ne (by omega)]; exact h.err
  pfn := by rw [Array.getElem?_setIfInBounds_ne (by omega)]; exact h.pfn
  po := by rw [Array.getElem?_setIfInBounds_ne (by omega)]; exact h.po
  pl := by rw [Array.getElem?_setIfInBounds_ne (by omega)]; exact h.pl
  pc := by rw [Array.getElem?_setIfInBounds_ne (by omega)]; exact h.pc

theorem next_in (w : World) (b : Nat) (cs : Array Value) (T : List UInt8) (p : Nat) (lc tp : Int) (hB : Blk w b cs 241) (hS : Sc cs T p lc tp) (hp : p < T.length) (x : Nat)
    (hx : (T.getD p 0).toNat = x) (h0 : x ≠ 0) (h128 : x < 128) :
    Calls Tryz.prog 122 #[.pointer (some ⟨b, 0, none⟩)] w fun e' w' => e' = .returned (.int .i32 x) ∧ Ex (On b) w w' ∧ ∃ cs', Blk w' b cs' 241 ∧ Sc cs' T (p + 1) 1 tp ∧ cs'[1038]? = cs[1038]? ∧ cs'[0]? = cs[0]? := by
  have c := hB.cell
  have f := hB.free
  have lt := hB.lt
  have hsh := hS.short
  have c1026 := (c 1026).trans hS.pos
  have cx := (c (1 + p)).trans ((hS.bytes p hp).trans (by rw [hx]))
  have c1032 := (c 1032).trans hS.lc
  obtain ⟨cl, q1⟩ := hS.line
  obtain ⟨cc, q2⟩ := hS.column
  obtain ⟨ll, q3⟩ := hS.lline
  have c1029 := (c 1029).trans q1
  have c1030 := (c 1030).trans q2
  have c1031 := (c 1031).trans q3
  have HB := Lib.hid hB
  have HS := Lib.hid hS
  clear hB hS c q1 q2 q3
  go_enter Tryz.func122, Tryz.ntmps122
  go_wp2_with fail
  go_quiet (fail)
  go_wp2
  · go_ret
    have e1 : ((p : Int) + 1) = ((p + 1 : Nat) : Int) := by omega
    rw [e1]
    have hx0 : Ex (On b) w (w.drewN nq) := (Ex.refl _ _).of_drewN _
    have hb0 := HB.out.ex ((Ex.refl No w).of_drewN nq) no_
    refine ⟨rfl, (((((hx0.own _ _).own _ _).own _ _).own _ _).own _ _).own _ _, _,
      (((((hb0.set _ _).set _ _).set _ _).set _ _).set _ _).set _ _, (((((HS.out.setPos _).setLc _).setColumn _).setLine _).setLline _).setColumn _, ?_, ?_⟩
    all_goals (repeat rw [Array.getElem?_setIfInBounds_ne (by omega)])
  · go_ret
    have e1 : ((p : Int) + 1) = ((p + 1 : Nat) : Int) := by omega
    rw [e1]
    have hx0 : Ex (On b) w (w.drewN nq) := (Ex.refl _ _).of_drewN _
    have hb0 := HB.out.ex ((Ex.refl No w).of_drewN nq) no_
    refine ⟨rfl, ((hx0.own _ _).own _ _).own _ _, _, ((hb0.set _ _).set _ _).set _ _, ((HS.out.setPos _).setLc _).setColumn _, ?_, ?_⟩
    all_goals (repeat rw [Array.getElem?_setIfInBounds_ne (by omega)])
end Go.Proofs.YtbepocojafbbbaaGreatDoor
