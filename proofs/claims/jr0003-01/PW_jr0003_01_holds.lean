import PyProof.Rows.All
import Wide.All
import OpenK.AllK
import Wide.FinOn
import KE.KSortKey
import KE.KSortTup
import PySem.Challenge.RW_jr0003_01
set_option Elab.async false
set_option maxRecDepth 100000
-- A1
section
namespace Jr
open PySem PySem.W PyProof.Rows
set_option maxHeartbeats 8000000
open_top hd for PySem.Challenge.rw_jr0003_01
end Jr
end
-- NM
section
namespace Jr
open PySem
variable {A : Around} {E : Value → Shared → Prop} {s : Shared} {env : Env}

/-! a goal's great parts are given names: the proof's term grows less -/
theorem nameQ {α : Type} {M : Model} {c : Sem α} {Q : α → Shared → Prop} (h : let Q' := Q; wpAny M A c Q' E s) : wpAny M A c Q E s := h
theorem nameX {M : Model} {st : Stmt} {Q : Flow → Shared → Prop} (h : let env' := env; let E' := E; wpAny M A (exec st env') Q E' s) : wpAny M A (exec st env) Q E s := h
theorem nameXs {M : Model} {b : List Stmt} {Q : Flow → Shared → Prop} (h : let env' := env; let A' := A; let E' := E; let Q' := Q; wpAny M A' (execs b env') Q' E' s) : wpAny M A (execs b env) Q E s := h
end Jr
end
-- IN
section
namespace Jr

/-! constructors: one step for a whole tuple -/
theorem in03 {p0 p1 p2 : Prop} (h0 : p0) (h1 : p1) (h2 : p2) : p0 ∧ p1 ∧ p2 := ⟨h0, h1, h2⟩
theorem in04 {p0 p1 p2 p3 : Prop} (h0 : p0) (h1 : p1) (h2 : p2) (h3 : p3) : p0 ∧ p1 ∧ p2 ∧ p3 := ⟨h0, h1, h2, h3⟩
theorem in06 {p0 p1 p2 p3 p4 p5 : Prop} (h0 : p0) (h1 : p1) (h2 : p2) (h3 : p3) (h4 : p4) (h5 : p5) : p0 ∧ p1 ∧ p2 ∧ p3 ∧ p4 ∧ p5 := ⟨h0, h1, h2, h3, h4, h5⟩
theorem in12.{u0} {α0 : Sort u0} {p0 p1 : α0 → Prop} (a0 : α0) (h0 : p0 a0) (h1 : p1 a0) : ∃ a0, p0 a0 ∧ p1 a0 := ⟨a0, h0, h1⟩
theorem in13.{u0} {α0 : Sort u0} {p0 p1 p2 : α0 → Prop} (a0 : α0) (h0 : p0 a0) (h1 : p1 a0) (h2 : p2 a0) : ∃ a0, p0 a0 ∧ p1 a0 ∧ p2 a0 := ⟨a0, h0, h1, h2⟩
theorem in14.{u0} {α0 : Sort u0} {p0 p1 p2 p3 : α0 → Prop} (a0 : α0) (h0 : p0 a0) (h1 : p1 a0) (h2 : p2 a0) (h3 : p3 a0) : ∃ a0, p0 a0 ∧ p1 a0 ∧ p2 a0 ∧ p3 a0 := ⟨a0, h0, h1, h2, h3⟩
theorem in21.{u0, u1} {α0 : Sort u0} {α1 : Sort u1} {p0 : α0 → α1 → Prop} (a0 : α0) (a1 : α1) (h0 : p0 a0 a1) : ∃ a0, ∃ a1, p0 a0 a1 := ⟨a0, a1, h0⟩
theorem in22.{u0, u1} {α0 : Sort u0} {α1 : Sort u1} {p0 p1 : α0 → α1 → Prop} (a0 : α0) (a1 : α1) (h0 : p0 a0 a1) (h1 : p1 a0 a1) : ∃ a0, ∃ a1, p0 a0 a1 ∧ p1 a0 a1 := ⟨a0, a1, h0, h1⟩
theorem in23.{u0, u1} {α0 : Sort u0} {α1 : Sort u1} {p0 p1 p2 : α0 → α1 → Prop} (a0 : α0) (a1 : α1) (h0 : p0 a0 a1) (h1 : p1 a0 a1) (h2 : p2 a0 a1) : ∃ a0, ∃ a1, p0 a0 a1 ∧ p1 a0 a1 ∧ p2 a0 a1 := ⟨a0, a1, h0, h1, h2⟩
theorem in24.{u0, u1} {α0 : Sort u0} {α1 : Sort u1} {p0 p1 p2 p3 : α0 → α1 → Prop} (a0 : α0) (a1 : α1) (h0 : p0 a0 a1) (h1 : p1 a0 a1) (h2 : p2 a0 a1) (h3 : p3 a0 a1) : ∃ a0, ∃ a1, p0 a0 a1 ∧ p1 a0 a1 ∧ p2 a0 a1 ∧ p3 a0 a1 := ⟨a0, a1, h0, h1, h2, h3⟩
theorem in25.{u0, u1} {α0 : Sort u0} {α1 : Sort u1} {p0 p1 p2 p3 p4 : α0 → α1 → Prop} (a0 : α0) (a1 : α1) (h0 : p0 a0 a1) (h1 : p1 a0 a1) (h2 : p2 a0 a1) (h3 : p3 a0 a1) (h4 : p4 a0 a1) : ∃ a0, ∃ a1, p0 a0 a1 ∧ p1 a0 a1 ∧ p2 a0 a1 ∧ p3 a0 a1 ∧ p4 a0 a1 := ⟨a0, a1, h0, h1, h2, h3, h4⟩
theorem in28.{u0, u1} {α0 : Sort u0} {α1 : Sort u1} {p0 p1 p2 p3 p4 p5 p6 p7 : α0 → α1 → Prop} (a0 : α0) (a1 : α1) (h0 : p0 a0 a1) (h1 : p1 a0 a1) (h2 : p2 a0 a1) (h3 : p3 a0 a1) (h4 : p4 a0 a1) (h5 : p5 a0 a1) (h6 : p6 a0 a1) (h7 : p7 a0 a1) : ∃ a0, ∃ a1, p0 a0 a1 ∧ p1 a0 a1 ∧ p2 a0 a1 ∧ p3 a0 a1 ∧ p4 a0 a1 ∧ p5 a0 a1 ∧ p6 a0 a1 ∧ p7 a0 a1 := ⟨a0, a1, h0, h1, h2, h3, h4, h5, h6, h7⟩
theorem in31.{u0, u1, u2} {α0 : Sort u0} {α1 : Sort u1} {α2 : Sort u2} {p0 : α0 → α1 → α2 → Prop} (a0 : α0) (a1 : α1) (a2 : α2) (h0 : p0 a0 a1 a2) : ∃ a0, ∃ a1, ∃ a2, p0 a0 a1 a2 := ⟨a0, a1, a2, h0⟩
theorem in32.{u0, u1, u2} {α0 : Sort u0} {α1 : Sort u1} {α2 : Sort u2} {p0 p1 : α0 → α1 → α2 → Prop} (a0 : α0) (a1 : α1) (a2 : α2) (h0 : p0 a0 a1 a2) (h1 : p1 a0 a1 a2) : ∃ a0, ∃ a1, ∃ a2, p0 a0 a1 a2 ∧ p1 a0 a1 a2 := ⟨a0, a1, a2, h0, h1⟩
theorem in33.{u0, u1, u2} {α0 : Sort u0} {α1 : Sort u1} {α2 : Sort u2} {p0 p1 p2 : α0 → α1 → α2 → Prop} (a0 : α0) (a1 : α1) (a2 : α2) (h0 : p0 a0 a1 a2) (h1 : p1 a0 a1 a2) (h2 : p2 a0 a1 a2) : ∃ a0, ∃ a1, ∃ a2, p0 a0 a1 a2 ∧ p1 a0 a1 a2 ∧ p2 a0 a1 a2 := ⟨a0, a1, a2, h0, h1, h2⟩
theorem in34.{u0, u1, u2} {α0 : Sort u0} {α1 : Sort u1} {α2 : Sort u2} {p0 p1 p2 p3 : α0 → α1 → α2 → Prop} (a0 : α0) (a1 : α1) (a2 : α2) (h0 : p0 a0 a1 a2) (h1 : p1 a0 a1 a2) (h2 : p2 a0 a1 a2) (h3 : p3 a0 a1 a2) : ∃ a0, ∃ a1, ∃ a2, p0 a0 a1 a2 ∧ p1 a0 a1 a2 ∧ p2 a0 a1 a2 ∧ p3 a0 a1 a2 := ⟨a0, a1, a2, h0, h1, h2, h3⟩
theorem in35.{u0, u1, u2} {α0 : Sort u0} {α1 : Sort u1} {α2 : Sort u2} {p0 p1 p2 p3 p4 : α0 → α1 → α2 → Prop} (a0 : α0) (a1 : α1) (a2 : α2) (h0 : p0 a0 a1 a2) (h1 : p1 a0 a1 a2) (h2 : p2 a0 a1 a2) (h3 : p3 a0 a1 a2) (h4 : p4 a0 a1 a2) : ∃ a0, ∃ a1, ∃ a2, p0 a0 a1 a2 ∧ p1 a0 a1 a2 ∧ p2 a0 a1 a2 ∧ p3 a0 a1 a2 ∧ p4 a0 a1 a2 := ⟨a0, a1, a2, h0, h1, h2, h3, h4⟩
theorem in37.{u0, u1, u2} {α0 : Sort u0} {α1 : Sort u1} {α2 : Sort u2} {p0 p1 p2 p3 p4 p5 p6 : α0 → α1 → α2 → Prop} (a0 : α0) (a1 : α1) (a2 : α2) (h0 : p0 a0 a1 a2) (h1 : p1 a0 a1 a2) (h2 : p2 a0 a1 a2) (h3 : p3 a0 a1 a2) (h4 : p4 a0 a1 a2) (h5 : p5 a0 a1 a2) (h6 : p6 a0 a1 a2) : ∃ a0, ∃ a1, ∃ a2, p0 a0 a1 a2 ∧ p1 a0 a1 a2 ∧ p2 a0 a1 a2 ∧ p3 a0 a1 a2 ∧ p4 a0 a1 a2 ∧ p5 a0 a1 a2 ∧ p6 a0 a1 a2 := ⟨a0, a1, a2, h0, h1, h2, h3, h4, h5, h6⟩
theorem in39.{u0, u1, u2} {α0 : Sort u0} {α1 : Sort u1} {α2 : Sort u2} {p0 p1 p2 p3 p4 p5 p6 p7 p8 : α0 → α1 → α2 → Prop} (a0 : α0) (a1 : α1) (a2 : α2) (h0 : p0 a0 a1 a2) (h1 : p1 a0 a1 a2) (h2 : p2 a0 a1 a2) (h3 : p3 a0 a1 a2) (h4 : p4 a0 a1 a2) (h5 : p5 a0 a1 a2) (h6 : p6 a0 a1 a2) (h7 : p7 a0 a1 a2) (h8 : p8 a0 a1 a2) : ∃ a0, ∃ a1, ∃ a2, p0 a0 a1 a2 ∧ p1 a0 a1 a2 ∧ p2 a0 a1 a2 ∧ p3 a0 a1 a2 ∧ p4 a0 a1 a2 ∧ p5 a0 a1 a2 ∧ p6 a0 a1 a2 ∧ p7 a0 a1 a2 ∧ p8 a0 a1 a2 := ⟨a0, a1, a2, h0, h1, h2, h3, h4, h5, h6, h7, h8⟩
theorem in43.{u0, u1, u2, u3} {α0 : Sort u0} {α1 : Sort u1} {α2 : Sort u2} {α3 : Sort u3} {p0 p1 p2 : α0 → α1 → α2 → α3 → Prop} (a0 : α0) (a1 : α1) (a2 : α2) (a3 : α3) (h0 : p0 a0 a1 a2 a3) (h1 : p1 a0 a1 a2 a3) (h2 : p2 a0 a1 a2 a3) : ∃ a0, ∃ a1, ∃ a2, ∃ a3, p0 a0 a1 a2 a3 ∧ p1 a0 a1 a2 a3 ∧ p2 a0 a1 a2 a3 := ⟨a0, a1, a2, a3, h0, h1, h2⟩
theorem in44.{u0, u1, u2, u3} {α0 : Sort u0} {α1 : Sort u1} {α2 : Sort u2} {α3 : Sort u3} {p0 p1 p2 p3 : α0 → α1 → α2 → α3 → Prop} (a0 : α0) (a1 : α1) (a2 : α2) (a3 : α3) (h0 : p0 a0 a1 a2 a3) (h1 : p1 a0 a1 a2 a3) (h2 : p2 a0 a1 a2 a3) (h3 : p3 a0 a1 a2 a3) : ∃ a0, ∃ a1, ∃ a2, ∃ a3, p0 a0 a1 a2 a3 ∧ p1 a0 a1 a2 a3 ∧ p2 a0 a1 a2 a3 ∧ p3 a0 a1 a2 a3 := ⟨a0, a1, a2, a3, h0, h1, h2, h3⟩
theorem in45.{u0, u1, u2, u3} {α0 : Sort u0} {α1 : Sort u1} {α2 : Sort u2} {α3 : Sort u3} {p0 p1 p2 p3 p4 : α0 → α1 → α2 → α3 → Prop} (a0 : α0) (a1 : α1) (a2 : α2) (a3 : α3) (h0 : p0 a0 a1 a2 a3) (h1 : p1 a0 a1 a2 a3) (h2 : p2 a0 a1 a2 a3) (h3 : p3 a0 a1 a2 a3) (h4 : p4 a0 a1 a2 a3) : ∃ a0, ∃ a1, ∃ a2, ∃ a3, p0 a0 a1 a2 a3 ∧ p1 a0 a1 a2 a3 ∧ p2 a0 a1 a2 a3 ∧ p3 a0 a1 a2 a3 ∧ p4 a0 a1 a2 a3 := ⟨a0, a1, a2, a3, h0, h1, h2, h3, h4⟩
theorem in46.{u0, u1, u2, u3} {α0 : Sort u0} {α1 : Sort u1} {α2 : Sort u2} {α3 : Sort u3} {p0 p1 p2 p3 p4 p5 : α0 → α1 → α2 → α3 → Prop} (a0 : α0) (a1 : α1) (a2 : α2) (a3 : α3) (h0 : p0 a0 a1 a2 a3) (h1 : p1 a0 a1 a2 a3) (h2 : p2 a0 a1 a2 a3) (h3 : p3 a0 a1 a2 a3) (h4 : p4 a0 a1 a2 a3) (h5 : p5 a0 a1 a2 a3) : ∃ a0, ∃ a1, ∃ a2, ∃ a3, p0 a0 a1 a2 a3 ∧ p1 a0 a1 a2 a3 ∧ p2 a0 a1 a2 a3 ∧ p3 a0 a1 a2 a3 ∧ p4 a0 a1 a2 a3 ∧ p5 a0 a1 a2 a3 := ⟨a0, a1, a2, a3, h0, h1, h2, h3, h4, h5⟩
theorem in47.{u0, u1, u2, u3} {α0 : Sort u0} {α1 : Sort u1} {α2 : Sort u2} {α3 : Sort u3} {p0 p1 p2 p3 p4 p5 p6 : α0 → α1 → α2 → α3 → Prop} (a0 : α0) (a1 : α1) (a2 : α2) (a3 : α3) (h0 : p0 a0 a1 a2 a3) (h1 : p1 a0 a1 a2 a3) (h2 : p2 a0 a1 a2 a3) (h3 : p3 a0 a1 a2 a3) (h4 : p4 a0 a1 a2 a3) (h5 : p5 a0 a1 a2 a3) (h6 : p6 a0 a1 a2 a3) : ∃ a0, ∃ a1, ∃ a2, ∃ a3, p0 a0 a1 a2 a3 ∧ p1 a0 a1 a2 a3 ∧ p2 a0 a1 a2 a3 ∧ p3 a0 a1 a2 a3 ∧ p4 a0 a1 a2 a3 ∧ p5 a0 a1 a2 a3 ∧ p6 a0 a1 a2 a3 := ⟨a0, a1, a2, a3, h0, h1, h2, h3, h4, h5, h6⟩
theorem in49.{u0, u1, u2, u3} {α0 : Sort u0} {α1 : Sort u1} {α2 : Sort u2} {α3 : Sort u3} {p0 p1 p2 p3 p4 p5 p6 p7 p8 : α0 → α1 → α2 → α3 → Prop} (a0 : α0) (a1 : α1) (a2 : α2) (a3 : α3) (h0 : p0 a0 a1 a2 a3) (h1 : p1 a0 a1 a2 a3) (h2 : p2 a0 a1 a2 a3) (h3 : p3 a0 a1 a2 a3) (h4 : p4 a0 a1 a2 a3) (h5 : p5 a0 a1 a2 a3) (h6 : p6 a0 a1 a2 a3) (h7 : p7 a0 a1 a2 a3) (h8 : p8 a0 a1 a2 a3) : ∃ a0, ∃ a1, ∃ a2, ∃ a3, p0 a0 a1 a2 a3 ∧ p1 a0 a1 a2 a3 ∧ p2 a0 a1 a2 a3 ∧ p3 a0 a1 a2 a3 ∧ p4 a0 a1 a2 a3 ∧ p5 a0 a1 a2 a3 ∧ p6 a0 a1 a2 a3 ∧ p7 a0 a1 a2 a3 ∧ p8 a0 a1 a2 a3 := ⟨a0, a1, a2, a3, h0, h1, h2, h3, h4, h5, h6, h7, h8⟩
theorem in55.{u0, u1, u2, u3, u4} {α0 : Sort u0} {α1 : Sort u1} {α2 : Sort u2} {α3 : Sort u3} {α4 : Sort u4} {p0 p1 p2 p3 p4 : α0 → α1 → α2 → α3 → α4 → Prop} (a0 : α0) (a1 : α1) (a2 : α2) (a3 : α3) (a4 : α4) (h0 : p0 a0 a1 a2 a3 a4) (h1 : p1 a0 a1 a2 a3 a4) (h2 : p2 a0 a1 a2 a3 a4) (h3 : p3 a0 a1 a2 a3 a4) (h4 : p4 a0 a1 a2 a3 a4) : ∃ a0, ∃ a1, ∃ a2, ∃ a3, ∃ a4, p0 a0 a1 a2 a3 a4 ∧ p1 a0 a1 a2 a3 a4 ∧ p2 a0 a1 a2 a3 a4 ∧ p3 a0 a1 a2 a3 a4 ∧ p4 a0 a1 a2 a3 a4 := ⟨a0, a1, a2, a3, a4, h0, h1, h2, h3, h4⟩
theorem in57.{u0, u1, u2, u3, u4} {α0 : Sort u0} {α1 : Sort u1} {α2 : Sort u2} {α3 : Sort u3} {α4 : Sort u4} {p0 p1 p2 p3 p4 p5 p6 : α0 → α1 → α2 → α3 → α4 → Prop} (a0 : α0) (a1 : α1) (a2 : α2) (a3 : α3) (a4 : α4) (h0 : p0 a0 a1 a2 a3 a4) (h1 : p1 a0 a1 a2 a3 a4) (h2 : p2 a0 a1 a2 a3 a4) (h3 : p3 a0 a1 a2 a3 a4) (h4 : p4 a0 a1 a2 a3 a4) (h5 : p5 a0 a1 a2 a3 a4) (h6 : p6 a0 a1 a2 a3 a4) : ∃ a0, ∃ a1, ∃ a2, ∃ a3, ∃ a4, p0 a0 a1 a2 a3 a4 ∧ p1 a0 a1 a2 a3 a4 ∧ p2 a0 a1 a2 a3 a4 ∧ p3 a0 a1 a2 a3 a4 ∧ p4 a0 a1 a2 a3 a4 ∧ p5 a0 a1 a2 a3 a4 ∧ p6 a0 a1 a2 a3 a4 := ⟨a0, a1, a2, a3, a4, h0, h1, h2, h3, h4, h5, h6⟩
theorem in58.{u0, u1, u2, u3, u4} {α0 : Sort u0} {α1 : Sort u1} {α2 : Sort u2} {α3 : Sort u3} {α4 : Sort u4} {p0 p1 p2 p3 p4 p5 p6 p7 : α0 → α1 → α2 → α3 → α4 → Prop} (a0 : α0) (a1 : α1) (a2 : α2) (a3 : α3) (a4 : α4) (h0 : p0 a0 a1 a2 a3 a4) (h1 : p1 a0 a1 a2 a3 a4) (h2 : p2 a0 a1 a2 a3 a4) (h3 : p3 a0 a1 a2 a3 a4) (h4 : p4 a0 a1 a2 a3 a4) (h5 : p5 a0 a1 a2 a3 a4) (h6 : p6 a0 a1 a2 a3 a4) (h7 : p7 a0 a1 a2 a3 a4) : ∃ a0, ∃ a1, ∃ a2, ∃ a3, ∃ a4, p0 a0 a1 a2 a3 a4 ∧ p1 a0 a1 a2 a3 a4 ∧ p2 a0 a1 a2 a3 a4 ∧ p3 a0 a1 a2 a3 a4 ∧ p4 a0 a1 a2 a3 a4 ∧ p5 a0 a1 a2 a3 a4 ∧ p6 a0 a1 a2 a3 a4 ∧ p7 a0 a1 a2 a3 a4 := ⟨a0, a1, a2, a3, a4, h0, h1, h2, h3, h4, h5, h6, h7⟩
theorem in67.{u0, u1, u2, u3, u4, u5} {α0 : Sort u0} {α1 : Sort u1} {α2 : Sort u2} {α3 : Sort u3} {α4 : Sort u4} {α5 : Sort u5} {p0 p1 p2 p3 p4 p5 p6 : α0 → α1 → α2 → α3 → α4 → α5 → Prop} (a0 : α0) (a1 : α1) (a2 : α2) (a3 : α3) (a4 : α4) (a5 : α5) (h0 : p0 a0 a1 a2 a3 a4 a5) (h1 : p1 a0 a1 a2 a3 a4 a5) (h2 : p2 a0 a1 a2 a3 a4 a5) (h3 : p3 a0 a1 a2 a3 a4 a5) (h4 : p4 a0 a1 a2 a3 a4 a5) (h5 : p5 a0 a1 a2 a3 a4 a5) (h6 : p6 a0 a1 a2 a3 a4 a5) : ∃ a0, ∃ a1, ∃ a2, ∃ a3, ∃ a4, ∃ a5, p0 a0 a1 a2 a3 a4 a5 ∧ p1 a0 a1 a2 a3 a4 a5 ∧ p2 a0 a1 a2 a3 a4 a5 ∧ p3 a0 a1 a2 a3 a4 a5 ∧ p4 a0 a1 a2 a3 a4 a5 ∧ p5 a0 a1 a2 a3 a4 a5 ∧ p6 a0 a1 a2 a3 a4 a5 := ⟨a0, a1, a2, a3, a4, a5, h0, h1, h2, h3, h4, h5, h6⟩
theorem in611.{u0, u1, u2, u3, u4, u5} {α0 : Sort u0} {α1 : Sort u1} {α2 : Sort u2} {α3 : Sort u3} {α4 : Sort u4} {α5 : Sort u5} {p0 p1 p2 p3 p4 p5 p6 p7 p8 p9 p10 : α0 → α1 → α2 → α3 → α4 → α5 → Prop} (a0 : α0) (a1 : α1) (a2 : α2) (a3 : α3) (a4 : α4) (a5 : α5) (h0 : p0 a0 a1 a2 a3 a4 a5) (h1 : p1 a0 a1 a2 a3 a4 a5) (h2 : p2 a0 a1 a2 a3 a4 a5) (h3 : p3 a0 a1 a2 a3 a4 a5) (h4 : p4 a0 a1 a2 a3 a4 a5) (h5 : p5 a0 a1 a2 a3 a4 a5) (h6 : p6 a0 a1 a2 a3 a4 a5) (h7 : p7 a0 a1 a2 a3 a4 a5) (h8 : p8 a0 a1 a2 a3 a4 a5) (h9 : p9 a0 a1 a2 a3 a4 a5) (h10 : p10 a0 a1 a2 a3 a4 a5) : ∃ a0, ∃ a1, ∃ a2, ∃ a3, ∃ a4, ∃ a5, p0 a0 a1 a2 a3 a4 a5 ∧ p1 a0 a1 a2 a3 a4 a5 ∧ p2 a0 a1 a2 a3 a4 a5 ∧ p3 a0 a1 a2 a3 a4 a5 ∧ p4 a0 a1 a2 a3 a4 a5 ∧ p5 a0 a1 a2 a3 a4 a5 ∧ p6 a0 a1 a2 a3 a4 a5 ∧ p7 a0 a1 a2 a3 a4 a5 ∧ p8 a0 a1 a2 a3 a4 a5 ∧ p9 a0 a1 a2 a3 a4 a5 ∧ p10 a0 a1 a2 a3 a4 a5 := ⟨a0, a1, a2, a3, a4, a5, h0, h1, h2, h3, h4, h5, h6, h7, h8, h9, h10⟩
theorem in75.{u0, u1, u2, u3, u4, u5, u6} {α0 : Sort u0} {α1 : Sort u1} {α2 : Sort u2} {α3 : Sort u3} {α4 : Sort u4} {α5 : Sort u5} {α6 : Sort u6} {p0 p1 p2 p3 p4 : α0 → α1 → α2 → α3 → α4 → α5 → α6 → Prop} (a0 : α0) (a1 : α1) (a2 : α2) (a3 : α3) (a4 : α4) (a5 : α5) (a6 : α6) (h0 : p0 a0 a1 a2 a3 a4 a5 a6) (h1 : p1 a0 a1 a2 a3 a4 a5 a6) (h2 : p2 a0 a1 a2 a3 a4 a5 a6) (h3 : p3 a0 a1 a2 a3 a4 a5 a6) (h4 : p4 a0 a1 a2 a3 a4 a5 a6) : ∃ a0, ∃ a1, ∃ a2, ∃ a3, ∃ a4, ∃ a5, ∃ a6, p0 a0 a1 a2 a3 a4 a5 a6 ∧ p1 a0 a1 a2 a3 a4 a5 a6 ∧ p2 a0 a1 a2 a3 a4 a5 a6 ∧ p3 a0 a1 a2 a3 a4 a5 a6 ∧ p4 a0 a1 a2 a3 a4 a5 a6 := ⟨a0, a1, a2, a3, a4, a5, a6, h0, h1, h2, h3, h4⟩
theorem in78.{u0, u1, u2, u3, u4, u5, u6} {α0 : Sort u0} {α1 : Sort u1} {α2 : Sort u2} {α3 : Sort u3} {α4 : Sort u4} {α5 : Sort u5} {α6 : Sort u6} {p0 p1 p2 p3 p4 p5 p6 p7 : α0 → α1 → α2 → α3 → α4 → α5 → α6 → Prop} (a0 : α0) (a1 : α1) (a2 : α2) (a3 : α3) (a4 : α4) (a5 : α5) (a6 : α6) (h0 : p0 a0 a1 a2 a3 a4 a5 a6) (h1 : p1 a0 a1 a2 a3 a4 a5 a6) (h2 : p2 a0 a1 a2 a3 a4 a5 a6) (h3 : p3 a0 a1 a2 a3 a4 a5 a6) (h4 : p4 a0 a1 a2 a3 a4 a5 a6) (h5 : p5 a0 a1 a2 a3 a4 a5 a6) (h6 : p6 a0 a1 a2 a3 a4 a5 a6) (h7 : p7 a0 a1 a2 a3 a4 a5 a6) : ∃ a0, ∃ a1, ∃ a2, ∃ a3, ∃ a4, ∃ a5, ∃ a6, p0 a0 a1 a2 a3 a4 a5 a6 ∧ p1 a0 a1 a2 a3 a4 a5 a6 ∧ p2 a0 a1 a2 a3 a4 a5 a6 ∧ p3 a0 a1 a2 a3 a4 a5 a6 ∧ p4 a0 a1 a2 a3 a4 a5 a6 ∧ p5 a0 a1 a2 a3 a4 a5 a6 ∧ p6 a0 a1 a2 a3 a4 a5 a6 ∧ p7 a0 a1 a2 a3 a4 a5 a6 := ⟨a0, a1, a2, a3, a4, a5, a6, h0, h1, h2, h3, h4, h5, h6, h7⟩
theorem in79.{u0, u1, u2, u3, u4, u5, u6} {α0 : Sort u0} {α1 : Sort u1} {α2 : Sort u2} {α3 : Sort u3} {α4 : Sort u4} {α5 : Sort u5} {α6 : Sort u6} {p0 p1 p2 p3 p4 p5 p6 p7 p8 : α0 → α1 → α2 → α3 → α4 → α5 → α6 → Prop} (a0 : α0) (a1 : α1) (a2 : α2) (a3 : α3) (a4 : α4) (a5 : α5) (a6 : α6) (h0 : p0 a0 a1 a2 a3 a4 a5 a6) (h1 : p1 a0 a1 a2 a3 a4 a5 a6) (h2 : p2 a0 a1 a2 a3 a4 a5 a6) (h3 : p3 a0 a1 a2 a3 a4 a5 a6) (h4 : p4 a0 a1 a2 a3 a4 a5 a6) (h5 : p5 a0 a1 a2 a3 a4 a5 a6) (h6 : p6 a0 a1 a2 a3 a4 a5 a6) (h7 : p7 a0 a1 a2 a3 a4 a5 a6) (h8 : p8 a0 a1 a2 a3 a4 a5 a6) : ∃ a0, ∃ a1, ∃ a2, ∃ a3, ∃ a4, ∃ a5, ∃ a6, p0 a0 a1 a2 a3 a4 a5 a6 ∧ p1 a0 a1 a2 a3 a4 a5 a6 ∧ p2 a0 a1 a2 a3 a4 a5 a6 ∧ p3 a0 a1 a2 a3 a4 a5 a6 ∧ p4 a0 a1 a2 a3 a4 a5 a6 ∧ p5 a0 a1 a2 a3 a4 a5 a6 ∧ p6 a0 a1 a2 a3 a4 a5 a6 ∧ p7 a0 a1 a2 a3 a4 a5 a6 ∧ p8 a0 a1 a2 a3 a4 a5 a6 := ⟨a0, a1, a2, a3, a4, a5, a6, h0, h1, h2, h3, h4, h5, h6, h7, h8⟩
theorem in92.{u0, u1, u2, u3, u4, u5, u6, u7, u8} {α0 : Sort u0} {α1 : Sort u1} {α2 : Sort u2} {α3 : Sort u3} {α4 : Sort u4} {α5 : Sort u5} {α6 : Sort u6} {α7 : Sort u7} {α8 : Sort u8} {p0 p1 : α0 → α1 → α2 → α3 → α4 → α5 → α6 → α7 → α8 → Prop} (a0 : α0) (a1 : α1) (a2 : α2) (a3 : α3) (a4 : α4) (a5 : α5) (a6 : α6) (a7 : α7) (a8 : α8) (h0 : p0 a0 a1 a2 a3 a4 a5 a6 a7 a8) (h1 : p1 a0 a1 a2 a3 a4 a5 a6 a7 a8) : ∃ a0, ∃ a1, ∃ a2, ∃ a3, ∃ a4, ∃ a5, ∃ a6, ∃ a7, ∃ a8, p0 a0 a1 a2 a3 a4 a5 a6 a7 a8 ∧ p1 a0 a1 a2 a3 a4 a5 a6 a7 a8 := ⟨a0, a1, a2, a3, a4, a5, a6, a7, a8, h0, h1⟩
theorem in93.{u0, u1, u2, u3, u4, u5, u6, u7, u8} {α0 : Sort u0} {α1 : Sort u1} {α2 : Sort u2} {α3 : Sort u3} {α4 : Sort u4} {α5 : Sort u5} {α6 : Sort u6} {α7 : Sort u7} {α8 : Sort u8} {p0 p1 p2 : α0 → α1 → α2 → α3 → α4 → α5 → α6 → α7 → α8 → Prop} (a0 : α0) (a1 : α1) (a2 : α2) (a3 : α3) (a4 : α4) (a5 : α5) (a6 : α6) (a7 : α7) (a8 : α8) (h0 : p0 a0 a1 a2 a3 a4 a5 a6 a7 a8) (h1 : p1 a0 a1 a2 a3 a4 a5 a6 a7 a8) (h2 : p2 a0 a1 a2 a3 a4 a5 a6 a7 a8) : ∃ a0, ∃ a1, ∃ a2, ∃ a3, ∃ a4, ∃ a5, ∃ a6, ∃ a7, ∃ a8, p0 a0 a1 a2 a3 a4 a5 a6 a7 a8 ∧ p1 a0 a1 a2 a3 a4 a5 a6 a7 a8 ∧ p2 a0 a1 a2 a3 a4 a5 a6 a7 a8 := ⟨a0, a1, a2, a3, a4, a5, a6, a7, a8, h0, h1, h2⟩
end Jr
end
-- EL
section
namespace Jr

/-! eliminators: one step for a whole tuple -/
theorem el02 {p0 p1 : Prop} {G : Prop} (h : p0 ∧ p1) (c : p0 → p1 → G) : G := by
  obtain ⟨h0, h1⟩ := h
  exact c h0 h1
theorem el03 {p0 p1 p2 : Prop} {G : Prop} (h : p0 ∧ p1 ∧ p2) (c : p0 → p1 → p2 → G) : G := by
  obtain ⟨h0, h1, h2⟩ := h
  exact c h0 h1 h2
theorem el04 {p0 p1 p2 p3 : Prop} {G : Prop} (h : p0 ∧ p1 ∧ p2 ∧ p3) (c : p0 → p1 → p2 → p3 → G) : G := by
  obtain ⟨h0, h1, h2, h3⟩ := h
  exact c h0 h1 h2 h3
theorem el05 {p0 p1 p2 p3 p4 : Prop} {G : Prop} (h : p0 ∧ p1 ∧ p2 ∧ p3 ∧ p4) (c : p0 → p1 → p2 → p3 → p4 → G) : G := by
  obtain ⟨h0, h1, h2, h3, h4⟩ := h
  exact c h0 h1 h2 h3 h4
theorem el11.{u0} {α0 : Sort u0} {p0 : α0 → Prop} {G : Prop} (h : ∃ a0, p0 a0) (c : ∀ a0, p0 a0 → G) : G := by
  obtain ⟨a0, h0⟩ := h
  exact c a0 h0
theorem el12.{u0} {α0 : Sort u0} {p0 p1 : α0 → Prop} {G : Prop} (h : ∃ a0, p0 a0 ∧ p1 a0) (c : ∀ a0, p0 a0 → p1 a0 → G) : G := by
  obtain ⟨a0, h0, h1⟩ := h
  exact c a0 h0 h1
theorem el13.{u0} {α0 : Sort u0} {p0 p1 p2 : α0 → Prop} {G : Prop} (h : ∃ a0, p0 a0 ∧ p1 a0 ∧ p2 a0) (c : ∀ a0, p0 a0 → p1 a0 → p2 a0 → G) : G := by
  obtain ⟨a0, h0, h1, h2⟩ := h
  exact c a0 h0 h1 h2
theorem el14.{u0} {α0 : Sort u0} {p0 p1 p2 p3 : α0 → Prop} {G : Prop} (h : ∃ a0, p0 a0 ∧ p1 a0 ∧ p2 a0 ∧ p3 a0) (c : ∀ a0, p0 a0 → p1 a0 → p2 a0 → p3 a0 → G) : G := by
  obtain ⟨a0, h0, h1, h2, h3⟩ := h
  exact c a0 h0 h1 h2 h3
theorem el15.{u0} {α0 : Sort u0} {p0 p1 p2 p3 p4 : α0 → Prop} {G : Prop} (h : ∃ a0, p0 a0 ∧ p1 a0 ∧ p2 a0 ∧ p3 a0 ∧ p4 a0) (c : ∀ a0, p0 a0 → p1 a0 → p2 a0 → p3 a0 → p4 a0 → G) : G := by
  obtain ⟨a0, h0, h1, h2, h3, h4⟩ := h
  exact c a0 h0 h1 h2 h3 h4
theorem el21.{u0, u1} {α0 : Sort u0} {α1 : Sort u1} {p0 : α0 → α1 → Prop} {G : Prop} (h : ∃ a0, ∃ a1, p0 a0 a1) (c : ∀ a0 a1, p0 a0 a1 → G) : G := by
  obtain ⟨a0, a1, h0⟩ := h
  exact c a0 a1 h0
theorem el22.{u0, u1} {α0 : Sort u0} {α1 : Sort u1} {p0 p1 : α0 → α1 → Prop} {G : Prop} (h : ∃ a0, ∃ a1, p0 a0 a1 ∧ p1 a0 a1) (c : ∀ a0 a1, p0 a0 a1 → p1 a0 a1 → G) : G := by
  obtain ⟨a0, a1, h0, h1⟩ := h
  exact c a0 a1 h0 h1
theorem el23.{u0, u1} {α0 : Sort u0} {α1 : Sort u1} {p0 p1 p2 : α0 → α1 → Prop} {G : Prop} (h : ∃ a0, ∃ a1, p0 a0 a1 ∧ p1 a0 a1 ∧ p2 a0 a1) (c : ∀ a0 a1, p0 a0 a1 → p1 a0 a1 → p2 a0 a1 → G) : G := by
  obtain ⟨a0, a1, h0, h1, h2⟩ := h
  exact c a0 a1 h0 h1 h2
theorem el24.{u0, u1} {α0 : Sort u0} {α1 : Sort u1} {p0 p1 p2 p3 : α0 → α1 → Prop} {G : Prop} (h : ∃ a0, ∃ a1, p0 a0 a1 ∧ p1 a0 a1 ∧ p2 a0 a1 ∧ p3 a0 a1) (c : ∀ a0 a1, p0 a0 a1 → p1 a0 a1 → p2 a0 a1 → p3 a0 a1 → G) : G := by
  obtain ⟨a0, a1, h0, h1, h2, h3⟩ := h
  exact c a0 a1 h0 h1 h2 h3
theorem el25.{u0, u1} {α0 : Sort u0} {α1 : Sort u1} {p0 p1 p2 p3 p4 : α0 → α1 → Prop} {G : Prop} (h : ∃ a0, ∃ a1, p0 a0 a1 ∧ p1 a0 a1 ∧ p2 a0 a1 ∧ p3 a0 a1 ∧ p4 a0 a1) (c : ∀ a0 a1, p0 a0 a1 → p1 a0 a1 → p2 a0 a1 → p3 a0 a1 → p4 a0 a1 → G) : G := by
  obtain ⟨a0, a1, h0, h1, h2, h3, h4⟩ := h
  exact c a0 a1 h0 h1 h2 h3 h4
theorem el26.{u0, u1} {α0 : Sort u0} {α1 : Sort u1} {p0 p1 p2 p3 p4 p5 : α0 → α1 → Prop} {G : Prop} (h : ∃ a0, ∃ a1, p0 a0 a1 ∧ p1 a0 a1 ∧ p2 a0 a1 ∧ p3 a0 a1 ∧ p4 a0 a1 ∧ p5 a0 a1) (c : ∀ a0 a1, p0 a0 a1 → p1 a0 a1 → p2 a0 a1 → p3 a0 a1 → p4 a0 a1 → p5 a0 a1 → G) : G := by
  obtain ⟨a0, a1, h0, h1, h2, h3, h4, h5⟩ := h
  exact c a0 a1 h0 h1 h2 h3 h4 h5
theorem el28.{u0, u1} {α0 : Sort u0} {α1 : Sort u1} {p0 p1 p2 p3 p4 p5 p6 p7 : α0 → α1 → Prop} {G : Prop} (h : ∃ a0, ∃ a1, p0 a0 a1 ∧ p1 a0 a1 ∧ p2 a0 a1 ∧ p3 a0 a1 ∧ p4 a0 a1 ∧ p5 a0 a1 ∧ p6 a0 a1 ∧ p7 a0 a1) (c : ∀ a0 a1, p0 a0 a1 → p1 a0 a1 → p2 a0 a1 → p3 a0 a1 → p4 a0 a1 → p5 a0 a1 → p6 a0 a1 → p7 a0 a1 → G) : G := by
  obtain ⟨a0, a1, h0, h1, h2, h3, h4, h5, h6, h7⟩ := h
  exact c a0 a1 h0 h1 h2 h3 h4 h5 h6 h7
theorem el31.{u0, u1, u2} {α0 : Sort u0} {α1 : Sort u1} {α2 : Sort u2} {p0 : α0 → α1 → α2 → Prop} {G : Prop} (h : ∃ a0, ∃ a1, ∃ a2, p0 a0 a1 a2) (c : ∀ a0 a1 a2, p0 a0 a1 a2 → G) : G := by
  obtain ⟨a0, a1, a2, h0⟩ := h
  exact c a0 a1 a2 h0
theorem el32.{u0, u1, u2} {α0 : Sort u0} {α1 : Sort u1} {α2 : Sort u2} {p0 p1 : α0 → α1 → α2 → Prop} {G : Prop} (h : ∃ a0, ∃ a1, ∃ a2, p0 a0 a1 a2 ∧ p1 a0 a1 a2) (c : ∀ a0 a1 a2, p0 a0 a1 a2 → p1 a0 a1 a2 → G) : G := by
  obtain ⟨a0, a1, a2, h0, h1⟩ := h
  exact c a0 a1 a2 h0 h1
theorem el33.{u0, u1, u2} {α0 : Sort u0} {α1 : Sort u1} {α2 : Sort u2} {p0 p1 p2 : α0 → α1 → α2 → Prop} {G : Prop} (h : ∃ a0, ∃ a1, ∃ a2, p0 a0 a1 a2 ∧ p1 a0 a1 a2 ∧ p2 a0 a1 a2) (c : ∀ a0 a1 a2, p0 a0 a1 a2 → p1 a0 a1 a2 → p2 a0 a1 a2 → G) : G := by
  obtain ⟨a0, a1, a2, h0, h1, h2⟩ := h
  exact c a0 a1 a2 h0 h1 h2
theorem el34.{u0, u1, u2} {α0 : Sort u0} {α1 : Sort u1} {α2 : Sort u2} {p0 p1 p2 p3 : α0 → α1 → α2 → Prop} {G : Prop} (h : ∃ a0, ∃ a1, ∃ a2, p0 a0 a1 a2 ∧ p1 a0 a1 a2 ∧ p2 a0 a1 a2 ∧ p3 a0 a1 a2) (c : ∀ a0 a1 a2, p0 a0 a1 a2 → p1 a0 a1 a2 → p2 a0 a1 a2 → p3 a0 a1 a2 → G) : G := by
  obtain ⟨a0, a1, a2, h0, h1, h2, h3⟩ := h
  exact c a0 a1 a2 h0 h1 h2 h3
theorem el35.{u0, u1, u2} {α0 : Sort u0} {α1 : Sort u1} {α2 : Sort u2} {p0 p1 p2 p3 p4 : α0 → α1 → α2 → Prop} {G : Prop} (h : ∃ a0, ∃ a1, ∃ a2, p0 a0 a1 a2 ∧ p1 a0 a1 a2 ∧ p2 a0 a1 a2 ∧ p3 a0 a1 a2 ∧ p4 a0 a1 a2) (c : ∀ a0 a1 a2, p0 a0 a1 a2 → p1 a0 a1 a2 → p2 a0 a1 a2 → p3 a0 a1 a2 → p4 a0 a1 a2 → G) : G := by
  obtain ⟨a0, a1, a2, h0, h1, h2, h3, h4⟩ := h
  exact c a0 a1 a2 h0 h1 h2 h3 h4
theorem el37.{u0, u1, u2} {α0 : Sort u0} {α1 : Sort u1} {α2 : Sort u2} {p0 p1 p2 p3 p4 p5 p6 : α0 → α1 → α2 → Prop} {G : Prop} (h : ∃ a0, ∃ a1, ∃ a2, p0 a0 a1 a2 ∧ p1 a0 a1 a2 ∧ p2 a0 a1 a2 ∧ p3 a0 a1 a2 ∧ p4 a0 a1 a2 ∧ p5 a0 a1 a2 ∧ p6 a0 a1 a2) (c : ∀ a0 a1 a2, p0 a0 a1 a2 → p1 a0 a1 a2 → p2 a0 a1 a2 → p3 a0 a1 a2 → p4 a0 a1 a2 → p5 a0 a1 a2 → p6 a0 a1 a2 → G) : G := by
  obtain ⟨a0, a1, a2, h0, h1, h2, h3, h4, h5, h6⟩ := h
  exact c a0 a1 a2 h0 h1 h2 h3 h4 h5 h6
theorem el39.{u0, u1, u2} {α0 : Sort u0} {α1 : Sort u1} {α2 : Sort u2} {p0 p1 p2 p3 p4 p5 p6 p7 p8 : α0 → α1 → α2 → Prop} {G : Prop} (h : ∃ a0, ∃ a1, ∃ a2, p0 a0 a1 a2 ∧ p1 a0 a1 a2 ∧ p2 a0 a1 a2 ∧ p3 a0 a1 a2 ∧ p4 a0 a1 a2 ∧ p5 a0 a1 a2 ∧ p6 a0 a1 a2 ∧ p7 a0 a1 a2 ∧ p8 a0 a1 a2) (c : ∀ a0 a1 a2, p0 a0 a1 a2 → p1 a0 a1 a2 → p2 a0 a1 a2 → p3 a0 a1 a2 → p4 a0 a1 a2 → p5 a0 a1 a2 → p6 a0 a1 a2 → p7 a0 a1 a2 → p8 a0 a1 a2 → G) : G := by
  obtain ⟨a0, a1, a2, h0, h1, h2, h3, h4, h5, h6, h7, h8⟩ := h
  exact c a0 a1 a2 h0 h1 h2 h3 h4 h5 h6 h7 h8
theorem el43.{u0, u1, u2, u3} {α0 : Sort u0} {α1 : Sort u1} {α2 : Sort u2} {α3 : Sort u3} {p0 p1 p2 : α0 → α1 → α2 → α3 → Prop} {G : Prop} (h : ∃ a0, ∃ a1, ∃ a2, ∃ a3, p0 a0 a1 a2 a3 ∧ p1 a0 a1 a2 a3 ∧ p2 a0 a1 a2 a3) (c : ∀ a0 a1 a2 a3, p0 a0 a1 a2 a3 → p1 a0 a1 a2 a3 → p2 a0 a1 a2 a3 → G) : G := by
  obtain ⟨a0, a1, a2, a3, h0, h1, h2⟩ := h
  exact c a0 a1 a2 a3 h0 h1 h2
theorem el44.{u0, u1, u2, u3} {α0 : Sort u0} {α1 : Sort u1} {α2 : Sort u2} {α3 : Sort u3} {p0 p1 p2 p3 : α0 → α1 → α2 → α3 → Prop} {G : Prop} (h : ∃ a0, ∃ a1, ∃ a2, ∃ a3, p0 a0 a1 a2 a3 ∧ p1 a0 a1 a2 a3 ∧ p2 a0 a1 a2 a3 ∧ p3 a0 a1 a2 a3) (c : ∀ a0 a1 a2 a3, p0 a0 a1 a2 a3 → p1 a0 a1 a2 a3 → p2 a0 a1 a2 a3 → p3 a0 a1 a2 a3 → G) : G := by
  obtain ⟨a0, a1, a2, a3, h0, h1, h2, h3⟩ := h
  exact c a0 a1 a2 a3 h0 h1 h2 h3
theorem el45.{u0, u1, u2, u3} {α0 : Sort u0} {α1 : Sort u1} {α2 : Sort u2} {α3 : Sort u3} {p0 p1 p2 p3 p4 : α0 → α1 → α2 → α3 → Prop} {G : Prop} (h : ∃ a0, ∃ a1, ∃ a2, ∃ a3, p0 a0 a1 a2 a3 ∧ p1 a0 a1 a2 a3 ∧ p2 a0 a1 a2 a3 ∧ p3 a0 a1 a2 a3 ∧ p4 a0 a1 a2 a3) (c : ∀ a0 a1 a2 a3, p0 a0 a1 a2 a3 → p1 a0 a1 a2 a3 → p2 a0 a1 a2 a3 → p3 a0 a1 a2 a3 → p4 a0 a1 a2 a3 → G) : G := by
  obtain ⟨a0, a1, a2, a3, h0, h1, h2, h3, h4⟩ := h
  exact c a0 a1 a2 a3 h0 h1 h2 h3 h4
theorem el46.{u0, u1, u2, u3} {α0 : Sort u0} {α1 : Sort u1} {α2 : Sort u2} {α3 : Sort u3} {p0 p1 p2 p3 p4 p5 : α0 → α1 → α2 → α3 → Prop} {G : Prop} (h : ∃ a0, ∃ a1, ∃ a2, ∃ a3, p0 a0 a1 a2 a3 ∧ p1 a0 a1 a2 a3 ∧ p2 a0 a1 a2 a3 ∧ p3 a0 a1 a2 a3 ∧ p4 a0 a1 a2 a3 ∧ p5 a0 a1 a2 a3) (c : ∀ a0 a1 a2 a3, p0 a0 a1 a2 a3 → p1 a0 a1 a2 a3 → p2 a0 a1 a2 a3 → p3 a0 a1 a2 a3 → p4 a0 a1 a2 a3 → p5 a0 a1 a2 a3 → G) : G := by
  obtain ⟨a0, a1, a2, a3, h0, h1, h2, h3, h4, h5⟩ := h
  exact c a0 a1 a2 a3 h0 h1 h2 h3 h4 h5
theorem el47.{u0, u1, u2, u3} {α0 : Sort u0} {α1 : Sort u1} {α2 : Sort u2} {α3 : Sort u3} {p0 p1 p2 p3 p4 p5 p6 : α0 → α1 → α2 → α3 → Prop} {G : Prop} (h : ∃ a0, ∃ a1, ∃ a2, ∃ a3, p0 a0 a1 a2 a3 ∧ p1 a0 a1 a2 a3 ∧ p2 a0 a1 a2 a3 ∧ p3 a0 a1 a2 a3 ∧ p4 a0 a1 a2 a3 ∧ p5 a0 a1 a2 a3 ∧ p6 a0 a1 a2 a3) (c : ∀ a0 a1 a2 a3, p0 a0 a1 a2 a3 → p1 a0 a1 a2 a3 → p2 a0 a1 a2 a3 → p3 a0 a1 a2 a3 → p4 a0 a1 a2 a3 → p5 a0 a1 a2 a3 → p6 a0 a1 a2 a3 → G) : G := by
  obtain ⟨a0, a1, a2, a3, h0, h1, h2, h3, h4, h5, h6⟩ := h
  exact c a0 a1 a2 a3 h0 h1 h2 h3 h4 h5 h6
theorem el49.{u0, u1, u2, u3} {α0 : Sort u0} {α1 : Sort u1} {α2 : Sort u2} {α3 : Sort u3} {p0 p1 p2 p3 p4 p5 p6 p7 p8 : α0 → α1 → α2 → α3 → Prop} {G : Prop} (h : ∃ a0, ∃ a1, ∃ a2, ∃ a3, p0 a0 a1 a2 a3 ∧ p1 a0 a1 a2 a3 ∧ p2 a0 a1 a2 a3 ∧ p3 a0 a1 a2 a3 ∧ p4 a0 a1 a2 a3 ∧ p5 a0 a1 a2 a3 ∧ p6 a0 a1 a2 a3 ∧ p7 a0 a1 a2 a3 ∧ p8 a0 a1 a2 a3) (c : ∀ a0 a1 a2 a3, p0 a0 a1 a2 a3 → p1 a0 a1 a2 a3 → p2 a0 a1 a2 a3 → p3 a0 a1 a2 a3 → p4 a0 a1 a2 a3 → p5 a0 a1 a2 a3 → p6 a0 a1 a2 a3 → p7 a0 a1 a2 a3 → p8 a0 a1 a2 a3 → G) : G := by
  obtain ⟨a0, a1, a2, a3, h0, h1, h2, h3, h4, h5, h6, h7, h8⟩ := h
  exact c a0 a1 a2 a3 h0 h1 h2 h3 h4 h5 h6 h7 h8
theorem el55.{u0, u1, u2, u3, u4} {α0 : Sort u0} {α1 : Sort u1} {α2 : Sort u2} {α3 : Sort u3} {α4 : Sort u4} {p0 p1 p2 p3 p4 : α0 → α1 → α2 → α3 → α4 → Prop} {G : Prop} (h : ∃ a0, ∃ a1, ∃ a2, ∃ a3, ∃ a4, p0 a0 a1 a2 a3 a4 ∧ p1 a0 a1 a2 a3 a4 ∧ p2 a0 a1 a2 a3 a4 ∧ p3 a0 a1 a2 a3 a4 ∧ p4 a0 a1 a2 a3 a4) (c : ∀ a0 a1 a2 a3 a4, p0 a0 a1 a2 a3 a4 → p1 a0 a1 a2 a3 a4 → p2 a0 a1 a2 a3 a4 → p3 a0 a1 a2 a3 a4 → p4 a0 a1 a2 a3 a4 → G) : G := by
  obtain ⟨a0, a1, a2, a3, a4, h0, h1, h2, h3, h4⟩ := h
  exact c a0 a1 a2 a3 a4 h0 h1 h2 h3 h4
theorem el57.{u0, u1, u2, u3, u4} {α0 : Sort u0} {α1 : Sort u1} {α2 : Sort u2} {α3 : Sort u3} {α4 : Sort u4} {p0 p1 p2 p3 p4 p5 p6 : α0 → α1 → α2 → α3 → α4 → Prop} {G : Prop} (h : ∃ a0, ∃ a1, ∃ a2, ∃ a3, ∃ a4, p0 a0 a1 a2 a3 a4 ∧ p1 a0 a1 a2 a3 a4 ∧ p2 a0 a1 a2 a3 a4 ∧ p3 a0 a1 a2 a3 a4 ∧ p4 a0 a1 a2 a3 a4 ∧ p5 a0 a1 a2 a3 a4 ∧ p6 a0 a1 a2 a3 a4) (c : ∀ a0 a1 a2 a3 a4, p0 a0 a1 a2 a3 a4 → p1 a0 a1 a2 a3 a4 → p2 a0 a1 a2 a3 a4 → p3 a0 a1 a2 a3 a4 → p4 a0 a1 a2 a3 a4 → p5 a0 a1 a2 a3 a4 → p6 a0 a1 a2 a3 a4 → G) : G := by
  obtain ⟨a0, a1, a2, a3, a4, h0, h1, h2, h3, h4, h5, h6⟩ := h
  exact c a0 a1 a2 a3 a4 h0 h1 h2 h3 h4 h5 h6
theorem el58.{u0, u1, u2, u3, u4} {α0 : Sort u0} {α1 : Sort u1} {α2 : Sort u2} {α3 : Sort u3} {α4 : Sort u4} {p0 p1 p2 p3 p4 p5 p6 p7 : α0 → α1 → α2 → α3 → α4 → Prop} {G : Prop} (h : ∃ a0, ∃ a1, ∃ a2, ∃ a3, ∃ a4, p0 a0 a1 a2 a3 a4 ∧ p1 a0 a1 a2 a3 a4 ∧ p2 a0 a1 a2 a3 a4 ∧ p3 a0 a1 a2 a3 a4 ∧ p4 a0 a1 a2 a3 a4 ∧ p5 a0 a1 a2 a3 a4 ∧ p6 a0 a1 a2 a3 a4 ∧ p7 a0 a1 a2 a3 a4) (c : ∀ a0 a1 a2 a3 a4, p0 a0 a1 a2 a3 a4 → p1 a0 a1 a2 a3 a4 → p2 a0 a1 a2 a3 a4 → p3 a0 a1 a2 a3 a4 → p4 a0 a1 a2 a3 a4 → p5 a0 a1 a2 a3 a4 → p6 a0 a1 a2 a3 a4 → p7 a0 a1 a2 a3 a4 → G) : G := by
  obtain ⟨a0, a1, a2, a3, a4, h0, h1, h2, h3, h4, h5, h6, h7⟩ := h
  exact c a0 a1 a2 a3 a4 h0 h1 h2 h3 h4 h5 h6 h7
theorem el61.{u0, u1, u2, u3, u4, u5} {α0 : Sort u0} {α1 : Sort u1} {α2 : Sort u2} {α3 : Sort u3} {α4 : Sort u4} {α5 : Sort u5} {p0 : α0 → α1 → α2 → α3 → α4 → α5 → Prop} {G : Prop} (h : ∃ a0, ∃ a1, ∃ a2, ∃ a3, ∃ a4, ∃ a5, p0 a0 a1 a2 a3 a4 a5) (c : ∀ a0 a1 a2 a3 a4 a5, p0 a0 a1 a2 a3 a4 a5 → G) : G := by
  obtain ⟨a0, a1, a2, a3, a4, a5, h0⟩ := h
  exact c a0 a1 a2 a3 a4 a5 h0
theorem el67.{u0, u1, u2, u3, u4, u5} {α0 : Sort u0} {α1 : Sort u1} {α2 : Sort u2} {α3 : Sort u3} {α4 : Sort u4} {α5 : Sort u5} {p0 p1 p2 p3 p4 p5 p6 : α0 → α1 → α2 → α3 → α4 → α5 → Prop} {G : Prop} (h : ∃ a0, ∃ a1, ∃ a2, ∃ a3, ∃ a4, ∃ a5, p0 a0 a1 a2 a3 a4 a5 ∧ p1 a0 a1 a2 a3 a4 a5 ∧ p2 a0 a1 a2 a3 a4 a5 ∧ p3 a0 a1 a2 a3 a4 a5 ∧ p4 a0 a1 a2 a3 a4 a5 ∧ p5 a0 a1 a2 a3 a4 a5 ∧ p6 a0 a1 a2 a3 a4 a5) (c : ∀ a0 a1 a2 a3 a4 a5, p0 a0 a1 a2 a3 a4 a5 → p1 a0 a1 a2 a3 a4 a5 → p2 a0 a1 a2 a3 a4 a5 → p3 a0 a1 a2 a3 a4 a5 → p4 a0 a1 a2 a3 a4 a5 → p5 a0 a1 a2 a3 a4 a5 → p6 a0 a1 a2 a3 a4 a5 → G) : G := by
  obtain ⟨a0, a1, a2, a3, a4, a5, h0, h1, h2, h3, h4, h5, h6⟩ := h
  exact c a0 a1 a2 a3 a4 a5 h0 h1 h2 h3 h4 h5 h6
theorem el69.{u0, u1, u2, u3, u4, u5} {α0 : Sort u0} {α1 : Sort u1} {α2 : Sort u2} {α3 : Sort u3} {α4 : Sort u4} {α5 : Sort u5} {p0 p1 p2 p3 p4 p5 p6 p7 p8 : α0 → α1 → α2 → α3 → α4 → α5 → Prop} {G : Prop} (h : ∃ a0, ∃ a1, ∃ a2, ∃ a3, ∃ a4, ∃ a5, p0 a0 a1 a2 a3 a4 a5 ∧ p1 a0 a1 a2 a3 a4 a5 ∧ p2 a0 a1 a2 a3 a4 a5 ∧ p3 a0 a1 a2 a3 a4 a5 ∧ p4 a0 a1 a2 a3 a4 a5 ∧ p5 a0 a1 a2 a3 a4 a5 ∧ p6 a0 a1 a2 a3 a4 a5 ∧ p7 a0 a1 a2 a3 a4 a5 ∧ p8 a0 a1 a2 a3 a4 a5) (c : ∀ a0 a1 a2 a3 a4 a5, p0 a0 a1 a2 a3 a4 a5 → p1 a0 a1 a2 a3 a4 a5 → p2 a0 a1 a2 a3 a4 a5 → p3 a0 a1 a2 a3 a4 a5 → p4 a0 a1 a2 a3 a4 a5 → p5 a0 a1 a2 a3 a4 a5 → p6 a0 a1 a2 a3 a4 a5 → p7 a0 a1 a2 a3 a4 a5 → p8 a0 a1 a2 a3 a4 a5 → G) : G := by
  obtain ⟨a0, a1, a2, a3, a4, a5, h0, h1, h2, h3, h4, h5, h6, h7, h8⟩ := h
  exact c a0 a1 a2 a3 a4 a5 h0 h1 h2 h3 h4 h5 h6 h7 h8
theorem el71.{u0, u1, u2, u3, u4, u5, u6} {α0 : Sort u0} {α1 : Sort u1} {α2 : Sort u2} {α3 : Sort u3} {α4 : Sort u4} {α5 : Sort u5} {α6 : Sort u6} {p0 : α0 → α1 → α2 → α3 → α4 → α5 → α6 → Prop} {G : Prop} (h : ∃ a0, ∃ a1, ∃ a2, ∃ a3, ∃ a4, ∃ a5, ∃ a6, p0 a0 a1 a2 a3 a4 a5 a6) (c : ∀ a0 a1 a2 a3 a4 a5 a6, p0 a0 a1 a2 a3 a4 a5 a6 → G) : G := by
  obtain ⟨a0, a1, a2, a3, a4, a5, a6, h0⟩ := h
  exact c a0 a1 a2 a3 a4 a5 a6 h0
theorem el75.{u0, u1, u2, u3, u4, u5, u6} {α0 : Sort u0} {α1 : Sort u1} {α2 : Sort u2} {α3 : Sort u3} {α4 : Sort u4} {α5 : Sort u5} {α6 : Sort u6} {p0 p1 p2 p3 p4 : α0 → α1 → α2 → α3 → α4 → α5 → α6 → Prop} {G : Prop} (h : ∃ a0, ∃ a1, ∃ a2, ∃ a3, ∃ a4, ∃ a5, ∃ a6, p0 a0 a1 a2 a3 a4 a5 a6 ∧ p1 a0 a1 a2 a3 a4 a5 a6 ∧ p2 a0 a1 a2 a3 a4 a5 a6 ∧ p3 a0 a1 a2 a3 a4 a5 a6 ∧ p4 a0 a1 a2 a3 a4 a5 a6) (c : ∀ a0 a1 a2 a3 a4 a5 a6, p0 a0 a1 a2 a3 a4 a5 a6 → p1 a0 a1 a2 a3 a4 a5 a6 → p2 a0 a1 a2 a3 a4 a5 a6 → p3 a0 a1 a2 a3 a4 a5 a6 → p4 a0 a1 a2 a3 a4 a5 a6 → G) : G := by
  obtain ⟨a0, a1, a2, a3, a4, a5, a6, h0, h1, h2, h3, h4⟩ := h
  exact c a0 a1 a2 a3 a4 a5 a6 h0 h1 h2 h3 h4
theorem el79.{u0, u1, u2, u3, u4, u5, u6} {α0 : Sort u0} {α1 : Sort u1} {α2 : Sort u2} {α3 : Sort u3} {α4 : Sort u4} {α5 : Sort u5} {α6 : Sort u6} {p0 p1 p2 p3 p4 p5 p6 p7 p8 : α0 → α1 → α2 → α3 → α4 → α5 → α6 → Prop} {G : Prop} (h : ∃ a0, ∃ a1, ∃ a2, ∃ a3, ∃ a4, ∃ a5, ∃ a6, p0 a0 a1 a2 a3 a4 a5 a6 ∧ p1 a0 a1 a2 a3 a4 a5 a6 ∧ p2 a0 a1 a2 a3 a4 a5 a6 ∧ p3 a0 a1 a2 a3 a4 a5 a6 ∧ p4 a0 a1 a2 a3 a4 a5 a6 ∧ p5 a0 a1 a2 a3 a4 a5 a6 ∧ p6 a0 a1 a2 a3 a4 a5 a6 ∧ p7 a0 a1 a2 a3 a4 a5 a6 ∧ p8 a0 a1 a2 a3 a4 a5 a6) (c : ∀ a0 a1 a2 a3 a4 a5 a6, p0 a0 a1 a2 a3 a4 a5 a6 → p1 a0 a1 a2 a3 a4 a5 a6 → p2 a0 a1 a2 a3 a4 a5 a6 → p3 a0 a1 a2 a3 a4 a5 a6 → p4 a0 a1 a2 a3 a4 a5 a6 → p5 a0 a1 a2 a3 a4 a5 a6 → p6 a0 a1 a2 a3 a4 a5 a6 → p7 a0 a1 a2 a3 a4 a5 a6 → p8 a0 a1 a2 a3 a4 a5 a6 → G) : G := by
  obtain ⟨a0, a1, a2, a3, a4, a5, a6, h0, h1, h2, h3, h4, h5, h6, h7, h8⟩ := h
  exact c a0 a1 a2 a3 a4 a5 a6 h0 h1 h2 h3 h4 h5 h6 h7 h8
end Jr
end
-- JA
section
namespace Jr
open PySem PySem.W PySem.Calls PyProof.Rows

/-! the state: a frozen part g, a list l of owned objects, each with what is said of it -/
abbrev Ent := Addr × (Obj → Prop)
def Le (g g' : Heap) : Prop := ∀ b o, g.get? b = some o → g'.get? b = some o
theorem Le.refl (g : Heap) : Le g g := fun _ _ e => e
theorem Le.trans {g g' g'' : Heap} (a : Le g g') (b : Le g' g'') : Le g g'' := fun x o e => b x o (a x o e)

structure Wd where
  gens : Array GenState
  os : OsState

structure St (x : Wd) (g : Heap) (l : List Ent) (s : Shared) : Prop where
  keep : Le g s.heap
  own : ∀ p ∈ l, g.get? p.1 = none ∧ ∃ o, s.heap.get? p.1 = some o ∧ p.2 o
  nodup : (l.map (·.1)).Nodup
  gens : s.gens = x.gens
  os : s.os = x.os

variable {x : Wd} {g : Heap} {l : List Ent} {s : Shared}

theorem St.get {a : Addr} {P : Obj → Prop} (S : St x g l s) (h : (a, P) ∈ l) : ∃ o, s.heap.get? a = some o ∧ P o := (S.own _ h).2
theorem St.out {a : Addr} {P : Obj → Prop} (S : St x g l s) (h : (a, P) ∈ l) : g.get? a = none := (S.own _ h).1

theorem St.tok (S : St x g l s) (t : Nat) : St x g l { s with toks := t } := ⟨S.keep, S.own, S.nodup, S.gens, S.os⟩

theorem St.push (S : St x g l s) {o : Obj} {P : Obj → Prop} (hP : P o) (hf : o.isFreed = false) (t : Nat := s.toks) :
    St x g ((s.heap.objs.size, P) :: l) { s with heap := s.heap.push o, toks := t } where
  keep := fun b o' e => Heap.get?_push_of_some _ (S.keep b o' e)
  own := by
    intro p hp
    rcases List.mem_cons.mp hp with rfl | hp
    · refine ⟨?_, o, Heap.get?_push_size _ hf, hP⟩
      cases hq : g.get? s.heap.objs.size with
      | none => rfl
      | some o' => exact absurd (Heap.lt_size (S.keep _ _ hq)) (Nat.lt_irrefl _)
    · refine el02 (S.own p hp) fun h1 z1_ => ?_; refine el12 z1_ fun o' h2 h3 => ?_; try clear z1_
      exact ⟨h1, o', Heap.get?_push_of_some _ h2, h3⟩
  nodup := by
    rw [List.map_cons, List.nodup_cons]
    refine ⟨fun hm => ?_, S.nodup⟩
    refine el12 (List.mem_map.mp hm) fun p hp e => ?_
    refine el02 (S.own p hp) fun _ z2_ => ?_; refine el12 z2_ fun o' h2 _ => ?_; try clear z2_
    have : p.1 = s.heap.objs.size := e
    rw [this] at h2
    exact absurd (Heap.lt_size h2) (Nat.lt_irrefl _)
  gens := S.gens
  os := S.os

theorem St.drop {p : Ent} (S : St x g (p :: l) s) : St x g l s :=
  ⟨S.keep, fun q hq => S.own q (List.mem_cons_of_mem _ hq), (List.nodup_cons.mp S.nodup).2, S.gens, S.os⟩
theorem St.perm {l' : List Ent} (S : St x g l s) (h : l.Perm l') : St x g l' s :=
  ⟨S.keep, fun q hq => S.own q (h.mem_iff.mpr hq), (h.map _).nodup_iff.mp S.nodup, S.gens, S.os⟩
theorem St.weak {a : Addr} {P P' : Obj → Prop} (S : St x g ((a, P) :: l) s) (h : ∀ o, P o → P' o) : St x g ((a, P') :: l) s where
  keep := S.keep
  own := by
    intro q hq
    rcases List.mem_cons.mp hq with rfl | hq
    · refine el02 (S.own (a, P) (List.mem_cons_self ..)) fun h1 z3_ => ?_; refine el12 z3_ fun o h2 h3 => ?_; try clear z3_
      exact ⟨h1, o, h2, h _ h3⟩
    · exact S.own q (List.mem_cons_of_mem _ hq)
  nodup := S.nodup
  gens := S.gens
  os := S.os

/-- the frozen part takes in all but what stays owned -/
theorem St.freeze {a : Addr} {P : Obj → Prop} (S : St x g ((a, P) :: l) s) : ∃ g' o, Le g g' ∧ g'.get? a = some o ∧ P o ∧ g.get? a = none ∧ St x g' l s := by
  refine el02 (S.own (a, P) (List.mem_cons_self ..)) fun h1 z4_ => ?_; refine el12 z4_ fun o h2 h3 => ?_; try clear z4_
  have hnd := List.nodup_cons.mp S.nodup
  refine ⟨hideAll s.heap (l.map (·.1)), o, fun b o' e => ?_, hideAll_get _ h2 hnd.1, h3, h1, ?_⟩
  · refine hideAll_get _ (S.keep _ _ e) fun hm => ?_
    refine el12 (List.mem_map.mp hm) fun p hp e5_ => ?_; subst e5_
    have := (S.own p (List.mem_cons_of_mem _ hp)).1
    rw [this] at e; cases e
  · exact ⟨fun b o' e => of_hideAll _ e, fun q hq => ⟨hideAll_none _ (List.mem_map_of_mem hq), (S.own q (List.mem_cons_of_mem _ hq)).2⟩, hnd.2, S.gens, S.os⟩

/-- one owned object is turned -/
inductive Upd : List Ent → Addr → (Obj → Prop) → (Obj → Prop) → List Ent → Prop
  | head {a P P' l} : Upd ((a, P) :: l) a P P' ((a, P') :: l)
  | tail {a P P' l l' p} : Upd l a P P' l' → Upd (p :: l) a P P' (p :: l')

theorem Upd.mem {a : Addr} {P P' : Obj → Prop} {l l' : List Ent} (U : Upd l a P P' l') : (a, P) ∈ l := by
  induction U with
  | head => exact List.mem_cons_self ..
  | tail _ ih => exact List.mem_cons_of_mem _ ih
theorem Upd.addrs {a : Addr} {P P' : Obj → Prop} {l l' : List Ent} (U : Upd l a P P' l') : l'.map (·.1) = l.map (·.1) := by
  induction U with
  | head => rfl
  | tail _ ih => rw [List.map_cons, List.map_cons, ih]
theorem Upd.cases {a : Addr} {P P' : Obj → Prop} {l l' : List Ent} (U : Upd l a P P' l') (hn : (l.map (·.1)).Nodup) : ∀ q ∈ l', q = (a, P') ∨ (q ∈ l ∧ q.1 ≠ a) := by
  induction U with
  | @head a P P' l =>
    intro q hq
    rcases List.mem_cons.mp hq with rfl | hq
    · exact .inl rfl
    · refine .inr ⟨List.mem_cons_of_mem _ hq, fun e => ?_⟩
      exact (List.nodup_cons.mp hn).1 (e ▸ List.mem_map_of_mem (f := (·.1)) hq)
  | @tail a P P' l l' p U ih =>
    intro q hq
    rw [List.map_cons, List.nodup_cons] at hn
    rcases List.mem_cons.mp hq with rfl | hq
    · refine .inr ⟨List.mem_cons_self .., fun e => hn.1 ?_⟩
      rw [e]; exact List.mem_map_of_mem (f := (·.1)) U.mem
    · rcases ih hn.2 q hq with h | h
      · exact .inl h
      · exact .inr ⟨List.mem_cons_of_mem _ h.1, h.2⟩

theorem St.upd {a : Addr} {P P' : Obj → Prop} {l' : List Ent} {h' : Heap} {o' : Obj} (S : St x g l s) (U : Upd l a P P' l') (hs : ∀ b o, b ≠ a → s.heap.get? b = some o → h'.get? b = some o)
    (ho : h'.get? a = some o') (hP : P' o') (t : Nat) : St x g l' { s with heap := h', toks := t } where
  keep := by
    intro b o e
    have hb : b ≠ a := fun q => by rw [q, S.out U.mem] at e; cases e
    exact hs b o hb (S.keep b o e)
  own := by
    intro q hq
    rcases U.cases S.nodup q hq with rfl | ⟨h1, h2⟩
    · exact ⟨S.out U.mem, o', ho, hP⟩
    · refine el02 (S.own q h1) fun k1 z6_ => ?_; refine el12 z6_ fun o k2 k3 => ?_; try clear z6_
      exact ⟨k1, o, hs _ _ h2 k2, k3⟩
  nodup := by rw [U.addrs]; exact S.nodup
  gens := S.gens
  os := S.os

theorem St.ext {h' : Heap} (S : St x g l s) (hs : ∀ b o, s.heap.get? b = some o → h'.get? b = some o) (t : Nat) : St x g l { s with heap := h', toks := t } :=
  ⟨fun b o e => hs b o (S.keep b o e), fun q hq => let ⟨a, o, b, c⟩ := S.own q hq; ⟨a, o, hs _ _ b, c⟩, S.nodup, S.gens, S.os⟩

/-! what is said of an object -/
def NsP (m : Str → Option Value) (o : Obj) : Prop := ∃ es ep, o.data = .dict es ep ∧ StrKeys es ∧ ∀ name, nsFind es name = m name
def CellP (v : Option Value) (o : Obj) : Prop := o.data = .cell v
def ListP (vs : List Value) (o : Obj) : Prop := o.cls = .type "list" ∧ o.dict = none ∧ ∃ n, o.data = .seq vs.toArray n
def TupP (vs : List Value) (o : Obj) : Prop := o.cls = .type "tuple" ∧ o.dict = none ∧ ∃ n, o.data = .seq vs.toArray n

theorem St.ns {a : Addr} {m} (S : St x g l s) (h : (a, NsP m) ∈ l) : s.heap.Ns a m := by
  refine el12 (S.get h) fun o ho z7_ => ?_; refine el23 z7_ fun es ep h1 h2 h3 => ?_; try clear z7_
  exact ⟨o, es, ep, ho, h1, h2, h3⟩
theorem St.cell {a : Addr} {v} (S : St x g l s) (h : (a, CellP v) ∈ l) : s.heap.IsCell a v := by
  refine el12 (S.get h) fun o ho h1 => ?_
  exact ⟨o, ho, h1⟩
theorem St.list {a : Addr} {vs} (S : St x g l s) (h : (a, ListP vs) ∈ l) : s.heap.IsList a vs.toArray := by
  refine el14 (S.get h) fun o ho h1 _ z8_ => ?_; refine el11 z8_ fun n h2 => ?_; try clear z8_
  exact ⟨o, ho, h1, n, h2⟩

def upd (m : Str → Option Value) (k : Str) (v : Value) : Str → Option Value := fun y => if y = k then some v else m y
theorem upd_same {m : Str → Option Value} {k : Str} {v : Value} : upd m k v k = some v := by simp [upd]
theorem upd_ne {m : Str → Option Value} {k y : Str} {v : Value} {u : Option Value} (h : (y == k) = false) (e : m y = u) : upd m k v y = u := by
  have : y ≠ k := fun q => by subst q; simp at h
  simp [upd, this, e]

variable {M : Model} {A : Around} {E : Value → Shared → Prop}

/-- storing a local name -/
theorem stL {env : Env} {m : Str → Option Value} {y : Str} {v : Value} {Q : Unit → Shared → Prop} {l' : List Ent} (S : St x g l s) (hk : env.kindOf y = some .local) (hf : env.scope.kind = .function)
    (U : Upd l env.locals (NsP m) (NsP (upd m y v)) l') (h : ∀ s', St x g l' s' → Q () s') : wpAny M A (storeName env y v) Q E s := by
  refine wpAny_storeName_local hk (S.ns U.mem) (fun h' hn hs => h _ ?_) (by rw [hf]; rfl)
  refine el34 hn fun o es ep ho h1 h2 h3 => ?_; try clear hn
  exact S.upd U (fun b o hb e => (hs.2 b hb).trans e) ho ⟨es, ep, h1, h2, h3⟩ _
theorem stC {env : Env} {c : Addr} {u : Option Value} {y : Str} {v : Value} {Q : Unit → Shared → Prop} {l' : List Ent} (S : St x g l s) (hk : env.kindOf y = some .cell) (hf : env.scope.kind = .function)
    (hc : env.cells.lookup y = some c) (U : Upd l c (CellP u) (CellP (some v)) l') (h : ∀ s', St x g l' s' → Q () s') : wpAny M A (storeName env y v) Q E s := by
  refine wpAny_storeName_cell hf hk hc (S.cell U.mem) (fun h' hn hs => h _ ?_)
  obtain ⟨o, ho, h1⟩ := hn
  exact S.upd U (fun b o hb e => (hs.2 b hb).trans e) ho h1 _
theorem ldL {env : Env} {m : Str → Option Value} {y : Str} {pos : Pos} {v : Value} {Q : Value → Shared → Prop} (S : St x g l s) (hk : env.kindOf y = some .local) (hf : env.scope.kind = .function)
    (hm : (env.locals, NsP m) ∈ l) (hv : m y = some v) (h : Q v s) (hd : (y == ("__debug__" : Str)) = false := by decide) : wpAny M A (eval (.Name y pos) env) Q E s :=
  wpAny_Name (wpAny_loadName_local hf hk (S.ns hm) hv h) hd
theorem ldC {env : Env} {c : Addr} {y : Str} {pos : Pos} {v : Value} {Q : Value → Shared → Prop} (S : St x g l s) (hk : env.kindOf y = some .cell) (hf : env.scope.kind = .function)
    (hc : env.cells.lookup y = some c) (hm : (c, CellP (some v)) ∈ l) (h : Q v s) (hd : (y == ("__debug__" : Str)) = false := by decide) : wpAny M A (eval (.Name y pos) env) Q E s :=
  wpAny_Name (wpAny_loadName_cell hf hk hc (S.cell hm) h) hd
def Cellz (g : Heap) (c : Addr) (v : Value) : Prop := ∃ o, g.get? c = some o ∧ o.data = .cell (some v)
theorem Cellz.le {g g' : Heap} {c : Addr} {v : Value} (h : Cellz g c v) (k : Le g g') : Cellz g' c v := by obtain ⟨o, a, b⟩ := h; exact ⟨o, k _ _ a, b⟩
theorem ldZ {env : Env} {c : Addr} {y : Str} {pos : Pos} {v : Value} {Q : Value → Shared → Prop} (S : St x g l s) (hk : env.kindOf y = some .cell ∨ env.kindOf y = some .free) (hf : env.scope.kind = .function)
    (hc : env.cells.lookup y = some c) (hm : Cellz g c v) (h : Q v s) (hd : (y == ("__debug__" : Str)) = false := by decide) (hn : (y == ("__classdict__" : Str)) = false := by decide) : wpAny M A (eval (.Name y pos) env) Q E s := by
  refine el12 hm fun o ho hv => ?_; try clear hm
  rcases hk with hk | hk
  · exact wpAny_Name (wpAny_loadName_cell hf hk hc ⟨o, S.keep _ _ ho, hv⟩ h) hd
  · exact wpAny_Name (wpAny_loadName_free hf hk hc ⟨o, S.keep _ _ ho, hv⟩ h hn) hd

/-- a name of the module -/
theorem ldG {env : Env} {mg : Str → Option Value} {y : Str} {pos : Pos} {v : Value} {Q : Value → Shared → Prop} (S : St x g l s) (hk : env.kindOf y = some .globalImplicit) (hf : env.scope.kind = .function)
    (hg : g.Ns env.globals mg) (hv : mg y = some v) (h : Q v s) (hd : (y == ("__debug__" : Str)) = false := by decide) : wpAny M A (eval (.Name y pos) env) Q E s :=
  Name_function_global hf hk (loadGlobal_global (hg.keeps S.keep) hv h) hd
theorem ldB {env : Env} {mg mb : Str → Option Value} {y : Str} {pos : Pos} {v : Value} {Q : Value → Shared → Prop} (S : St x g l s) (hk : env.kindOf y = some .globalImplicit) (hf : env.scope.kind = .function)
    (hg : g.Ns env.globals mg) (hv : mg y = none) (hb : g.Ns env.builtins mb) (hv' : mb y = some v) (h : Q v s) (hd : (y == ("__debug__" : Str)) = false := by decide) : wpAny M A (eval (.Name y pos) env) Q E s :=
  Name_function_global hf hk (loadGlobal_builtin (hg.keeps S.keep) hv (hb.keeps S.keep) hv' h) hd

/-! displays -/
theorem nwList {vs : List Value} {Q : Value → Shared → Prop} (S : St x g l s) (hz : vs.length ≤ sizeLine) (h : ∀ a s', St x g ((a, ListP vs) :: l) s' → Q (.ref a) s') : wpAny M A (newList vs) Q E s :=
  wpAny_newObj_type (h _ _ (S.push (P := ListP vs) ⟨rfl, rfl, 0, rfl⟩ rfl)) (by show vs.toArray.size ≤ sizeLine; rw [List.size_toArray]; exact hz)
theorem nwTuple {vs : List Value} {Q : Value → Shared → Prop} (S : St x g l s) (hz : vs.length ≤ sizeLine) (h : ∀ a s', St x g ((a, TupP vs) :: l) s' → Q (.ref a) s') : wpAny M A (newTuple vs) Q E s :=
  wpAny_newObj_type (h _ _ (S.push (P := TupP vs) ⟨rfl, rfl, 0, rfl⟩ rfl)) (by show vs.toArray.size ≤ sizeLine; rw [List.size_toArray]; exact hz)
end Jr
end
local macro_rules | `(tactic| walk_at "up") => `(tactic| first | exact Jr.Upd.head | (apply Jr.Upd.tail; walk_at "up"))
local macro_rules | `(tactic| walk_at "lk") => `(tactic| first | assumption | exact Jr.upd_same | (refine Jr.upd_ne (by decide) ?_; walk_at "lk"))
local macro_rules | `(tactic| walk_at "om") => `(tactic| first | exact Nat.lt_of_lt_of_le (by assumption) (by decide) | exact Nat.lt_of_lt_of_le (Nat.add_lt_add_right (by assumption) _) (by decide) | lia | omega)
-- JB
section
namespace Jr
open PySem PySem.W PySem.Calls PyProof.Rows
variable {x : Wd} {g : Heap} {l : List Ent} {s : Shared} {M : Model} {A : Around} {E : Value → Shared → Prop}

/-! a def of the text is called -/
def cellNs : List (Str × NameKind) → List Str
  | [] => []
  | (n, k) :: r => if k == .cell then n :: cellNs r else cellNs r

theorem layCells {f : Str × NameKind → List (Str × Addr) → Sem (ForInStep (List (Str × Addr)))}
    (hf : ∀ name kind cells, f (name, kind) cells = if kind == .cell then (do let a ← alloc { cls := .type "cell", data := .cell none }; pure (.yield ((name, a) :: cells))) else pure (.yield cells)) :
    ∀ (names : List (Str × NameKind)) (acc : List (Str × Addr)) (l : List Ent) (s : Shared) (Q : List (Str × Addr) → Shared → Prop), St x g l s →
      (∀ bs s', bs.length = (cellNs names).length → St x g (bs.map (fun b => (b, CellP none)) ++ l) s' → Q ((cellNs names).reverse.zip bs ++ acc) s') → wpAny M A (forIn names acc f) Q E s
  | [], acc, l, s, Q, S, h => by
    rw [List.forIn_nil]
    exact wpAny_pure (h [] s rfl S)
  | (n, k) :: r, acc, l, s, Q, S, h => by
    rw [List.forIn_cons, hf]
    unfold cellNs at h
    split
    · rename_i hk
      rw [if_pos hk] at h
      refine wpAny_bind (wpAny_bind (wpAny_alloc (wpAny_pure ?_)))
      refine layCells hf r _ ((s.heap.objs.size, CellP none) :: l) _ Q (S.push (o := { cls := .type "cell", data := .cell none }) (P := CellP none) rfl rfl) fun bs s' hl S' => ?_
      have h1 := h (bs ++ [s.heap.objs.size]) s' (by simp [hl]) (by simpa using S')
      rw [List.reverse_cons, List.zip_append (by simp [hl])] at h1
      simpa using h1
    · rename_i hk
      rw [if_neg hk] at h
      exact wpAny_bind (wpAny_pure (layCells hf r acc l s Q S h))

def storeAll (env : Env) : List (Str × Value) → Sem Unit
  | [] => pure ()
  | (n, v) :: r => do storeName env n v; storeAll env r
theorem stored_nil {env : Env} {Q : Unit → Shared → Prop} (h : Q () s) : wpAny M A (storeAll env []) Q E s := wpAny_pure h
theorem stored_cons {env : Env} {n : Str} {v : Value} {r : List (Str × Value)} {Q : Unit → Shared → Prop} (h : wpAny M A (storeName env n v) (fun _ s' => wpAny M A (storeAll env r) Q E s') E s) :
    wpAny M A (storeAll env ((n, v) :: r)) Q E s := wpAny_bind h

theorem storedFor {env : Env} {f : Str × Value → PUnit → Sem (ForInStep PUnit)} (hf : ∀ n v u, f (n, v) u = (do storeName env n v; pure (.yield ⟨⟩))) :
    ∀ (binds : List (Str × Value)), (forIn binds ⟨⟩ f : Sem PUnit) = storeAll env binds
  | [] => by rw [List.forIn_nil]; rfl
  | (n, v) :: r => by
    rw [List.forIn_cons, hf, bind_assoc]
    show (storeName env n v >>= fun _ => (pure (ForInStep.yield PUnit.unit) : Sem _) >>= _) = storeName env n v >>= fun _ => storeAll env r
    congr 1
    funext _
    rw [pure_bind]
    exact storedFor hf r

/-- the env of a def's own frame -/
abbrev fnEnv (fd : FuncData) (a L : Addr) (cs : List (Str × Addr)) : Env :=
  { scope := fd.scope, locals := L, globals := fd.globals, cells := cs, qual := fd.qualname ++ ".<locals>.", func := some a, code := fd.code, frame := some L, builtins := fd.builtins }

theorem nwFrame {scope : Scope} {globals : Addr} {closure : List (Str × Addr)} {binds : List (Str × Value)} {qual : Str} {func : Option Addr} {code : Value} {builtins : Addr} {Q : Env → Shared → Prop}
    (S : St x g l s)
    (h : ∀ L bs s', bs.length = (cellNs scope.names).length → St x g (bs.map (fun b => (b, CellP none)) ++ (L, NsP fun _ => none) :: l) s' →
      wpAny M A (storeAll { scope := scope, locals := L, globals := globals, cells := (cellNs scope.names).reverse.zip bs ++ closure, qual := qual, func := func, code := code, frame := some L, builtins := builtins } binds)
        (fun _ => Q { scope := scope, locals := L, globals := globals, cells := (cellNs scope.names).reverse.zip bs ++ closure, qual := qual, func := func, code := code, frame := some L, builtins := builtins }) E s') :
    wpAny M A (newFunctionEnv scope globals closure binds qual func code none builtins) Q E s := by
  simp only [newFunctionEnv, Option.isSome_none, Bool.false_eq_true, if_false]
  refine wpAny_bind (wpAny_alloc ?_)
  have S1 := S.push (o := { cls := .type "frame", data := .dict #[] }) (P := NsP fun _ => none) ⟨#[], 0, rfl, fun _ he => by simp at he, fun _ => rfl⟩ rfl
  refine wpAny_bind (layCells (fun name kind cells => by cases hkc : kind == NameKind.cell <;> simp [hkc]) _ _ _ _ _ S1 fun bs s' hl S2 => ?_)
  refine wpAny_bind ?_
  rw [storedFor (env := { scope := scope, locals := s.heap.objs.size, globals := globals, cells := (cellNs scope.names).reverse.zip bs ++ closure, qual := qual, func := func, code := code, frame := some s.heap.objs.size, builtins := builtins }) (fun _ _ _ => rfl)]
  exact wpAny_mono (h _ bs s' hl S2) (fun _ _ q => wpAny_pure q) fun _ _ e => e

theorem codeRec_le {g g' : Heap} {cd : Value} {q : Str} (h : g.CodeRec cd q) (k : Le g g') : g'.CodeRec cd q := h.keeps k

theorem callF {prog : Program} {w : World} {R : Result → Shared → Prop} {a : Addr} {o : Obj} {fd : FuncData} {body : List Stmt} {args : Args} {binds : List (Str × Value)}
    (S : St x g l s) (ho : g.get? a = some o) (hd : o.data = .func fd) (hcd : g.CodeRec fd.code fd.qualname) (hlim : g.NoLimit) (hroom : A.depth < recursionLimit) (hb : BindsTo s fd args binds)
    (h : ∀ L bs s', bs.length = (cellNs fd.scope.names).length → St x g (bs.map (fun b => (b, CellP none)) ++ (L, NsP fun _ => none) :: l) s' →
      wpAny (model prog w) A.in1 (storeAll (fnEnv fd a L ((cellNs fd.scope.names).reverse.zip bs ++ fd.closure)) binds)
        (fun _ s₂ => Le g s₂.heap ∧ wpAny (model prog w) (A.deeper (fnEnv fd a L ((cellNs fd.scope.names).reverse.zip bs ++ fd.closure))) (execs body (fnEnv fd a L ((cellNs fd.scope.names).reverse.zip bs ++ fd.closure)))
          (fun f s' => R (.ok (.ret (match f with | .ret v => v | _ => .none))) s')
          (fun e s' => wpAny (model prog w) (A.deeper (fnEnv fd a L ((cellNs fd.scope.names).reverse.zip bs ++ fd.closure))) (leaving (fnEnv fd a L ((cellNs fd.scope.names).reverse.zip bs ++ fd.closure)) e) (fun _ s'' => R (.error e) s'') (fun e' s'' => R (.error e') s'') s') s₂)
        (fun e s' => R (.error e) s') s')
    (hbody : fd.body = .stmts body := by rfl) (hco : fd.scope.isCoroutine = false := by rfl) (hgen : fd.scope.isGenerator = false := by rfl) : codeAny (model prog w) A (.call (.ref a) args) R s := by
  refine codeAny_call_function hroom (S.keep _ _ ho) hd hco hgen hbody (codeRec_le hcd S.keep) (hb _ _ _ _ ?_)
  refine nwFrame S fun L bs s' hl S' => wpAny_mono (h L bs s' hl S') (fun _ s₂ h₂ => ?_) fun _ _ e => e
  exact ⟨hlim.keeps h₂.1, codeAny_func h₂.2⟩

/-- a call that does not raise -/
theorem callFQ {prog : Program} {w : World} {Q : Value → Shared → Prop} {a : Addr} {o : Obj} {fd : FuncData} {body : List Stmt} {args : Args} {binds : List (Str × Value)}
    (S : St x g l s) (ho : g.get? a = some o) (hd : o.data = .func fd) (hcd : g.CodeRec fd.code fd.qualname) (hlim : g.NoLimit) (hroom : A.depth < recursionLimit) (hb : BindsTo s fd args binds)
    (h : ∀ L bs s', bs.length = (cellNs fd.scope.names).length → St x g (bs.map (fun b => (b, CellP none)) ++ (L, NsP fun _ => none) :: l) s' →
      wpAny (model prog w) A.in1 (storeAll (fnEnv fd a L ((cellNs fd.scope.names).reverse.zip bs ++ fd.closure)) binds)
        (fun _ s₂ => Le g s₂.heap ∧ wpAny (model prog w) (A.deeper (fnEnv fd a L ((cellNs fd.scope.names).reverse.zip bs ++ fd.closure))) (execs body (fnEnv fd a L ((cellNs fd.scope.names).reverse.zip bs ++ fd.closure)))
          (fun f s' => Q (match f with | .ret v => v | _ => .none) s') (fun _ _ => False) s₂) (fun _ _ => False) s')
    (hbody : fd.body = .stmts body := by rfl) (hco : fd.scope.isCoroutine = false := by rfl) (hgen : fd.scope.isGenerator = false := by rfl) : wpAny (model prog w) A (call (.ref a) args.pos args.kw) Q E s := by
  refine wpAny_call (callF (body := body) (args := args) S ho hd hcd hlim hroom hb (fun L bs s' hl S' => ?_) hbody hco hgen)
  refine wpAny_mono (h L bs s' hl S') (fun _ s₂ h₂ => ⟨h₂.1, ?_⟩) fun _ _ e => e.elim
  exact wpAny_mono h₂.2 (fun f s' q => q) fun _ _ e => e.elim

/-- the same, no cells -/
theorem callFQ0 {prog : Program} {w : World} {Q : Value → Shared → Prop} {a : Addr} {o : Obj} {fd : FuncData} {body : List Stmt} {args : Args} {binds : List (Str × Value)} {scope : Scope} {clo : List (Str × Addr)} {qual : Str} {code : Value}
    (S : St x g l s) (ho : g.get? a = some o) (hd : o.data = .func fd) (hcd : g.CodeRec code qual) (hlim : g.NoLimit) (hroom : A.depth < recursionLimit) (hb : BindsTo s fd args binds)
    (h : ∀ L s', St x g ((L, NsP fun _ => none) :: l) s' →
      wpAny (model prog w) A.in1 (storeAll { scope := scope, locals := L, globals := mainGlobals, cells := clo, qual := qual ++ ".<locals>.", func := some a, code := code, frame := some L, builtins := builtinsNs } binds)
        (fun _ s₂ => Le g s₂.heap ∧ wpAny (model prog w) (A.deeper { scope := scope, locals := L, globals := mainGlobals, cells := clo, qual := qual ++ ".<locals>.", func := some a, code := code, frame := some L, builtins := builtinsNs })
          (execs body { scope := scope, locals := L, globals := mainGlobals, cells := clo, qual := qual ++ ".<locals>.", func := some a, code := code, frame := some L, builtins := builtinsNs })
          (fun f s' => Q (match f with | .ret v => v | _ => .none) s') (fun _ _ => False) s₂) (fun _ _ => False) s')
    (hbody : fd.body = .stmts body := by rfl) (hsc : fd.scope = scope := by rfl) (hclo : fd.closure = clo := by rfl) (hq : fd.qualname = qual := by rfl) (hcode : fd.code = code := by rfl) (hgl : fd.globals = mainGlobals := by rfl) (hbu : fd.builtins = builtinsNs := by rfl)
    (hcell : cellNs scope.names = [] := by rfl) (hco : scope.isCoroutine = false := by rfl) (hgen : scope.isGenerator = false := by rfl) : wpAny (model prog w) A (call (.ref a) args.pos args.kw) Q E s := by
  subst hsc hclo hq hcode
  refine callFQ (body := body) S ho hd hcd hlim hroom hb (fun L bs s' hl S' => ?_) hbody hco hgen
  rw [hcell] at hl
  obtain rfl : bs = [] := List.length_eq_zero_iff.mp hl
  have e : (cellNs fd.scope.names).reverse.zip ([] : List Addr) ++ fd.closure = fd.closure := by rw [hcell]; rfl
  have e2 : fnEnv fd a L ((cellNs fd.scope.names).reverse.zip ([] : List Addr) ++ fd.closure) = { scope := fd.scope, locals := L, globals := mainGlobals, cells := fd.closure, qual := fd.qualname ++ ".<locals>.", func := some a, code := fd.code, frame := some L, builtins := builtinsNs } := by
    rw [e]; unfold fnEnv; rw [hgl, hbu]
  rw [e2]
  exact h L s' S'

/-- the same, with cells: cn is the names of the cells, the last first -/
theorem callFQc {prog : Program} {w : World} {Q : Value → Shared → Prop} {a : Addr} {o : Obj} {fd : FuncData} {body : List Stmt} {args : Args} {binds : List (Str × Value)} {scope : Scope} {clo : List (Str × Addr)} {qual : Str} {code : Value} (cn : List Str)
    (S : St x g l s) (ho : g.get? a = some o) (hd : o.data = .func fd) (hcd : g.CodeRec code qual) (hlim : g.NoLimit) (hroom : A.depth < recursionLimit) (hb : BindsTo s fd args binds)
    (h : ∀ L bs s', bs.length = cn.length → St x g (bs.map (fun b => (b, CellP none)) ++ (L, NsP fun _ => none) :: l) s' →
      wpAny (model prog w) A.in1 (storeAll { scope := scope, locals := L, globals := mainGlobals, cells := cn.zip bs ++ clo, qual := qual ++ ".<locals>.", func := some a, code := code, frame := some L, builtins := builtinsNs } binds)
        (fun _ s₂ => Le g s₂.heap ∧ wpAny (model prog w) (A.deeper { scope := scope, locals := L, globals := mainGlobals, cells := cn.zip bs ++ clo, qual := qual ++ ".<locals>.", func := some a, code := code, frame := some L, builtins := builtinsNs })
          (execs body { scope := scope, locals := L, globals := mainGlobals, cells := cn.zip bs ++ clo, qual := qual ++ ".<locals>.", func := some a, code := code, frame := some L, builtins := builtinsNs })
          (fun f s' => Q (match f with | .ret v => v | _ => .none) s') (fun _ _ => False) s₂) (fun _ _ => False) s')
    (hbody : fd.body = .stmts body := by rfl) (hsc : fd.scope = scope := by rfl) (hclo : fd.closure = clo := by rfl) (hq : fd.qualname = qual := by rfl) (hcode : fd.code = code := by rfl) (hgl : fd.globals = mainGlobals := by rfl) (hbu : fd.builtins = builtinsNs := by rfl)
    (hcell : (cellNs scope.names).reverse = cn := by rfl) (hco : scope.isCoroutine = false := by rfl) (hgen : scope.isGenerator = false := by rfl) : wpAny (model prog w) A (call (.ref a) args.pos args.kw) Q E s := by
  subst hsc hclo hq hcode hcell
  refine callFQ (body := body) S ho hd hcd hlim hroom hb (fun L bs s' hl S' => ?_) hbody hco hgen
  have e2 : fnEnv fd a L ((cellNs fd.scope.names).reverse.zip bs ++ fd.closure) = { scope := fd.scope, locals := L, globals := mainGlobals, cells := (cellNs fd.scope.names).reverse.zip bs ++ fd.closure, qual := fd.qualname ++ ".<locals>.", func := some a, code := fd.code, frame := some L, builtins := builtinsNs } := by
    unfold fnEnv; rw [hgl, hbu]
  rw [e2]
  exact h L bs s' (by rw [hl, List.length_reverse]) S'

theorem len1 {bs : List Addr} (h : bs.length = 1) : ∃ a, bs = [a] := List.length_eq_one_iff.mp h
theorem len3 {bs : List Addr} (h : bs.length = 3) : ∃ a b c, bs = [a, b, c] := by
  match bs, h with
  | [a, b, c], _ => exact ⟨a, b, c, rfl⟩

/-! the call of a name -/
theorem argsOf {f : Value} {pos : Pos} {env : Env} {args : List Expr} {Q : Args → Shared → Prop} (hst : (starEach args env).all (fun y => !y.1) = true)
    (h : wpAny M A (spliced (backTo pos (starEach args env))) (fun vs s₂ => Q ⟨vs, []⟩ s₂) E s) : wpAny M A (evalArgs f true (backTo pos (starEach args env)) []) Q E s := by
  have hst' : (backTo pos (starEach args env)).all (fun y => !y.1) = true := by
    rw [List.all_eq_true] at hst ⊢
    intro y hy
    refine el12 (List.mem_map.mp hy) fun z hz e9_ => ?_; subst e9_
    exact hst z hz
  revert h hst'
  generalize backTo pos (starEach args env) = as
  intro h hst'
  match as, hst' with
  | [], _ => exact fun Γ p hΓ => evalArgs_nil3 (Q := Q) (h Γ p hΓ) Γ p hΓ
  | (false, y) :: r, _ => exact evalArgs_plain h

theorem callFn {env : Env} {id : Str} {p pos : Pos} {args : List Expr} {Q : Value → Shared → Prop}
    (h : wpAny M A (eval (.Name id p) env) (fun f s₁ => ∃ a o fd, f = .ref a ∧ o.data = .func fd ∧
      wpAny M A (spliced (backTo pos (starEach args env))) (fun vs s₂ => s₂.heap.get? a = some o ∧ wpAny M A (call f vs []) Q E s₂) E s₁) E s)
    (hst : (starEach args env).all (fun y => !y.1) = true := by rfl) :
    wpAny M A (eval (.Call (.Name id p) args [] pos) env) Q E s := by
  refine wpAny_Call_Name_kw (wpAny_mono h (fun f s₁ h₁ => ?_) fun _ _ e => e)
  refine el33 h₁ fun a o fd e10_ hd h₂ => ?_; try clear h₁; subst e10_
  exact callWith_function_kw (o := o) (fd := fd) (argsOf hst (wpAny_mono h₂ (fun vs s₂ q => ⟨⟨q.1, hd⟩, q.2⟩) fun _ _ e => e))

theorem callBi {env : Env} {id : Str} {p pos : Pos} {args : List Expr} {Q : Value → Shared → Prop}
    (h : wpAny M A (eval (.Name id p) env) (fun f s₁ => ∃ b, f = .builtin b ∧
      wpAny M A (spliced (backTo pos (starEach args env))) (fun vs s₂ => wpAny M A (call f vs []) Q E s₂) E s₁) E s)
    (hst : (starEach args env).all (fun y => !y.1) = true := by rfl) :
    wpAny M A (eval (.Call (.Name id p) args [] pos) env) Q E s := by
  refine wpAny_Call_Name_kw (wpAny_mono h (fun f s₁ h₁ => ?_) fun _ _ e => e)
  refine el12 h₁ fun b e11_ h₂ => ?_; try clear h₁; subst e11_
  have hst' : (backTo pos (starEach args env)).any (·.1) = false := by
    rw [List.any_eq_false]
    intro y hy
    refine el12 (List.mem_map.mp hy) fun z hz e12_ => ?_; subst e12_
    simpa using List.all_eq_true.mp hst z hz
  exact callWith_builtin hst' (argsOf hst (wpAny_mono h₂ (fun vs s₂ q => q) fun _ _ e => e))

/-- the call of a built-in type by its name -/
theorem callTy {env : Env} {id : Str} {p pos : Pos} {args : List Expr} {Q : Value → Shared → Prop}
    (h : wpAny M A (eval (.Name id p) env) (fun f s₁ => ∃ b, f = .type b ∧
      wpAny M A (spliced (backTo pos (starEach args env))) (fun vs s₂ => wpAny M A (call f vs []) Q E s₂) E s₁) E s)
    (hst : (starEach args env).all (fun y => !y.1) = true := by rfl) :
    wpAny M A (eval (.Call (.Name id p) args [] pos) env) Q E s := by
  refine wpAny_Call_Name_kw (wpAny_mono h (fun f s₁ h₁ => ?_) fun _ _ e => e)
  refine el12 h₁ fun b e13_ h₂ => ?_; try clear h₁; subst e13_
  have hst' : ((backTo pos (starEach args env)).any (·.1) || ([] : List (Option Str × Sem Value)).any (·.1.isNone)) = false := by
    rw [Bool.or_eq_false_iff]
    refine ⟨?_, rfl⟩
    rw [List.any_eq_false]
    intro y hy
    refine el12 (List.mem_map.mp hy) fun z hz e14_ => ?_; subst e14_
    simpa using List.all_eq_true.mp hst z hz
  refine callWith_of (P := fun _ => True) hst' (fun hh _ => ⟨.machine, .inr (.inl rfl), ?_⟩) (argsOf hst (wpAny_mono h₂ (fun vs s₂ q => ⟨trivial, by simpa using q⟩) fun _ _ e => e))
  exact .of_pure rfl

theorem spl_nil {pos : Pos} {env : Env} {Q : List Value → Shared → Prop} (h : Q [] s) : wpAny M A (spliced (backTo pos (starEach [] env))) Q E s := wpAny_items_nil h
end Jr
end
-- JO
section
namespace Jr
open PySem PySem.W PySem.Calls
variable {x : Wd} {g : Heap} {l : List Ent} {s : Shared} {A : Around} {E : Value → Shared → Prop} {prog : Program} {w : World} {a b : Int} {t u : Tok} {Q : Value → Shared → Prop} {env : Env}

theorem cInt {i : Int} {k : Nat} {pos : Pos} {M : Model} (S : St x g l s) (h : ∀ t s', St x g l s' → Q (.int i t) s') : wpAny M A (eval (.Constant (.int i) k pos) env) Q E s := wpAny_Constant_int (h _ _ (S.tok _))
theorem cStr {i : Str} {k : Nat} {pos : Pos} {M : Model} (S : St x g l s) (h : ∀ t s', St x g l s' → Q (.str i t) s') : wpAny M A (eval (.Constant (.str i) k pos) env) Q E s := wpAny_Constant_str (h _ _ (S.tok _))
theorem cBytes {i : List UInt8} {k : Nat} {pos : Pos} {M : Model} (S : St x g l s) (h : ∀ t s', St x g l s' → Q (.bytes i.toArray t) s') : wpAny M A (eval (.Constant (.bytes i) k pos) env) Q E s :=
  fun _ _ _ => h _ _ (S.tok (s.toks + 1))

theorem oAdd (S : St x g l s) (h : ∀ t s', St x g l s' → Q (.int (a + b) t) s') : wpAny (model prog w) A (binaryOp .Add (.int a t) (.int b u)) Q E s := wpAny_add_int (h _ _ (S.tok _))
theorem oSub (S : St x g l s) (h : ∀ t s', St x g l s' → Q (.int (a - b) t) s') : wpAny (model prog w) A (binaryOp .Sub (.int a t) (.int b u)) Q E s := PyProof.Rows.sub_int (h _ _ (S.tok _))
theorem oMod (S : St x g l s) (hb : b ≠ 0) (h : ∀ t s', St x g l s' → Q (.int (a.fmod b) t) s') : wpAny (model prog w) A (binaryOp .Mod (.int a t) (.int b u)) Q E s := PyProof.Rows.mod_int hb (h _ _ (S.tok _))
theorem oDiv (S : St x g l s) (hb : b ≠ 0) (hz : b.natAbs < 1073741824) (h : ∀ t s', St x g l s' → Q (.int (a.fdiv b) t) s') : wpAny (model prog w) A (binaryOp .FloorDiv (.int a t) (.int b u)) Q E s :=
  PyProof.Rows.floordiv_int hb (h _ _ (S.tok _)) (Or.inl (PyProof.noPylong_small hz))
theorem oMul (S : St x g l s) (ha : a.natAbs < 2 ^ 64) (h : ∀ t s', St x g l s' → Q (.int (a * b) t) s') : wpAny (model prog w) A (binaryOp .Mult (.int a t) (.int b u)) Q E s :=
  PyProof.Rows.mul_int (h _ _ (S.tok _)) (IntMulOk.of_left (by
    unfold Builtin.Int.intBits
    by_cases h0 : a.natAbs = 0
    · simp [h0]; split <;> decide
    · have := (Nat.log2_lt h0).mpr ha
      split <;> walk_at "om"))
theorem oPow (S : St x g l s) (hn : 0 ≤ b) (hn2 : b ≤ 1000000) (ha : a.natAbs < 2 ^ 64) (h : ∀ t s', St x g l s' → Q (.int (a ^ b.toNat) t) s') : wpAny (model prog w) A (binaryOp .Pow (.int a t) (.int b u)) Q E s :=
  PyProof.Rows.pow_int_small hn hn2 ha (h _ _ (S.tok _))
theorem oAnd (S : St x g l s) (h : ∀ t s', St x g l s' → Q (.int (Builtin.bitAnd a b) t) s') : wpAny (model prog w) A (binaryOp .BitAnd (.int a t) (.int b u)) Q E s := PyProof.Rows.and_int (h _ _ (S.tok _))
theorem oOr (S : St x g l s) (h : ∀ t s', St x g l s' → Q (.int (Builtin.bitOr a b) t) s') : wpAny (model prog w) A (binaryOp .BitOr (.int a t) (.int b u)) Q E s := PyProof.Rows.or_int (h _ _ (S.tok _))
theorem oNeg (S : St x g l s) (h : ∀ t s', St x g l s' → Q (.int (-a) t) s') : wpAny (model prog w) A (unaryOp .USub (.int a t)) Q E s := PySem.P.neg_int (h _ _ (S.tok _))
theorem oAbs (S : St x g l s) (h : ∀ t s', St x g l s' → Q (.int (if a < 0 then -a else a) t) s') : wpAny (model prog w) A (call (.builtin "abs") [.int a t] []) Q E s := PyProof.Rows.call_abs_int fun _ _ => h _ _ (S.tok _)
theorem oLt (h : Q (.bool (decide (a < b))) s) : wpAny (model prog w) A (compareOp .Lt (.int a t) (.int b u)) Q E s := wpAny_lt_int h
theorem oGt (h : Q (.bool (decide (b < a))) s) : wpAny (model prog w) A (compareOp .Gt (.int a t) (.int b u)) Q E s := PyProof.Rows.gt_int h
theorem oEq (h : Q (.bool (a == b)) s) : wpAny (model prog w) A (compareOp .Eq (.int a t) (.int b u)) Q E s := PyProof.Rows.eq_int h
theorem oBytesAdd {b c : Array UInt8} (S : St x g l s) (hz : b.size + c.size ≤ 16777216) (h : ∀ t s', St x g l s' → Q (.bytes (b ++ c) t) s') : wpAny (model prog w) A (binaryOp .Add (.bytes b t) (.bytes c u)) Q E s :=
  PySem.W.KBy.add_bytes hz fun _ _ => h _ _ (S.tok _)
theorem oBytesEq {b c : Array UInt8} (h : Q (.bool (b.toList == c.toList)) s) : wpAny (model prog w) A (compareOp .Eq (.bytes b t) (.bytes c u)) Q E s := PySem.W.eq_bytes h
end Jr
end
-- JE
section
namespace Jr
open PySem PySem.W PySem.Calls
variable {x : Wd} {g : Heap} {l : List Ent} {s : Shared} {M : Model} {A : Around} {E : Value → Shared → Prop} {prog : Program} {w : World}

/-! exceptions on their way -/
def FrOk (fr : Option (List Env)) (l : List Ent) : Prop := ∃ fs, fr = some fs ∧ ∀ env ∈ fs, env.scope.kind ≠ .module ∧ ∃ L m, env.frame = some L ∧ (L, NsP m) ∈ l
theorem FrOk.nil : FrOk (some []) l := (in12 ([]) rfl (fun _ h => nomatch h))
theorem FrOk.sub {fr : Option (List Env)} {l' : List Ent} (h : FrOk fr l) (k : ∀ p ∈ l, p ∈ l') : FrOk fr l' :=
  by obtain ⟨fs, e, h⟩ := h; exact (in12 fs e (fun env he => by obtain ⟨a, L, m, b, c⟩ := h env he; exact ⟨a, (in22 L m b (k _ c))⟩))
theorem FrOk.deeper {env : Env} {L : Addr} {m : Str → Option Value} {l' : List Ent} (h : FrOk A.frames l) (hk : env.scope.kind = .function) (hL : env.frame = some L) (hm : (L, NsP m) ∈ l') (k : ∀ p ∈ l, p ∈ l') : FrOk (A.deeper env).frames l' := by
  refine el12 h fun fs e h => ?_
  refine (in12 (env :: fs) (by show A.frames.map _ = _; rw [e]; rfl) (fun env' he => ?_))
  rcases List.mem_cons.mp he with rfl | he
  · exact ⟨by rw [hk]; decide, (in22 L m hL hm)⟩
  · refine el02 (h env' he) fun a z15_ => ?_; refine el22 z15_ fun L' m' b c => ?_; try clear z15_
    exact ⟨a, (in22 L' m' b (k _ c))⟩

def ExcP (cls : Value) (tb : Value) (o : Obj) : Prop := o.cls = cls ∧ ∃ vs, o.data = .fields vs ∧ vs[1]? = some tb ∧ vs[2]? = some .none
def TbP (fl : Value) (o : Obj) : Prop := ∃ ts, o.data = .fields ts ∧ ts[3]? = some fl

theorem funFrames (S : St x g l s) : ∀ {fs : List Env}, (∀ env ∈ fs, env.scope.kind ≠ .module ∧ ∃ L m, env.frame = some L ∧ (L, NsP m) ∈ l) → s.heap.FunFrames g fs := by
  intro fs
  induction fs with
  | nil => exact fun _ => trivial
  | cons env r ih =>
    intro h
    refine el02 (h env (List.mem_cons_self ..)) fun hk z16_ => ?_; refine el22 z16_ fun L m hL hm => ?_; try clear z16_
    refine el12 (S.get hm) fun o ho z17_ => ?_; refine el22 z17_ fun es ep hd _ => ?_; try clear z17_
    exact (in03 hk ⟨L, o, hL, S.out hm, ho, fun vs q => by rw [hd] at q; cases q⟩ (ih fun e he => h e (List.mem_cons_of_mem _ he)))

theorem ent_eq : ∀ {l : List Ent} {p q : Ent}, (l.map (·.1)).Nodup → p ∈ l → q ∈ l → p.1 = q.1 → p = q := by
  intro l
  induction l with
  | nil => exact fun _ h => nomatch h
  | cons a r ih =>
    intro p q hn hp hq e
    rw [List.map_cons, List.nodup_cons] at hn
    rcases List.mem_cons.mp hp with e1 | e1 <;> rcases List.mem_cons.mp hq with e2 | e2
    · rw [e1, e2]
    · exact absurd (List.mem_map_of_mem (f := (·.1)) e2) (by rw [← e, e1]; exact hn.1)
    · exact absurd (List.mem_map_of_mem (f := (·.1)) e1) (by rw [e, e2]; exact hn.1)
    · exact ih hn.2 e1 e2 e

theorem St.slots {fs : List Env} {h' : Heap} (S : St x g l s) (h : ∀ env ∈ fs, env.scope.kind ≠ .module ∧ ∃ L m, env.frame = some L ∧ (L, NsP m) ∈ l)
    (k : Heap.SlotsOnly (fs.filterMap (·.frame)) s.heap h') : St x g l { s with heap := h' } where
  keep := by
    intro b o e
    rw [k.2.1 b fun hm => ?_]
    · exact S.keep b o e
    · refine el12 (List.mem_filterMap.mp hm) fun env he hf => ?_
      refine el02 (h env he) fun _ z18_ => ?_; refine el22 z18_ fun L m hL hm => ?_; try clear z18_
      rw [hL] at hf; cases hf
      have := S.out hm
      rw [this] at e; cases e
  own := by
    intro p hp
    refine el02 (S.own p hp) fun h1 z19_ => ?_; refine el12 z19_ fun o h2 h3 => ?_; try clear z19_
    refine ⟨h1, ?_⟩
    by_cases hb : p.1 ∈ fs.filterMap (·.frame)
    · refine el12 (List.mem_filterMap.mp hb) fun env he hf => ?_
      refine el02 (h env he) fun _ z20_ => ?_; refine el22 z20_ fun L m hL hm => ?_; try clear z20_
      rw [hL] at hf; cases hf
      have hpe : p = (p.1, NsP m) := ent_eq S.nodup hp hm rfl
      refine el11 (k.2.2 _ o h2) fun sl hs => ?_
      refine (in12 _ hs ?_)
      rw [hpe] at h3 ⊢
      refine el23 h3 fun es ep q1 q2 q3 => ?_; try clear h3
      exact (in23 es ep q1 q2 q3)
    · exact (in12 o ((k.2.1 _ hb).trans h2) h3)
  nodup := S.nodup
  gens := S.gens
  os := S.os

theorem setFd {a : Addr} {P P' : Obj → Prop} {l' : List Ent} {i : Nat} {v : Value} {Q : Unit → Shared → Prop} (S : St x g l s) (U : Upd l a P P' l')
    (hP : ∀ o, P o → ∃ vs, o.data = .fields vs ∧ i < vs.size ∧ P' (o.mapFields (·.setIfInBounds i v))) (h : ∀ s', St x g l' s' → Q () s') : wpAny M A (setField (.ref a) i v) Q E s := by
  refine el12 (S.get U.mem) fun o ho h1 => ?_
  refine el13 (hP o h1) fun vs hd hi h2 => ?_
  refine wpAny_setField ho hd hi (h _ ?_)
  refine S.upd U (fun b ob hb e => ?_) (Heap.get?_update_self _ ho (Obj.isFreed_of_fields (Obj.data_mapFields hd _))) h2 s.toks
  rw [Heap.get?_update_other _ _ (Ne.symm hb)]; exact e

theorem getFd {a : Addr} {P : Obj → Prop} {i : Nat} {v : Value} {Q : Value → Shared → Prop} (S : St x g l s) (hm : (a, P) ∈ l)
    (hP : ∀ o, P o → ∃ vs, o.data = .fields vs ∧ vs[i]? = some v) (h : Q v s) : wpAny M A (field (.ref a) i) Q E s := by
  refine el12 (S.get hm) fun o ho h1 => ?_
  refine el12 (hP o h1) fun vs hd hi => ?_
  exact wpAny_field ho hd hi h

theorem excP_set {cls tb tb' : Value} {o : Obj} (h : ExcP cls tb o) : ∃ vs, o.data = .fields vs ∧ 1 < vs.size ∧ ExcP cls tb' (o.mapFields (·.setIfInBounds 1 tb')) := by
  obtain ⟨hc, vs, hd, h1, h2⟩ := h
  have hz := (Array.getElem?_eq_some_iff.mp h1).1
  exact (in14 vs hd hz ((Obj.cls_mapFields _ _).trans hc) (in13 _ (Obj.data_mapFields hd _) (by simp [hz]) (by rw [Array.getElem?_setIfInBounds]; simp [h2])))
theorem excP_tb {cls tb : Value} {o : Obj} (h : ExcP cls tb o) : ∃ vs, o.data = .fields vs ∧ vs[1]? = some tb := by obtain ⟨_, vs, a, b, _⟩ := h; exact (in12 vs a b)
theorem tbP_set {fl fl' : Value} {o : Obj} (h : TbP fl o) : ∃ vs, o.data = .fields vs ∧ 3 < vs.size ∧ TbP fl' (o.mapFields (·.setIfInBounds 3 fl')) := by
  refine el12 h fun vs hd h1 => ?_; try clear h
  have hz := (Array.getElem?_eq_some_iff.mp h1).1
  exact (in13 vs hd hz (in12 _ (Obj.data_mapFields hd _) (by simp [hz])))

/-- a new station: the frame at hand -/
theorem station {env : Env} {L e : Addr} {cls tb head : Value} {hadNext : Bool} {Q : Unit → Shared → Prop} (S : St x g ((e, ExcP cls tb) :: l) s) (hF : FrOk A.frames l)
    (hfr : ∃ outer, A.frames = some (env :: outer)) (hf : env.frame = some L)
    (h : ∀ T s', St x g ((T, TbP (rawInt L)) :: (e, ExcP cls (.ref T)) :: l) s' → Q () s') :
    wpAny M A (do let a ← frameOf env; let pl ← entryPlaceOf L hadNext; let b ← EntryCells.newEntry head a .none (rawInt L) .none pl; setField (.ref e) 1 b) Q E s := by
  refine el12 hF fun fs e1 hF => ?_
  refine el11 hfr fun outer e2 => ?_; try clear hfr
  obtain rfl : fs = env :: outer := Option.some.inj (e1.symm.trans e2)
  have hF' : ∀ env' ∈ env :: outer, env'.scope.kind ≠ .module ∧ ∃ L m, env'.frame = some L ∧ (L, NsP m) ∈ ((e, ExcP cls tb) :: l) := fun env' he => by
    refine el02 (hF env' he) fun a z22_ => ?_; refine el22 z22_ fun L m b c => ?_; try clear z22_
    exact ⟨a, (in22 L m b (List.mem_cons_of_mem _ c))⟩
  refine wpAny_bind (wpAny_frameOf_fun e2 (funFrames S hF') hf fun h₁ hs₁ => ?_)
  have S1 := S.slots hF' hs₁
  refine wpAny_bind (wpAny_entryPlaceOf fun pl hpl => ?_)
  unfold EntryCells.newEntry newFields
  refine wpAny_bind (wpAny_newObj_type ?_ (hpl.sizeOk5 _ _ _ _ _))
  have S2 := S1.push (o := { cls := .type "traceback", dict := none, data := .fields ([head, .ref L, .none, rawInt L, .none] ++ (if pl.isEmpty then List.replicate 6 Value.none else pl)).toArray }) (P := TbP (rawInt L))
    (in12 _ rfl (by simp)) rfl
  refine setFd S2 (.tail .head) (fun o ho => excP_set ho) fun s' S3 => h _ s' S3

theorem noteFirst {env : Env} {L e : Addr} {cls : Value} {Q : Unit → Shared → Prop} (S : St x g ((e, ExcP cls .none) :: l) s) (hF : FrOk A.frames l)
    (hfr : ∃ outer, A.frames = some (env :: outer)) (hf : env.frame = some L)
    (h : ∀ T s', St x g ((T, TbP (rawInt L)) :: (e, ExcP cls (.ref T)) :: l) s' → Q () s') : wpAny M A (noteFrame (.ref e) env) Q E s := by
  unfold noteFrame
  simp only [hf]
  refine wpAny_bind (getFd S (List.mem_cons_self ..) (fun o ho => excP_tb ho) ?_)
  rw [if_neg (by decide)]
  exact station S hF hfr hf h

theorem noteOn {env : Env} {L e T : Addr} {cls : Value} {Q : Unit → Shared → Prop} (S : St x g ((T, TbP .none) :: (e, ExcP cls (.ref T)) :: l) s) (hF : FrOk A.frames l)
    (hfr : ∃ outer, A.frames = some (env :: outer)) (hf : env.frame = some L)
    (h : ∀ T s', St x g ((T, TbP (rawInt L)) :: (e, ExcP cls (.ref T)) :: l) s' → Q () s') : wpAny M A (noteFrame (.ref e) env) Q E s := by
  unfold noteFrame
  simp only [hf]
  refine wpAny_bind (getFd S (.tail _ (.head _)) (fun o ho => excP_tb ho) ?_)
  rw [if_pos (show (Value.ref T != Value.none) = true from by simp)]
  refine wpAny_bind (getFd S (.head _) (fun o ho => ho) ?_)
  rw [if_neg (show ¬ ((Value.none == rawInt L) = true) from by simp [rawInt])]
  refine wpAny_bind (setFd S .head (fun o ho => tbP_set ho) fun s' S' => ?_)
  exact station S'.drop hF hfr hf h

theorem noteAgain {env : Env} {L e T : Addr} {cls : Value} {Q : Unit → Shared → Prop} (S : St x g ((T, TbP (rawInt L)) :: (e, ExcP cls (.ref T)) :: l) s) (hf : env.frame = some L) (h : Q () s) : wpAny M A (noteFrame (.ref e) env) Q E s := by
  unfold noteFrame
  simp only [hf]
  refine wpAny_bind (getFd S (.tail _ (.head _)) (fun o ho => excP_tb ho) ?_)
  rw [if_pos (show (Value.ref T != Value.none) = true from by simp)]
  refine wpAny_bind (getFd S (.head _) (fun o ho => ho) ?_)
  rw [if_pos (show (rawInt L == rawInt L) = true from by simp)]
  exact wpAny_pure h

theorem flight {e T : Addr} {cls fl : Value} {f : Option Addr} {Q : Unit → Shared → Prop} (S : St x g ((T, TbP fl) :: (e, ExcP cls (.ref T)) :: l) s)
    (h : ∀ s', St x g ((T, TbP (f.elim .none fun f => rawInt f)) :: (e, ExcP cls (.ref T)) :: l) s' → Q () s') : wpAny M A (setFlight (.ref e) f) Q E s := by
  unfold setFlight
  refine wpAny_bind (getFd S (.tail _ (.head _)) (fun o ho => excP_tb ho) ?_)
  rw [if_pos (show (Value.ref T != Value.none) = true from by simp)]
  exact setFd S .head (fun o ho => tbP_set ho) h

/-- an exception leaves the frame where it was raised, and a further one -/
theorem leaveFirst {env : Env} {L e : Addr} {cls : Value} {Q : Unit → Shared → Prop} (S : St x g ((e, ExcP cls .none) :: l) s) (hF : FrOk A.frames l)
    (hfr : ∃ outer, A.frames = some (env :: outer)) (hf : env.frame = some L)
    (h : ∀ T s', St x g ((T, TbP .none) :: (e, ExcP cls (.ref T)) :: l) s' → Q () s') : wpAny M A (leaving env (.ref e)) Q E s := by
  unfold leaving
  exact wpAny_bind (noteFirst S hF hfr hf fun T s S => flight S (h T))
theorem leaveOn {env : Env} {L e T : Addr} {cls : Value} {Q : Unit → Shared → Prop} (S : St x g ((T, TbP .none) :: (e, ExcP cls (.ref T)) :: l) s) (hF : FrOk A.frames l)
    (hfr : ∃ outer, A.frames = some (env :: outer)) (hf : env.frame = some L)
    (h : ∀ T s', St x g ((T, TbP .none) :: (e, ExcP cls (.ref T)) :: l) s' → Q () s') : wpAny M A (leaving env (.ref e)) Q E s := by
  unfold leaving
  exact wpAny_bind (noteOn S hF hfr hf fun T s S => flight S (h T))
theorem leaveHeld {env : Env} {L e T : Addr} {cls : Value} {Q : Unit → Shared → Prop} (S : St x g ((T, TbP (rawInt L)) :: (e, ExcP cls (.ref T)) :: l) s) (hf : env.frame = some L)
    (h : ∀ s', St x g ((T, TbP .none) :: (e, ExcP cls (.ref T)) :: l) s' → Q () s') : wpAny M A (leaving env (.ref e)) Q E s := by
  unfold leaving
  exact wpAny_bind (noteAgain S hf (flight S h))

/-- an activation of the frame's own hands the exception on -/
theorem cameBack {env : Env} {L e T : Addr} {cls fl : Value} (S : St x g ((T, TbP fl) :: (e, ExcP cls (.ref T)) :: l) s) (hf : env.frame = some L)
    (h : ∀ s', St x g ((T, TbP (rawInt L)) :: (e, ExcP cls (.ref T)) :: l) s' → E (.ref e) s') : cameBackBy M A env E (.ref e) s := by
  unfold cameBackBy
  refine wpAny_bind (getFd S (.tail _ (.head _)) (fun o ho => excP_tb ho) ?_)
  rw [if_neg (by simp)]
  rw [hf]
  exact flight S h
theorem notedOn {env : Env} {L e T : Addr} {cls : Value} (S : St x g ((T, TbP .none) :: (e, ExcP cls (.ref T)) :: l) s) (hF : FrOk A.frames l)
    (hfr : ∃ outer, A.frames = some (env :: outer)) (hf : env.frame = some L)
    (h : ∀ T s', St x g ((T, TbP (rawInt L)) :: (e, ExcP cls (.ref T)) :: l) s' → E (.ref e) s') : notedBy M A env E (.ref e) s := noteOn S hF hfr hf h
theorem notedAgain {env : Env} {L e T : Addr} {cls : Value} (S : St x g ((T, TbP (rawInt L)) :: (e, ExcP cls (.ref T)) :: l) s) (hf : env.frame = some L)
    (h : E (.ref e) s) : notedBy M A env E (.ref e) s := noteAgain S hf h
end Jr
end
-- JF
section
namespace Jr
open PySem PySem.W PySem.Calls
variable {x : Wd} {g : Heap} {l : List Ent} {s : Shared} {A : Around} {E : Value → Shared → Prop} {prog : Program} {w : World}

/-! iterators -/
structure ItOk (prog : Program) (w : World) (g : Heap) (it : Addr) (P : Nat → Obj → Prop) (n : Nat) (V : Nat → Value → Prop) : Prop where
  next : ∀ {x : Wd} {g' : Heap} {A : Around} {E : Value → Shared → Prop} {Q : Option Value → Shared → Prop} {s : Shared} {l l' : List Ent} {i : Nat}, Le g g' → St x g' l s → Upd l it (P i) (P (i + 1)) l' → i < n →
    (∀ v s', V i v → St x g' l' s' → Q (some v) s') → wpAny (model prog w) A (pyNext (.ref it)) Q E s
  stop : ∀ {x : Wd} {g' : Heap} {A : Around} {E : Value → Shared → Prop} {Q : Option Value → Shared → Prop} {s : Shared} {l : List Ent}, Le g g' → A.handled = none → St x g' ((it, P n) :: l) s →
    (∀ s', St x g' l s' → Q none s') → wpAny (model prog w) A (pyNext (.ref it)) Q E s
  quiet : ∀ i o, P i o → ∃ nm vs, o.cls = .type nm ∧ o.data = .fields vs ∧ (["enumerate", "zip", "dict_itemiterator", "dict_reverseitemiterator", "odict_iterator", "itertools.zip_longest", "itertools.pairwise"].contains nm) = false

def LIterP (la : Addr) (i : Nat) (o : Obj) : Prop := o.cls = .type "list_iterator" ∧ o.data = .fields #[.ref la, .int i 0]
theorem St.listIter {it la : Addr} {i : Nat} (S : St x g l s) (h : (it, LIterP la i) ∈ l) : s.heap.IsListIter it la i := by
  obtain ⟨o, ho, h1, h2⟩ := S.get h
  exact (in13 o ho h1 h2)
theorem isList_le {g g' : Heap} {a : Addr} {vs : Array Value} (h : g.IsList a vs) (k : Le g g') : g'.IsList a vs := by obtain ⟨o, a, b⟩ := h; exact (in12 o (k _ _ a) b)

theorem listIt {la it : Addr} {vs : List Value} (hl : g.IsList la vs.toArray) : ItOk prog w g it (LIterP la) vs.length (fun i v => vs[i]? = some v) where
  next := by
    intro x g' A E Q s l l' i k S U hi h
    have hv : vs.toArray[i]? = some (vs[i]'hi) := by simp [hi]
    refine wpAny_pyNext_list_item (S.listIter U.mem) (isList_le hl (k.trans S.keep)) hv fun h' hit hs => h _ _ (by simp [hi]) ?_
    refine el13 hit fun o ho h1 h2 => ?_; try clear hit
    exact S.upd U (fun b o hb e => (hs.2 b hb).trans e) ho ⟨h1, h2⟩ _
  stop := by
    intro x g' A E Q s l k hh S h
    refine wpAny_pyNext_list_end hh (S.listIter (List.mem_cons_self ..)) (isList_le hl (k.trans S.keep)) (by simp) fun h' hs => h _ ?_
    refine ⟨fun b o e => hs b o (fun q => ?_) (S.keep b o e), fun p hp => ?_, S.drop.nodup, S.gens, S.os⟩
    · rw [q, S.out (List.mem_cons_self ..)] at e; cases e
    · refine el02 (S.drop.own p hp) fun h1 z28_ => ?_; refine el12 z28_ fun o h2 h3 => ?_; try clear z28_
      refine ⟨h1, (in12 o (hs _ _ (fun q => ?_) h2) h3)⟩
      exact (List.nodup_cons.mp S.nodup).1 (by rw [← q]; exact List.mem_map_of_mem (f := (·.1)) hp)
  quiet := fun i o h => (in23 ("list_iterator") _ (h.1) (h.2) (by decide))

theorem iterList {la : Addr} {vs : List Value} {Q : Value → Shared → Prop} (S : St x g l s) (hl : g.IsList la vs.toArray)
    (h : ∀ it s', St x g ((it, LIterP la 0) :: l) s' → ItOk prog w g it (LIterP la) vs.length (fun i v => vs[i]? = some v) → Q (.ref it) s') : wpAny (model prog w) A (pyIter (.ref la)) Q E s :=
  wpAny_pyIter_list (isList_le hl S.keep) (h _ _ (S.push (P := LIterP la 0) ⟨rfl, rfl⟩ rfl) (listIt hl))

def RIterP (a n : Int) (i : Nat) (o : Obj) : Prop := o = { cls := .type "range_iterator", dict := none, data := .fields #[rawInt (a + i), rawInt (n - i), rawInt 1], slots := #[] }
theorem rangeIt {it : Addr} {a : Int} {n : Nat} : ItOk prog w g it (RIterP a n) n (fun i v => ∃ t, v = .int (a + i) t) where
  next := by
    intro x g' A E Q s l l' i k S U hi h
    refine el12 (S.get U.mem) fun o ho e29_ => ?_; subst e29_
    refine wpAny_pyNext_range_item (x := a + i) (left := n - i) (step := 1) ho (by walk_at "om") fun h' hit hs => h _ _ ⟨_, rfl⟩ ?_
    refine S.upd U (fun b o hb e => (hs.2 b hb).trans e) hit ?_ _
    show _ = _
    congr 4
    · show rawInt _ = rawInt _
      congr 1; push_cast; walk_at "om"
    · congr 1
      show rawInt _ = rawInt _
      congr 1; push_cast; walk_at "om"
  stop := by
    intro x g' A E Q s l k hh S h
    refine el12 (S.get (List.mem_cons_self ..)) fun o ho e30_ => ?_; subst e30_
    refine wpAny_pyNext_range_end (x := a + n) (left := n - n) (step := 1) hh ho (by walk_at "om") fun h' hs => h _ ?_
    refine ⟨fun b o e => hs b o (fun q => ?_) (S.keep b o e), fun p hp => ?_, S.drop.nodup, S.gens, S.os⟩
    · rw [q, S.out (List.mem_cons_self ..)] at e; cases e
    · refine el02 (S.drop.own p hp) fun h1 z31_ => ?_; refine el12 z31_ fun o h2 h3 => ?_; try clear z31_
      refine ⟨h1, (in12 o (hs _ _ (fun q => ?_) h2) h3)⟩
      exact (List.nodup_cons.mp S.nodup).1 (by rw [← q]; exact List.mem_map_of_mem (f := (·.1)) hp)
  quiet := fun i o h => by cases h; exact (in23 ("range_iterator") _ rfl rfl (by decide))

theorem rangeSize1 (a b : Int) : Builtin.Range.rangeSize a b 1 = if a < b then b - a else 0 := by
  unfold Builtin.Range.rangeSize
  simp

/-- range(n), and its iterator -/
def RangeP (a b : Int) (o : Obj) : Prop := ∃ t u v, o = { cls := .type "range", dict := none, data := .fields #[.int a t, .int b u, .int 1 v], slots := #[] }
theorem iterRange {r : Addr} {b : Int} {Q : Value → Shared → Prop} (S : St x g ((r, RangeP 0 b) :: l) s) (hb : b < 2 ^ 60) (hb' : -(2 ^ 60) < b)
    (h : ∀ it s', St x g ((it, RIterP 0 b.toNat 0) :: l) s' → ItOk prog w g it (RIterP 0 b.toNat) b.toNat (fun i v => ∃ t, v = .int (0 + i) t) → Q (.ref it) s') : wpAny (model prog w) A (pyIter (.ref r)) Q E s := by
  refine el12 (S.get (List.mem_cons_self ..)) fun o ho z32_ => ?_; refine el31 z32_ fun t u v e33_ => ?_; try clear z32_; subst e33_
  refine wpAny_pyIter_range ho ?_ (h _ _ ?_ rangeIt)
  · unfold Builtin.Range.small Builtin.Range.rangeFitsLong
    rw [rangeSize1]
    simp
    split <;> simp <;> walk_at "om"
  · refine (S.push (P := RIterP 0 b.toNat 0) ?_ rfl).perm (List.Perm.swap ..) |>.drop
    show _ = _
    rw [rangeSize1]
    have e : (if 0 < b then b - 0 else 0) = ((b.toNat : Int) - ((0 : Nat) : Int)) := by split <;> walk_at "om"
    rw [e]; rfl
theorem callRange {b : Int} {t : Tok} {Q : Value → Shared → Prop} (S : St x g l s) (h : ∀ r s', St x g ((r, RangeP 0 b) :: l) s' → Q (.ref r) s') : wpAny (model prog w) A (call (.type "range") [.int b t] []) Q E s :=
  call_range_1 (h _ _ (S.push (P := RangeP 0 b) (in31 _ _ _ rfl) rfl _))

/-! loops -/
def Pass (M : Model) (A : Around) (env : Env) (E : Value → Shared → Prop) : Prop := ∀ e s, E e s → notedBy M A env (cameBackBy M A env E) e s
theorem Pass.never {M : Model} {env : Env} : Pass M A env (fun _ _ => False) := fun _ _ h => h.elim

theorem St.sub {l' : List Ent} (S : St x g l s) (h : l'.Sublist l) : St x g l' s :=
  ⟨S.keep, fun p hp => S.own p (h.subset hp), (h.map _).nodup S.nodup, S.gens, S.os⟩

theorem letOwned {M : Model} {target : Expr} {it : Addr} {v : Value} {o : Obj} {nm : String} {vs : Array Value} {Q : Unit → Shared → Prop} (ho : s.heap.get? it = some o) (hc : o.cls = .type nm) (hd : o.data = .fields vs)
    (hn : (["enumerate", "zip", "dict_itemiterator", "dict_reverseitemiterator", "odict_iterator", "itertools.zip_longest", "itertools.pairwise"].contains nm) = false) (h : Q () s) : wpAny M A (letOwnedTupleGo target (.ref it) v) Q E s := by
  have key : ∀ v' : Value, wpAny M A (do
      let (.ref r, .ref a) := (Value.ref it, v') | return
      let o ← load r
      match o.cls, o.data with
      | .type n, .fields vs =>
        if ["enumerate", "zip", "dict_itemiterator", "dict_reverseitemiterator", "odict_iterator", "itertools.zip_longest", "itertools.pairwise"].contains n && vs[0]? == some (rawInt a) then
          rule "for.unpacks-the-owned-tuple"
          updateField r 0 .none
      | _, _ => pure () : Sem Unit) Q E s := by
    intro v'
    cases v' <;> try exact wpAny_pure h
    refine wpAny_bind (wpAny_load ho ?_)
    rw [hc, hd]
    simp only [hn, Bool.false_and, Bool.false_eq_true, if_false]
    exact wpAny_pure h
  unfold letOwnedTupleGo
  split
  · exact key v
  · exact key v
  · exact wpAny_pure h

theorem forTurnCode {R : Result → Shared → Prop} {target it body env} (I : Nat → Shared → Prop)
    (turn : ∀ n s, I n s → wpAny (model prog w) A (pyNext it) (fun r s₁ => match r with
      | none => R (.ok .next) s₁
      | some v => wpAny (model prog w) A (letOwnedTupleGo target it v) (fun _ s₁ => wpAny (model prog w) A (assign target env v) (fun _ s₂ => wpAny (model prog w) A (execs body env) (fun f s₃ => match f with
          | .next | .cont => ∃ m, m < n ∧ I m s₃
          | .brk => R (.ok .next) s₃
          | .ret v => R (.ok (.ret v)) s₃) (notedBy (model prog w) A env fun e s' => R (.error e) s') s₂) (notedBy (model prog w) A env fun e s' => R (.error e) s') s₁) (notedBy (model prog w) A env fun e s' => R (.error e) s') s₁) (notedBy (model prog w) A env fun e s' => R (.error e) s') s)
    (n : Nat) (h : I n s) : codeAny (model prog w) A (.forLoop target it body [] env) R s := by
  refine codeAny_loop' rfl I (fun n s hI => ?_) n h
  show wpAny _ _ ((forTurn target it body [] env).onRaise (fun x => do noteFrame x env; theTreesLotGoes x)) _ _ s
  refine wpAny_noted ?_
  simp only [forTurn]
  refine wpAny_bind (wpAny_standAt (wpAny_bind (wpAny_onRaise (wpAny_mono (turn n s hI) (fun r s₁ h₁ => ?_) fun _ _ h' => wpAny_standAt h'))))
  cases r with
  | none =>
    refine wpAny_pure (.inr ⟨rfl, ?_⟩)
    exact codeAny_block (wpAny_execs_nil h₁)
  | some v =>
    refine wpAny_bind (wpAny_mono h₁ (fun _ s₂ h₂ => wpAny_bind (wpAny_mono h₂ (fun _ s₂ h₂ => wpAny_bind (wpAny_mono h₂ (fun f s₃ h₃ => ?_) fun _ _ h' => h')) fun _ _ h' => h')) fun _ _ h' => h')
    cases f with
    | next => exact wpAny_pure (.inl ⟨rfl, h₃⟩)
    | cont => exact wpAny_pure (.inl ⟨rfl, h₃⟩)
    | brk => exact wpAny_pure h₃
    | ret v => exact wpAny_pure h₃

theorem forIt {it : Addr} {P : Nat → Obj → Prop} {n : Nat} {V : Nat → Value → Prop} {target : Expr} {body : List Stmt} {env : Env} {Q : Flow → Shared → Prop} (J : Nat → Heap → List Ent → Prop)
    (S : St x g ((it, P 0) :: l) s) (I : ItOk prog w g it P n V) (hh : A.handled = none) (hE : Pass (model prog w) A env E) (h0 : J 0 g l)
    (turn : ∀ i v g' l' s', i < n → V i v → Le g g' → J i g' l' → St x g' ((it, P (i + 1)) :: l') s' → wpAny (model prog w) A (assign target env v) (fun _ s₂ => wpAny (model prog w) A (execs body env) (fun f s₃ => match f with
      | .next | .cont => ∃ g'' l'', Le g' g'' ∧ St x g'' ((it, P (i + 1)) :: l'') s₃ ∧ J (i + 1) g'' l''
      | .brk => Q .next s₃
      | .ret v => Q (.ret v) s₃) E s₂) E s')
    (fin : ∀ g' l' s', Le g g' → J n g' l' → St x g' l' s' → Q .next s') :
    codeAny (model prog w) A (.forLoop target (.ref it) body [] env) (fun r s' => match r with | .ok f => Q f s' | .error e => cameBackBy (model prog w) A env E e s') s := by
  refine forTurnCode (fun k s' => ∃ i g' l', k = n - i ∧ i ≤ n ∧ Le g g' ∧ J i g' l' ∧ St x g' ((it, P i) :: l') s') ?_ n ⟨0, g, l, rfl, Nat.zero_le _, Le.refl _, h0, S⟩
  intro k s' hR2
  refine el35 hR2 fun i g' l' e34_ hi hg hJ S' => ?_; try clear hR2; subst e34_
  by_cases hlt : i < n
  · refine I.next hg S' .head hlt fun v s₁ hv S₁ => ?_
    refine el12 (S₁.get (List.mem_cons_self ..)) fun o ho hP => ?_
    refine el23 (I.quiet _ _ hP) fun nm vs q1 q2 q3 => ?_
    refine letOwned ho q1 q2 q3 ?_
    refine wpAny_mono (turn i v g' l' s₁ hlt hv hg hJ S₁) (fun _ s₂ h₂ => wpAny_mono h₂ (fun f s₃ h₃ => ?_) fun e s h => hE e s h) fun e s h => hE e s h
    have step : (∃ g'' l'', Le g' g'' ∧ St x g'' ((it, P (i + 1)) :: l'') s₃ ∧ J (i + 1) g'' l'') → ∃ m, m < n - i ∧ ∃ i' g'' l'', m = n - i' ∧ i' ≤ n ∧ Le g g'' ∧ J i' g'' l'' ∧ St x g'' ((it, P i') :: l'') s₃ :=
      fun hq_ => el23 hq_ fun g'' l'' k1 k2 k3 => (in12 (n - (i + 1)) (by walk_at "om") (in35 (i + 1) g'' l'' rfl hlt (hg.trans k1) k3 k2))
    cases f with
    | next => exact step h₃
    | cont => exact step h₃
    | brk => exact h₃
    | ret v => exact h₃
  · obtain rfl : i = n := by walk_at "om"
    exact I.stop hg hh S' fun s₁ S₁ => fin g' l' s₁ hg hJ S₁

theorem whileIt {test : Expr} {body : List Stmt} {env : Env} {pos : Pos} {Q : Flow → Shared → Prop} (J : Nat → Heap → List Ent → Prop) {n : Nat}
    (S : St x g l s) (hE : Pass (model prog w) A env E) (h0 : J n g l)
    (turn : ∀ n g' l' s', Le g g' → J n g' l' → St x g' l' s' → wpAny (model prog w) A (isTrue test env (eval test env)) (fun b s₂ =>
      if b then wpAny (model prog w) A (execs body env) (fun f s₃ => match f with
        | .next | .cont => ∃ m g'' l'', m < n ∧ Le g' g'' ∧ St x g'' l'' s₃ ∧ J m g'' l''
        | .brk => Q .next s₃
        | .ret v => Q (.ret v) s₃) E s₂
      else Q .next s₂) E s') : wpAny (model prog w) A (exec (.While test body [] pos) env) Q E s := by
  refine wpAny_While (codeAny_whileLoop (fun k s' => ∃ g' l', Le g g' ∧ J k g' l' ∧ St x g' l' s') ?_ n (in23 g l (Le.refl _) h0 S))
  intro k s' hR2
  refine el23 hR2 fun g' l' hg hJ S' => ?_; try clear hR2
  refine wpAny_mono (turn k g' l' s' hg hJ S') (fun b s₂ h₂ => ?_) fun e s h => hE e s h
  cases b with
  | false => exact wpAny_execs_nil h₂
  | true =>
    refine wpAny_mono h₂ (fun f s₃ h₃ => ?_) fun e s h => hE e s h
    have step : (∃ m g'' l'', m < k ∧ Le g' g'' ∧ St x g'' l'' s₃ ∧ J m g'' l'') → ∃ m, m < k ∧ ∃ g'' l'', Le g g'' ∧ J m g'' l'' ∧ St x g'' l'' s₃ :=
      fun hq_ => el34 hq_ fun m g'' l'' k1 k2 k3 k4 => (in12 m k1 (in23 g'' l'' (hg.trans k2) k4 k3))
    cases f with
    | next => exact step h₃
    | cont => exact step h₃
    | brk => exact h₃
    | ret v => exact h₃
end Jr
end
-- JG
section
namespace Jr
open PySem PySem.W PySem.Calls
variable {x : Wd} {g : Heap} {l : List Ent} {s : Shared} {A : Around} {E : Value → Shared → Prop} {prog : Program} {w : World}

theorem appendL {a : Addr} {vs : List Value} {v : Value} {l' : List Ent} {Q : Value → Shared → Prop} (S : St x g l s) (U : Upd l a (ListP vs) (ListP (vs ++ [v])) l') (hz : vs.length ≤ sizeLine)
    (h : ∀ s', St x g l' s' → Q .none s') : wpAny (model prog w) A (call (.builtin "list.append") [.ref a, v] []) Q E s := by
  refine el14 (S.get U.mem) fun o ho hc hdc z23_ => ?_; refine el11 z23_ fun n hd => ?_; try clear z23_
  refine wpAny_call_entry slot_list_append (T := "list") (in12 o ho hc) entry_list_append ?_ (args_list_append _ _)
  show wpAny _ _ (updateSeq a (·.push v) >>= fun _ => ret .none) _ _ s
  refine wpAny_bind (wpAny_updateSeq ho hd (wpAny_pure (in12 (.none) rfl (h _ ?_))) (by rw [List.size_toArray]; exact hz))
  refine el11 (Obj.data_mapSeq hd (·.push v)) fun n' hd' => ?_
  refine S.upd U (fun b ob hb e => ?_) (Heap.get?_update_self _ ho (Obj.isFreed_of_seq hd')) (in03 ((Obj.cls_mapSeq ..).trans hc) ?_ ⟨n', ?_⟩) s.toks
  · rw [Heap.get?_update_other _ _ (Ne.symm hb)]; exact e
  · obtain ⟨c, d, dt, sl⟩ := o
    simp only at hd hdc; subst hd; exact hdc
  · rw [hd', List.push_toArray]

theorem selfList {it la : Addr} {i : Nat} {Q : Value → Shared → Prop} (S : St x g ((it, LIterP la i) :: l) s) (h : Q (.ref it) s) : wpAny (model prog w) A (pyIter (.ref it)) Q E s :=
  wpAny_pyIter_listiter (S.listIter (List.mem_cons_self ..)) h
theorem selfRange {it : Addr} {a n : Int} {i : Nat} {Q : Value → Shared → Prop} (S : St x g ((it, RIterP a n i) :: l) s) (h : Q (.ref it) s) : wpAny (model prog w) A (pyIter (.ref it)) Q E s := by
  refine el12 (S.get (List.mem_cons_self ..)) fun o ho e24_ => ?_; subst e24_
  exact wpAny_pyIter_rangeiter ho h

theorem nwComp {scope : Scope} {globals : Addr} {closure : List (Str × Addr)} {qual : Str} {outer : Env} {M : Model} {Q : Env → Shared → Prop}
    (S : St x g l s)
    (h : ∀ L bs s', bs.length = (cellNs scope.names).length → St x g (bs.map (fun b => (b, CellP none)) ++ (L, NsP fun _ => none) :: l) s' →
      Q { scope := scope, locals := L, globals := globals, cells := (cellNs scope.names).reverse.zip bs ++ closure, qual := qual, func := none, code := outer.code, frame := outer.frame, builtins := outer.builtins } s') :
    wpAny M A (newFunctionEnv scope globals closure [] qual none .none (some outer)) Q E s := by
  simp only [newFunctionEnv, Option.isSome_some, if_true]
  refine wpAny_bind (wpAny_alloc ?_)
  have S1 := S.push (o := { cls := .type "dict", data := .dict #[] }) (P := NsP fun _ => none) (in23 (#[]) 0 rfl (fun _ he => by simp at he) (fun _ => rfl)) rfl
  refine wpAny_bind (layCells (fun name kind cells => by cases hkc : kind == NameKind.cell <;> simp) _ _ _ _ _ S1 fun bs s' hl S2 => ?_)
  refine wpAny_bind ?_
  rw [List.forIn_nil]
  exact wpAny_pure (wpAny_pure (h _ bs s' hl S2))

theorem compTurnCode {elt target iter : Expr} {ifs : List Expr} {scope : Scope} {pos : Pos} {it acc : Value} {env : Env} {R : Result → Shared → Prop} (I : Nat → Shared → Prop)
    (turn : ∀ n s, I n s → wpAny (model prog w) A (pyNext it) (fun r s₁ => match r with
      | none => R (.ok .next) s₁
      | some v => wpAny (model prog w) A (letOwnedTupleGo target it v) (fun _ s₁ => wpAny (model prog w) A (assign target env v) (fun _ s₂ =>
          wpAny (model prog w) A (forIn ifs true fun c r => if r = true then do let ok ← isTrue c env (eval c env); pure (ForInStep.yield ok) else pure (ForInStep.yield r)) (fun ok s₃ =>
            if ok = true then wpAny (model prog w) A (eval elt env) (fun x s₄ =>
              wpAny (model prog w) A (call (.builtin "list.append") [acc, x]) (fun _ s₅ => ∃ m, m < n ∧ I m s₅) (fun _ _ => False) s₄) (fun _ _ => False) s₃
            else ∃ m, m < n ∧ I m s₃) (fun _ _ => False) s₂) (fun _ _ => False) s₁) (fun _ _ => False) s₁) (fun _ _ => False) s)
    (n : Nat) (h : I n s) :
    codeAny (model prog w) A (.compLoop (.ListComp elt [⟨target, iter, ifs, 0⟩] scope pos) 0 it acc env) R s := by
  refine codeAny_loop rfl I (fun n s hI => ?_) n h
  show wpAny _ A ((compTurn (.ListComp elt [⟨target, iter, ifs, 0⟩] scope pos) 0 it acc env).onRaise (fun x => do noteFrame x env; theTreesLotGoes x)) _ _ s
  refine wpAny_noted ?_
  rw [compTurn_list]
  refine wpAny_bind (wpAny_standAt (wpAny_bind (wpAny_mono (turn n s hI) (fun r s₁ h₁ => ?_) fun _ _ h' => h'.elim)))
  cases r with
  | none => exact wpAny_pure h₁
  | some v =>
    refine wpAny_bind (wpAny_mono h₁ (fun _ s₂ h₂ => wpAny_bind (wpAny_mono h₂ (fun _ s₂ h₂ => wpAny_bind (wpAny_mono h₂ (fun ok s₃ h₃ => ?_) fun _ _ h' => h'.elim)) fun _ _ h' => h'.elim)) fun _ _ h' => h'.elim)
    cases ok with
    | false => exact wpAny_pure ⟨rfl, h₃⟩
    | true =>
      exact wpAny_bind (wpAny_bind (wpAny_mono h₃ (fun x s₄ h₄ => wpAny_bind (wpAny_mono h₄ (fun _ s₅ h₅ => wpAny_pure (wpAny_pure ⟨rfl, h₅⟩)) fun _ _ h' => h'.elim)) fun _ _ h' => h'.elim))

/-- the env of a comprehension -/
abbrev cpEnv (scope : Scope) (cs : List (Str × Addr)) (C : Addr) (env : Env) : Env :=
  { scope := relabel scope env, locals := C, globals := env.globals, cells := cs, qual := env.qual, func := none, code := env.code, frame := env.frame, builtins := env.builtins }

/-- what is wanted of a comprehension's list: its value, or its use -/
def FinU (prog : Program) (w : World) (A : Around) (E : Value → Shared → Prop) (x : Wd) (Q : Value → Shared → Prop) (use : Option (Value → Sem Unit)) (g : Heap) (l : List Ent) (C : Addr) (m : Str → Option Value) (acc : Addr) (s : Shared) : Prop :=
  match use with
  | none => ∀ s', St x g l s' → Q (.ref acc) s'
  | some u => wpAny (model prog w) A (u (.ref acc)) (fun _ s'' => ∃ g'' l'' m'', St x g'' ((C, NsP m'') :: l'') s'' ∧ ∀ s3, St x g'' l'' s3 → Q .none s3) E s

theorem compG {elt target iter : Expr} {ifs : List Expr} {scope : Scope} {pos : Pos} {env : Env} {Q : Value → Shared → Prop} {cl : List (Str × Addr)} {use : Option (Value → Sem Unit)}
    (hclos : closureFor scope env = pure cl) (hkind : scope.kind = .function) (hnames : ∀ y ∈ scope.names, y.2 = .local → scope.names.lookup y.1 = some .local) (hh : A.handled = none)
    (hs : ∀ v, foldedSetIterable iter env v = pure v)
    (hiter : wpAny (model prog w) A (eval iter env) (fun v s₁ => wpAny (model prog w) A (pyIter v) (fun i s₂ => ∃ (J : Nat → List Value → Heap → List Ent → Prop) (it : Addr) (g₂ : Heap) (l₂ : List Ent) (P : Nat → Obj → Prop) (n : Nat) (V : Nat → Value → Prop), i = .ref it ∧ Le g g₂ ∧ St x g₂ ((it, P 0) :: l₂) s₂ ∧ ItOk prog w g₂ it P n V ∧ n ≤ 1000 ∧ J 0 [] g₂ l₂ ∧
      (∀ (A : Around) (E : Value → Shared → Prop) (Q : Value → Shared → Prop) (l : List Ent) (s : Shared), St x g₂ ((it, P 0) :: l) s → Q (.ref it) s → wpAny (model prog w) A (pyIter (.ref it)) Q E s) ∧
      (∀ C bs, bs.length = (cellNs scope.names).length → ∀ i v g' l' ys us acc m s', us.length = bs.length → i < n → V i v → Le g₂ g' → J i ys g' l' →
        St x g' (List.zipWith (fun b u => (b, CellP u)) bs us ++ (C, NsP m) :: (acc, ListP ys) :: (it, P (i + 1)) :: l') s' →
        wpAny (model prog w) A (assign target (cpEnv scope ((cellNs scope.names).reverse.zip bs ++ cl) C env) v) (fun _ s₂ =>
          wpAny (model prog w) A (forIn ifs true fun c r => if r = true then do let ok ← isTrue c (cpEnv scope ((cellNs scope.names).reverse.zip bs ++ cl) C env) (eval c (cpEnv scope ((cellNs scope.names).reverse.zip bs ++ cl) C env)); pure (ForInStep.yield ok) else pure (ForInStep.yield r)) (fun ok s₃ =>
            if ok = true then wpAny (model prog w) A (eval elt (cpEnv scope ((cellNs scope.names).reverse.zip bs ++ cl) C env)) (fun y s₄ => ∃ g'' l'' us' m', us'.length = bs.length ∧ Le g' g'' ∧
                St x g'' (List.zipWith (fun b u => (b, CellP u)) bs us' ++ (C, NsP m') :: (acc, ListP ys) :: (it, P (i + 1)) :: l'') s₄ ∧ J (i + 1) (ys ++ [y]) g'' l'') (fun _ _ => False) s₃
            else ∃ g'' l'' us' m', us'.length = bs.length ∧ Le g' g'' ∧ St x g'' (List.zipWith (fun b u => (b, CellP u)) bs us' ++ (C, NsP m') :: (acc, ListP ys) :: (it, P (i + 1)) :: l'') s₃ ∧ J (i + 1) ys g'' l'')
            (fun _ _ => False) s₂) (fun _ _ => False) s') ∧
      (∀ acc g' l' ys C m s', Le g₂ g' → J n ys g' l' → St x g' ((C, NsP m) :: (acc, ListP ys) :: l') s' → FinU prog w A E x Q use g' ((acc, ListP ys) :: l') C m acc s')) E s₁) E s) :
    wpAny (model prog w) A (comprehension (.ListComp elt [⟨target, iter, ifs, 0⟩] scope pos) scope env (firstIterPos [⟨target, iter, ifs, 0⟩] pos) (newList []) false (eval iter env) use) Q E s := by
  refine wpAny_comprehension_free (g := ⟨target, iter, ifs, 0⟩) (gs := []) (use := use) rfl hs hclos hkind hnames (wpAny_mono hiter (fun v s₁ h₁ => wpAny_mono h₁ (fun i s₂ h₂ => ?_) fun _ _ e => e) fun _ _ e => e)
  refine el79 h₂ fun J it g₂ l₂ P n V e25_ hg₂ S₂ I hn h0 hself turn fin => ?_; try clear h₂; subst e25_
  refine nwList S₂ (by decide) fun acc s₃ S₃ => ?_
  refine nwComp S₃ fun C bs s₄ hbs S₄ => ?_
  have fin' : ∀ i' g' l' ys us m s', us.length = bs.length → i' = n → Le g₂ g' → J n ys g' l' → St x g' (List.zipWith (fun b u => (b, CellP u)) bs us ++ (C, NsP m) :: (acc, ListP ys) :: l') s' →
      compPost (model prog w) A E use Q (.ref acc) C (.ok .next) s' := by
    intro i' g' l' ys us m s' hus _ hg hJ S
    have hd : ∀ (bs : List Addr) (us : List (Option Value)) (r : List Ent), r.Sublist (List.zipWith (fun b u => (b, CellP u)) bs us ++ r) := fun bs us r => List.sublist_append_right ..
    have S' := S.sub (hd bs us _)
    have h1 := fin acc g' l' ys C m s' hg hJ S'
    have after : ∀ (g' : Heap) (l' : List Ent) (m : Str → Option Value) (s' : Shared), St x g' ((C, NsP m) :: l') s' → ∀ h', Heap.SameBut C s'.heap h' → St x g' l' { s' with heap := h' } := by
      intro g' l' m s' S' h' hs'
      have S2 := S'.drop
      refine ⟨fun b o e => ?_, fun p hp => ?_, S2.nodup, S2.gens, S2.os⟩
      · show h'.get? b = some o
        rw [hs'.2 b (fun q => by rw [q, S'.out (List.mem_cons_self ..)] at e; cases e)]
        exact S2.keep b o e
      · refine el02 (S2.own p hp) fun k1 z26_ => ?_; refine el12 z26_ fun o k2 k3 => ?_; try clear z26_
        refine ⟨k1, (in12 o ?_ k3)⟩
        show h'.get? p.1 = some o
        rw [hs'.2 _ (fun q => ?_)]
        · exact k2
        · exact (List.nodup_cons.mp S'.nodup).1 (by rw [← q]; exact List.mem_map_of_mem (f := (·.1)) hp)
    cases use with
    | none => exact (in12 m (S'.ns (List.mem_cons_self ..)) (fun h' hs' => h1 _ (after _ _ _ _ S' h' hs')))
    | some u => exact wpAny_mono h1 (fun _ s'' hq_ => el32 hq_ fun g'' l'' m'' k1 k2 => (in12 m'' (k1.ns (List.mem_cons_self ..)) (fun h' hs' => k2 _ (after _ _ _ _ k1 h' hs')))) fun _ _ e => e
  have loop : ∀ s₅, St x g₂ (bs.map (fun b => (b, CellP none)) ++ (C, NsP fun _ => none) :: (acc, ListP []) :: (it, P 0) :: l₂) s₅ →
      codeAny (model prog w) A (.compLoop (.ListComp elt [⟨target, iter, ifs, 0⟩] scope pos) 0 (.ref it) (.ref acc) (cpEnv scope ((cellNs scope.names).reverse.zip bs ++ cl) C env)) (compPost (model prog w) A E use Q (.ref acc) C) s₅ := by
    intro s₅ S₅
    refine compTurnCode (fun k s' => ∃ i g' l' ys us m, k = n - i ∧ i ≤ n ∧ us.length = bs.length ∧ ys.length ≤ i ∧ Le g₂ g' ∧ J i ys g' l' ∧
      St x g' (List.zipWith (fun b u => (b, CellP u)) bs us ++ (C, NsP m) :: (acc, ListP ys) :: (it, P i) :: l') s') ?_ n
      ⟨0, g₂, l₂, [], bs.map fun _ => none, fun _ => none, rfl, Nat.zero_le _, by simp, Nat.le_refl _, Le.refl _, h0, by
        have e : List.zipWith (fun b u => (b, CellP u)) bs (bs.map fun _ => none) = bs.map (fun b => (b, CellP none)) := by
          rw [List.zipWith_map_right]
          clear hbs S₄ S₅ turn fin'
          induction bs with
          | nil => rfl
          | cons b r ih => simp
        rw [e]; exact S₅⟩
    intro k s' hR2
    refine el67 hR2 fun i g' l' ys us m e27_ hi hus hys hg hJ S' => ?_; try clear hR2; subst e27_
    by_cases hlt : i < n
    · have hU : ∀ (c : List Ent) (a b : Ent) (P P' : Obj → Prop) (r : List Ent), Upd (c ++ a :: b :: (it, P) :: r) it P P' (c ++ a :: b :: (it, P') :: r) := fun c a b P P' r => by
        induction c with
        | nil => exact .tail (.tail .head)
        | cons d c ih => exact .tail ih
      refine I.next hg S' (hU _ _ _ _ _ _) hlt fun v s₁ hv S₁ => ?_
      refine el12 (S₁.get (a := it) (P := P (i + 1)) (List.mem_append_right _ (.tail _ (.tail _ (.head _))))) fun o ho hP => ?_
      refine el23 (I.quiet _ _ hP) fun nm vs q1 q2 q3 => ?_
      refine letOwned ho q1 q2 q3 ?_
      refine wpAny_mono (turn C bs hbs i v g' l' ys us acc m s₁ hus hlt hv hg hJ S₁) (fun _ s₂ h₂ => wpAny_mono h₂ (fun ok s₃ h₃ => ?_) fun _ _ e => e) fun _ _ e => e
      cases ok with
      | false =>
        refine el44 h₃ fun g'' l'' us' m' k1 k2 k3 k4 => ?_; try clear h₃
        exact (in12 (n - (i + 1)) (by walk_at "om") (in67 (i + 1) g'' l'' ys us' m' rfl hlt k1 (by walk_at "om") (hg.trans k2) k4 k3))
      | true =>
        refine wpAny_mono h₃ (fun y s₄ h₄ => ?_) fun _ _ e => e
        refine el44 h₄ fun g'' l'' us' m' k1 k2 k3 k4 => ?_; try clear h₄
        have hU' : ∀ (c : List Ent) (a : Ent) (P P' : Obj → Prop) (r : List Ent), Upd (c ++ a :: (acc, P) :: r) acc P P' (c ++ a :: (acc, P') :: r) := fun c a P P' r => by
          induction c with
          | nil => exact .tail .head
          | cons d c ih => exact .tail ih
        refine appendL k3 (hU' _ _ _ _ _) (by rw [sizeLine_eq]; walk_at "om") fun s₆ S₆ => ?_
        exact (in12 (n - (i + 1)) (by walk_at "om") (in67 (i + 1) g'' l'' (ys ++ [y]) us' m' rfl hlt k1 (by simp; walk_at "om") (hg.trans k2) k4 S₆))
    · obtain rfl : i = n := by walk_at "om"
      have hp : (List.zipWith (fun b u => (b, CellP u)) bs us ++ (C, NsP m) :: (acc, ListP ys) :: (it, P i) :: l').Perm ((it, P i) :: (List.zipWith (fun b u => (b, CellP u)) bs us ++ (C, NsP m) :: (acc, ListP ys) :: l')) := by
        have : ∀ (c : List Ent) (a b d : Ent) (r : List Ent), (c ++ a :: b :: d :: r).Perm (d :: (c ++ a :: b :: r)) := fun c a b d r => by
          have h1 : (c ++ a :: b :: d :: r) = (c ++ [a, b]) ++ d :: r := by simp
          have h2 : (c ++ a :: b :: r) = (c ++ [a, b]) ++ r := by simp
          rw [h1, h2]; exact List.perm_middle
        exact this ..
      exact I.stop hg hh (S'.perm hp) fun s₁ S₁ => fin' i g' l' ys us m s₁ hus rfl hg hJ S₁
  refine codeAny_compStart_list (loop _ S₄) ?_
  have hp : ∀ (c : List Ent) (a b d : Ent) (r : List Ent), (c ++ a :: b :: d :: r).Perm (d :: (c ++ a :: b :: r)) := fun c a b d r => by
    have h1 : (c ++ a :: b :: d :: r) = (c ++ [a, b]) ++ d :: r := by simp
    have h2 : (c ++ a :: b :: r) = (c ++ [a, b]) ++ r := by simp
    rw [h1, h2]; exact List.perm_middle
  exact hself _ _ _ _ _ (S₄.perm (hp ..)) (loop _ S₄)
end Jr
end
-- JH
section
namespace Jr
open PySem PySem.W PySem.Calls
variable {x : Wd} {g : Heap} {l : List Ent} {s : Shared} {A : Around} {E : Value → Shared → Prop} {prog : Program} {w : World}

/-- an iterator that stands at its start, all else as in l -/
def Its (prog : Program) (w : World) (x : Wd) (g : Heap) (l : List Ent) (s : Shared) (n : Nat) (V : Nat → Value → Prop) (i : Value) : Prop :=
  ∃ it P, i = .ref it ∧ St x g ((it, P 0) :: l) s ∧ ItOk prog w g it P n V ∧
    ∀ (A : Around) (E : Value → Shared → Prop) (Q : Value → Shared → Prop) (l : List Ent) (s : Shared), St x g ((it, P 0) :: l) s → Q (.ref it) s → wpAny (model prog w) A (pyIter (.ref it)) Q E s

theorem itsList {la : Addr} {vs : List Value} {Q : Value → Shared → Prop} (S : St x g l s) (hl : g.IsList la vs.toArray)
    (h : ∀ i s', Its prog w x g l s' vs.length (fun i v => vs[i]? = some v) i → Q i s') : wpAny (model prog w) A (pyIter (.ref la)) Q E s :=
  iterList S hl fun it s' S' I => h _ _ (in24 it _ rfl S' I (fun _ _ _ _ _ S q => selfList S q))
theorem itsRange {r : Addr} {b : Int} {Q : Value → Shared → Prop} (S : St x g ((r, RangeP 0 b) :: l) s) (hb : b < 2 ^ 60) (hb' : -(2 ^ 60) < b)
    (h : ∀ i s', Its prog w x g l s' b.toNat (fun i v => ∃ t, v = .int (0 + i) t) i → Q i s') : wpAny (model prog w) A (pyIter (.ref r)) Q E s :=
  iterRange S hb hb' fun it s' S' I => h _ _ (in24 it _ rfl S' I (fun _ _ _ _ _ S q => selfRange S q))

theorem rangeF_succ (p : Nat → Bool) (i : Nat) : (List.range (i + 1)).filter p = (List.range i).filter p ++ (if p i then [i] else []) := by
  rw [List.range_succ, List.filter_append]
  cases h : p i <;> simp [h]

theorem pairMono {α β : Type} {F F' : α → β → Prop} (k : ∀ a b, F a b → F' a b) : ∀ {l₁ : List α} {l₂ : List β}, Paired F l₁ l₂ → Paired F' l₁ l₂ := by
  intro l₁ l₂ h
  induction h with
  | nil => exact .nil
  | cons a _ ih => exact .cons (k _ _ a) ih

/-- a comprehension whose name is local and which turns nothing but its own frame -/
theorem compLU {elt iter : Expr} {y : Str} {py : Pos} {ifs : List Expr} {scope : Scope} {pos : Pos} {env : Env} {Q : Value → Shared → Prop} {cl : List (Str × Addr)} {use : Option (Value → Sem Unit)}
    (hclos : closureFor scope env = pure cl) (hkind : scope.kind = .function) (hnames : ∀ y ∈ scope.names, y.2 = .local → scope.names.lookup y.1 = some .local) (hcell : cellNs scope.names = []) (hy : scope.names.lookup y = some .local) (hh : A.handled = none)
    (hs : ∀ v, foldedSetIterable iter env v = pure v)
    (hiter : wpAny (model prog w) A (eval iter env) (fun v s₁ => wpAny (model prog w) A (pyIter v) (fun i s₂ => ∃ g₂ l₂ n V, Le g g₂ ∧ Its prog w x g₂ l₂ s₂ n V i ∧ n ≤ 1000 ∧
      ∃ (p : Nat → Bool) (El : Heap → Nat → Value → Prop), (∀ g' g'' k v, Le g' g'' → El g' k v → El g'' k v) ∧
      (∀ C i v g' m r s', i < n → V i v → Le g₂ g' → (∀ q ∈ l₂, q ∈ r) → m y = some v → St x g' ((C, NsP m) :: r) s' →
        wpAny (model prog w) A (forIn ifs true fun c b => if b = true then do let ok ← isTrue c (cpEnv scope cl C env) (eval c (cpEnv scope cl C env)); pure (ForInStep.yield ok) else pure (ForInStep.yield b))
          (fun b s₃ => b = p i ∧ ∃ g'', Le g' g'' ∧ St x g'' ((C, NsP m) :: r) s₃) (fun _ _ => False) s') ∧
      (∀ C i v g' m r s', i < n → V i v → p i = true → Le g₂ g' → (∀ q ∈ l₂, q ∈ r) → m y = some v → St x g' ((C, NsP m) :: r) s' →
        wpAny (model prog w) A (eval elt (cpEnv scope cl C env)) (fun u s₃ => ∃ g'', Le g' g'' ∧ St x g'' ((C, NsP m) :: r) s₃ ∧ El g'' i u) (fun _ _ => False) s') ∧
      (∀ acc g' ys C m s', Le g₂ g' → Paired (El g') ((List.range n).filter p) ys → St x g' ((C, NsP m) :: (acc, ListP ys) :: l₂) s' → FinU prog w A E x Q use g' ((acc, ListP ys) :: l₂) C m acc s')) E s₁) E s) :
    wpAny (model prog w) A (comprehension (.ListComp elt [⟨.Name y py, iter, ifs, 0⟩] scope pos) scope env (firstIterPos [⟨.Name y py, iter, ifs, 0⟩] pos) (newList []) false (eval iter env) use) Q E s := by
  refine compG (x := x) (g := g) hclos hkind hnames hh hs (wpAny_mono hiter (fun v s₁ h₁ => wpAny_mono h₁ (fun i s₂ h₂ => ?_) fun _ _ e => e) fun _ _ e => e)
  refine el44 h₂ fun g₂ l₂ n V hg z35_ hn z36_ => ?_; try clear h₂; refine el24 z35_ fun it P e37_ S I hself => ?_; try clear z35_; subst e37_; refine el24 z36_ fun p El hmono ht he fin => ?_; try clear z36_
  refine (in79 (fun i ys g' l' => l' = l₂ ∧ Paired (El g') ((List.range i).filter p) ys) it g₂ l₂ P n V rfl hg S I hn ⟨rfl, .nil⟩ hself ?_ ?_)
  · intro C bs hbs i v g' l' ys us acc m s' hus hi hv hg' hJ S'
    refine el02 hJ fun e38_ hP => ?_; try clear hJ; subst e38_
    rw [hcell] at hbs
    obtain rfl : bs = [] := List.length_eq_zero_iff.mp hbs
    obtain rfl : us = [] := List.length_eq_zero_iff.mp hus
    have e : (cellNs scope.names).reverse.zip ([] : List Addr) ++ cl = cl := by rw [hcell]; rfl
    rw [e]
    refine wpAny_assign_Name (stL S' (lookup_relabel_local hy) hkind .head fun s₁ S₁ => ?_)
    refine wpAny_mono (ht C i v g' _ _ s₁ hi hv hg' (fun q hq => .tail _ (.tail _ hq)) upd_same S₁) (fun ok s₂ h₂ => ?_) fun _ _ e => e
    refine el02 h₂ fun hok z39_ => ?_; try clear h₂; refine el12 z39_ fun g'' k1 S₂ => ?_; try clear z39_
    split
    · rename_i hb
      have hp : p i = true := by rw [← hok, hb]
      refine wpAny_mono (he C i v g'' _ _ s₂ hi hv hp (hg'.trans k1) (fun q hq => .tail _ (.tail _ hq)) upd_same S₂) (fun u s₃ h₃ => ?_) fun _ _ e => e
      refine el13 h₃ fun g3 k2 S₃ hE => ?_; try clear h₃
      refine (in45 g3 _ ([]) _ rfl (k1.trans k2) S₃ rfl ?_)
      rw [rangeF_succ, hp]
      exact (pairMono (fun a b q => hmono _ _ _ _ (k1.trans k2) q) hP).snoc hE
    · rename_i hb
      have hp : p i = false := by rw [← hok]; simpa using hb
      refine (in45 g'' _ ([]) _ rfl k1 S₂ rfl ?_)
      rw [rangeF_succ, hp]
      simpa using pairMono (fun a b q => hmono _ _ _ _ k1 q) hP
  · intro acc g' l' ys C m s' hg' hR8 S'
    refine el02 hR8 fun e40_ hP => ?_; try clear hR8; subst e40_
    exact fin acc g' ys C m s' hg' hP S'

/-- the same, the name a cell -/
theorem compCU {elt iter : Expr} {y : Str} {py : Pos} {ifs : List Expr} {scope : Scope} {pos : Pos} {env : Env} {Q : Value → Shared → Prop} {cl : List (Str × Addr)} {use : Option (Value → Sem Unit)}
    (hclos : closureFor scope env = pure cl) (hkind : scope.kind = .function) (hnames : ∀ y ∈ scope.names, y.2 = .local → scope.names.lookup y.1 = some .local) (hcell : cellNs scope.names = [y])
    (hy : ∀ C cs, (cpEnv scope cs C env).kindOf y = some .cell) (hh : A.handled = none)
    (hs : ∀ v, foldedSetIterable iter env v = pure v)
    (hiter : wpAny (model prog w) A (eval iter env) (fun v s₁ => wpAny (model prog w) A (pyIter v) (fun i s₂ => ∃ g₂ l₂ n V, Le g g₂ ∧ Its prog w x g₂ l₂ s₂ n V i ∧ n ≤ 1000 ∧
      ∃ (p : Nat → Bool) (El : Heap → Nat → Value → Prop), (∀ g' g'' k v, Le g' g'' → El g' k v → El g'' k v) ∧
      (∀ C b i v g' m r s', i < n → V i v → Le g₂ g' → (∀ q ∈ l₂, q ∈ r) → St x g' ((b, CellP (some v)) :: (C, NsP m) :: r) s' →
        wpAny (model prog w) A (forIn ifs true fun c b' => if b' = true then do let ok ← isTrue c (cpEnv scope ((y, b) :: cl) C env) (eval c (cpEnv scope ((y, b) :: cl) C env)); pure (ForInStep.yield ok) else pure (ForInStep.yield b'))
          (fun b' s₃ => b' = p i ∧ ∃ g'', Le g' g'' ∧ St x g'' ((b, CellP (some v)) :: (C, NsP m) :: r) s₃) (fun _ _ => False) s') ∧
      (∀ C b i v g' m r s', i < n → V i v → p i = true → Le g₂ g' → (∀ q ∈ l₂, q ∈ r) → St x g' ((b, CellP (some v)) :: (C, NsP m) :: r) s' →
        wpAny (model prog w) A (eval elt (cpEnv scope ((y, b) :: cl) C env)) (fun u s₃ => ∃ g'', Le g' g'' ∧ St x g'' ((b, CellP (some v)) :: (C, NsP m) :: r) s₃ ∧ El g'' i u) (fun _ _ => False) s') ∧
      (∀ acc g' ys C m s', Le g₂ g' → Paired (El g') ((List.range n).filter p) ys → St x g' ((C, NsP m) :: (acc, ListP ys) :: l₂) s' → FinU prog w A E x Q use g' ((acc, ListP ys) :: l₂) C m acc s')) E s₁) E s) :
    wpAny (model prog w) A (comprehension (.ListComp elt [⟨.Name y py, iter, ifs, 0⟩] scope pos) scope env (firstIterPos [⟨.Name y py, iter, ifs, 0⟩] pos) (newList []) false (eval iter env) use) Q E s := by
  refine compG (x := x) (g := g) hclos hkind hnames hh hs (wpAny_mono hiter (fun v s₁ h₁ => wpAny_mono h₁ (fun i s₂ h₂ => ?_) fun _ _ e => e) fun _ _ e => e)
  refine el44 h₂ fun g₂ l₂ n V hg z41_ hn z42_ => ?_; try clear h₂; refine el24 z41_ fun it P e43_ S I hself => ?_; try clear z41_; subst e43_; refine el24 z42_ fun p El hmono ht he fin => ?_; try clear z42_
  refine (in79 (fun i ys g' l' => l' = l₂ ∧ Paired (El g') ((List.range i).filter p) ys) it g₂ l₂ P n V rfl hg S I hn ⟨rfl, .nil⟩ hself ?_ ?_)
  · intro C bs hbs i v g' l' ys us acc m s' hus hi hv hg' hJ S'
    refine el02 hJ fun e44_ hP => ?_; try clear hJ; subst e44_
    rw [hcell] at hbs
    refine el11 (List.length_eq_one_iff.mp hbs) fun b e45_ => ?_; subst e45_
    refine el11 (List.length_eq_one_iff.mp hus) fun u e46_ => ?_; subst e46_
    have e : (cellNs scope.names).reverse.zip [b] ++ cl = (y, b) :: cl := by rw [hcell]; rfl
    rw [e]
    refine wpAny_assign_Name (stC (c := b) S' (hy _ _) hkind (by simp [List.lookup]) .head fun s₁ S₁ => ?_)
    refine wpAny_mono (ht C b i v g' _ _ s₁ hi hv hg' (fun q hq => .tail _ (.tail _ hq)) S₁) (fun ok s₂ h₂ => ?_) fun _ _ e => e
    refine el02 h₂ fun hok z47_ => ?_; try clear h₂; refine el12 z47_ fun g'' k1 S₂ => ?_; try clear z47_
    split
    · rename_i hb
      have hp : p i = true := by rw [← hok, hb]
      refine wpAny_mono (he C b i v g'' _ _ s₂ hi hv hp (hg'.trans k1) (fun q hq => .tail _ (.tail _ hq)) S₂) (fun u s₃ h₃ => ?_) fun _ _ e => e
      refine el13 h₃ fun g3 k2 S₃ hE => ?_; try clear h₃
      refine (in45 g3 _ ([some v]) _ rfl (k1.trans k2) S₃ rfl ?_)
      rw [rangeF_succ, hp]
      exact (pairMono (fun a b q => hmono _ _ _ _ (k1.trans k2) q) hP).snoc hE
    · rename_i hb
      have hp : p i = false := by rw [← hok]; simpa using hb
      refine (in45 g'' _ ([some v]) _ rfl k1 S₂ rfl ?_)
      rw [rangeF_succ, hp]
      simpa using pairMono (fun a b q => hmono _ _ _ _ k1 q) hP
  · intro acc g' l' ys C m s' hg' hR8 S'
    refine el02 hR8 fun e48_ hP => ?_; try clear hR8; subst e48_
    exact fin acc g' ys C m s' hg' hP S'

/-- its value -/
theorem compL {elt iter : Expr} {y : Str} {py : Pos} {ifs : List Expr} {scope : Scope} {pos : Pos} {env : Env} {cl : List (Str × Addr)} {Q : Value → Shared → Prop}
    (hclos : closureFor scope env = pure cl) (hkind : scope.kind = .function) (hnames : ∀ y ∈ scope.names, y.2 = .local → scope.names.lookup y.1 = some .local) (hcell : cellNs scope.names = []) (hy : scope.names.lookup y = some .local) (hh : A.handled = none)
    (hs : ∀ v, foldedSetIterable iter env v = pure v)
    (hiter : wpAny (model prog w) A (eval iter env) (fun v s₁ => wpAny (model prog w) A (pyIter v) (fun i s₂ => ∃ g₂ l₂ n V, Le g g₂ ∧ Its prog w x g₂ l₂ s₂ n V i ∧ n ≤ 1000 ∧
      ∃ (p : Nat → Bool) (El : Heap → Nat → Value → Prop), (∀ g' g'' k v, Le g' g'' → El g' k v → El g'' k v) ∧
      (∀ C i v g' m r s', i < n → V i v → Le g₂ g' → (∀ q ∈ l₂, q ∈ r) → m y = some v → St x g' ((C, NsP m) :: r) s' →
        wpAny (model prog w) A (forIn ifs true fun c b => if b = true then do let ok ← isTrue c (cpEnv scope cl C env) (eval c (cpEnv scope cl C env)); pure (ForInStep.yield ok) else pure (ForInStep.yield b))
          (fun b s₃ => b = p i ∧ ∃ g'', Le g' g'' ∧ St x g'' ((C, NsP m) :: r) s₃) (fun _ _ => False) s') ∧
      (∀ C i v g' m r s', i < n → V i v → p i = true → Le g₂ g' → (∀ q ∈ l₂, q ∈ r) → m y = some v → St x g' ((C, NsP m) :: r) s' →
        wpAny (model prog w) A (eval elt (cpEnv scope cl C env)) (fun u s₃ => ∃ g'', Le g' g'' ∧ St x g'' ((C, NsP m) :: r) s₃ ∧ El g'' i u) (fun _ _ => False) s') ∧
      (∀ acc g' ys s', Le g₂ g' → Paired (El g') ((List.range n).filter p) ys → St x g' ((acc, ListP ys) :: l₂) s' → Q (.ref acc) s')) E s₁) E s) :
    wpAny (model prog w) A (eval (.ListComp elt [⟨.Name y py, iter, ifs, 0⟩] scope pos) env) Q E s := by
  rw [eval_ListComp]
  refine compLU (x := x) (g := g) (use := none) hclos hkind hnames hcell hy hh hs (wpAny_mono hiter (fun v s₁ h₁ => wpAny_mono h₁ (fun i s₂ h₂ => ?_) fun _ _ e => e) fun _ _ e => e)
  refine el44 h₂ fun g₂ l₂ n V hg hI hn z49_ => ?_; try clear h₂; refine el24 z49_ fun p El hmono ht he fin => ?_; try clear z49_
  exact (in44 g₂ l₂ n V hg hI hn (in24 p El hmono ht he (fun acc g' ys C m s' k1 k2 _ s3 S3 => fin acc g' ys s3 k1 k2 S3)))

/-- it is laid under a local name, the stores exchanged -/
theorem compLA {elt iter : Expr} {y : Str} {py : Pos} {ifs : List Expr} {scope : Scope} {pos : Pos} {env : Env} {cl : List (Str × Addr)} {Q : Flow → Shared → Prop} {z : Str} {pz pos' : Pos}
    (hsw : swapsWith (.ListComp elt [⟨.Name y py, iter, ifs, 0⟩] scope pos) (some (.Name z pz)) pos'.line env = pure true) (hz : env.kindOf z = some .local) (hf : env.scope.kind = .function)
    (hclos : closureFor scope env = pure cl) (hkind : scope.kind = .function) (hnames : ∀ y ∈ scope.names, y.2 = .local → scope.names.lookup y.1 = some .local) (hcell : cellNs scope.names = []) (hy : scope.names.lookup y = some .local) (hh : A.handled = none)
    (hs : ∀ v, foldedSetIterable iter env v = pure v)
    (hiter : wpAny (model prog w) A (eval iter env) (fun v s₁ => wpAny (model prog w) A (pyIter v) (fun i s₂ => ∃ g₂ l₂ n V, Le g g₂ ∧ Its prog w x g₂ l₂ s₂ n V i ∧ n ≤ 1000 ∧
      ∃ (p : Nat → Bool) (El : Heap → Nat → Value → Prop), (∀ g' g'' k v, Le g' g'' → El g' k v → El g'' k v) ∧
      (∀ C i v g' m r s', i < n → V i v → Le g₂ g' → (∀ q ∈ l₂, q ∈ r) → m y = some v → St x g' ((C, NsP m) :: r) s' →
        wpAny (model prog w) A (forIn ifs true fun c b => if b = true then do let ok ← isTrue c (cpEnv scope cl C env) (eval c (cpEnv scope cl C env)); pure (ForInStep.yield ok) else pure (ForInStep.yield b))
          (fun b s₃ => b = p i ∧ ∃ g'', Le g' g'' ∧ St x g'' ((C, NsP m) :: r) s₃) (fun _ _ => False) s') ∧
      (∀ C i v g' m r s', i < n → V i v → p i = true → Le g₂ g' → (∀ q ∈ l₂, q ∈ r) → m y = some v → St x g' ((C, NsP m) :: r) s' →
        wpAny (model prog w) A (eval elt (cpEnv scope cl C env)) (fun u s₃ => ∃ g'', Le g' g'' ∧ St x g'' ((C, NsP m) :: r) s₃ ∧ El g'' i u) (fun _ _ => False) s') ∧
      (∀ acc, ∃ m' l', Upd l₂ env.locals (NsP m') (NsP (upd m' z (.ref acc))) l' ∧ ∀ g' ys s', Le g₂ g' → Paired (El g') ((List.range n).filter p) ys → St x g' ((acc, ListP ys) :: l') s' → Q .next s')) E s₁) E s) :
    wpAny (model prog w) A (exec (.Assign [.Name z pz] (.ListComp elt [⟨.Name y py, iter, ifs, 0⟩] scope pos) pos') env) Q E s := by
  rw [exec_Assign_Name_used _ _ _ _ hsw]
  refine wpAny_bind (wpAny_standAt (wpAny_bind ?_))
  show wpAny _ _ (comprehension (.ListComp elt [⟨.Name y py, iter, ifs, 0⟩] scope pos) scope env (firstIterPos [⟨.Name y py, iter, ifs, 0⟩] pos) (newList []) false (eval iter env) (some (assign (.Name z pz) env)) >>= fun _ => pure ()) _ _ _
  refine wpAny_bind (compLU (x := x) (g := g) (use := some (assign (.Name z pz) env)) hclos hkind hnames hcell hy hh hs (wpAny_mono hiter (fun v s₁ h₁ => wpAny_mono h₁ (fun i s₂ h₂ => ?_) fun _ _ e => e) fun _ _ e => e))
  refine el44 h₂ fun g₂ l₂ n V hg hI hn z50_ => ?_; try clear h₂; refine el24 z50_ fun p El hmono ht he fin => ?_; try clear z50_
  refine (in44 g₂ l₂ n V hg hI hn (in24 p El hmono ht he (fun acc g' ys C m s' k1 k2 S => ?_)))
  refine el22 (fin acc) fun m' l' hU hq => ?_
  refine wpAny_assign_Name (stL S hz hf (.tail (.tail hU)) fun s1 S1 => ?_)
  exact (in32 g' _ _ S1 (fun s3 S3 => wpAny_pure (wpAny_pure (hq g' ys s3 k1 k2 S3))))

/-- its value -/
theorem compC {elt iter : Expr} {y : Str} {py : Pos} {ifs : List Expr} {scope : Scope} {pos : Pos} {env : Env} {cl : List (Str × Addr)} {Q : Value → Shared → Prop}
    (hclos : closureFor scope env = pure cl) (hkind : scope.kind = .function) (hnames : ∀ y ∈ scope.names, y.2 = .local → scope.names.lookup y.1 = some .local) (hcell : cellNs scope.names = [y])
    (hy : ∀ C cs, (cpEnv scope cs C env).kindOf y = some .cell) (hh : A.handled = none)
    (hs : ∀ v, foldedSetIterable iter env v = pure v)
    (hiter : wpAny (model prog w) A (eval iter env) (fun v s₁ => wpAny (model prog w) A (pyIter v) (fun i s₂ => ∃ g₂ l₂ n V, Le g g₂ ∧ Its prog w x g₂ l₂ s₂ n V i ∧ n ≤ 1000 ∧
      ∃ (p : Nat → Bool) (El : Heap → Nat → Value → Prop), (∀ g' g'' k v, Le g' g'' → El g' k v → El g'' k v) ∧
      (∀ C b i v g' m r s', i < n → V i v → Le g₂ g' → (∀ q ∈ l₂, q ∈ r) → St x g' ((b, CellP (some v)) :: (C, NsP m) :: r) s' →
        wpAny (model prog w) A (forIn ifs true fun c b' => if b' = true then do let ok ← isTrue c (cpEnv scope ((y, b) :: cl) C env) (eval c (cpEnv scope ((y, b) :: cl) C env)); pure (ForInStep.yield ok) else pure (ForInStep.yield b'))
          (fun b' s₃ => b' = p i ∧ ∃ g'', Le g' g'' ∧ St x g'' ((b, CellP (some v)) :: (C, NsP m) :: r) s₃) (fun _ _ => False) s') ∧
      (∀ C b i v g' m r s', i < n → V i v → p i = true → Le g₂ g' → (∀ q ∈ l₂, q ∈ r) → St x g' ((b, CellP (some v)) :: (C, NsP m) :: r) s' →
        wpAny (model prog w) A (eval elt (cpEnv scope ((y, b) :: cl) C env)) (fun u s₃ => ∃ g'', Le g' g'' ∧ St x g'' ((b, CellP (some v)) :: (C, NsP m) :: r) s₃ ∧ El g'' i u) (fun _ _ => False) s') ∧
      (∀ acc g' ys s', Le g₂ g' → Paired (El g') ((List.range n).filter p) ys → St x g' ((acc, ListP ys) :: l₂) s' → Q (.ref acc) s')) E s₁) E s) :
    wpAny (model prog w) A (eval (.ListComp elt [⟨.Name y py, iter, ifs, 0⟩] scope pos) env) Q E s := by
  rw [eval_ListComp]
  refine compCU (x := x) (g := g) (use := none) hclos hkind hnames hcell hy hh hs (wpAny_mono hiter (fun v s₁ h₁ => wpAny_mono h₁ (fun i s₂ h₂ => ?_) fun _ _ e => e) fun _ _ e => e)
  refine el44 h₂ fun g₂ l₂ n V hg hI hn z51_ => ?_; try clear h₂; refine el24 z51_ fun p El hmono ht he fin => ?_; try clear z51_
  exact (in44 g₂ l₂ n V hg hI hn (in24 p El hmono ht he (fun acc g' ys C m s' k1 k2 _ s3 S3 => fin acc g' ys s3 k1 k2 S3)))

/-- it is laid under a local name, the stores exchanged -/
theorem compCA {elt iter : Expr} {y : Str} {py : Pos} {ifs : List Expr} {scope : Scope} {pos : Pos} {env : Env} {cl : List (Str × Addr)} {Q : Flow → Shared → Prop} {z : Str} {pz pos' : Pos}
    (hsw : swapsWith (.ListComp elt [⟨.Name y py, iter, ifs, 0⟩] scope pos) (some (.Name z pz)) pos'.line env = pure true) (hz : env.kindOf z = some .local) (hf : env.scope.kind = .function)
    (hclos : closureFor scope env = pure cl) (hkind : scope.kind = .function) (hnames : ∀ y ∈ scope.names, y.2 = .local → scope.names.lookup y.1 = some .local) (hcell : cellNs scope.names = [y])
    (hy : ∀ C cs, (cpEnv scope cs C env).kindOf y = some .cell) (hh : A.handled = none)
    (hs : ∀ v, foldedSetIterable iter env v = pure v)
    (hiter : wpAny (model prog w) A (eval iter env) (fun v s₁ => wpAny (model prog w) A (pyIter v) (fun i s₂ => ∃ g₂ l₂ n V, Le g g₂ ∧ Its prog w x g₂ l₂ s₂ n V i ∧ n ≤ 1000 ∧
      ∃ (p : Nat → Bool) (El : Heap → Nat → Value → Prop), (∀ g' g'' k v, Le g' g'' → El g' k v → El g'' k v) ∧
      (∀ C b i v g' m r s', i < n → V i v → Le g₂ g' → (∀ q ∈ l₂, q ∈ r) → St x g' ((b, CellP (some v)) :: (C, NsP m) :: r) s' →
        wpAny (model prog w) A (forIn ifs true fun c b' => if b' = true then do let ok ← isTrue c (cpEnv scope ((y, b) :: cl) C env) (eval c (cpEnv scope ((y, b) :: cl) C env)); pure (ForInStep.yield ok) else pure (ForInStep.yield b'))
          (fun b' s₃ => b' = p i ∧ ∃ g'', Le g' g'' ∧ St x g'' ((b, CellP (some v)) :: (C, NsP m) :: r) s₃) (fun _ _ => False) s') ∧
      (∀ C b i v g' m r s', i < n → V i v → p i = true → Le g₂ g' → (∀ q ∈ l₂, q ∈ r) → St x g' ((b, CellP (some v)) :: (C, NsP m) :: r) s' →
        wpAny (model prog w) A (eval elt (cpEnv scope ((y, b) :: cl) C env)) (fun u s₃ => ∃ g'', Le g' g'' ∧ St x g'' ((b, CellP (some v)) :: (C, NsP m) :: r) s₃ ∧ El g'' i u) (fun _ _ => False) s') ∧
      (∀ acc, ∃ m' l', Upd l₂ env.locals (NsP m') (NsP (upd m' z (.ref acc))) l' ∧ ∀ g' ys s', Le g₂ g' → Paired (El g') ((List.range n).filter p) ys → St x g' ((acc, ListP ys) :: l') s' → Q .next s')) E s₁) E s) :
    wpAny (model prog w) A (exec (.Assign [.Name z pz] (.ListComp elt [⟨.Name y py, iter, ifs, 0⟩] scope pos) pos') env) Q E s := by
  rw [exec_Assign_Name_used _ _ _ _ hsw]
  refine wpAny_bind (wpAny_standAt (wpAny_bind ?_))
  show wpAny _ _ (comprehension (.ListComp elt [⟨.Name y py, iter, ifs, 0⟩] scope pos) scope env (firstIterPos [⟨.Name y py, iter, ifs, 0⟩] pos) (newList []) false (eval iter env) (some (assign (.Name z pz) env)) >>= fun _ => pure ()) _ _ _
  refine wpAny_bind (compCU (x := x) (g := g) (use := some (assign (.Name z pz) env)) hclos hkind hnames hcell hy hh hs (wpAny_mono hiter (fun v s₁ h₁ => wpAny_mono h₁ (fun i s₂ h₂ => ?_) fun _ _ e => e) fun _ _ e => e))
  refine el44 h₂ fun g₂ l₂ n V hg hI hn z52_ => ?_; try clear h₂; refine el24 z52_ fun p El hmono ht he fin => ?_; try clear z52_
  refine (in44 g₂ l₂ n V hg hI hn (in24 p El hmono ht he (fun acc g' ys C m s' k1 k2 S => ?_)))
  refine el22 (fin acc) fun m' l' hU hq => ?_
  refine wpAny_assign_Name (stL S hz hf (.tail (.tail hU)) fun s1 S1 => ?_)
  exact (in32 g' _ _ S1 (fun s3 S3 => wpAny_pure (wpAny_pure (hq g' ys s3 k1 k2 S3))))
end Jr
end
-- JI
section
namespace Jr
open PySem PySem.W PySem.Calls PySem.SeqAt
open PyProof.Rows (subscriptTail)
variable {x : Wd} {g : Heap} {l : List Ent} {s : Shared} {A : Around} {E : Value → Shared → Prop} {prog : Program} {w : World} {a b : Int} {t u : Tok} {Q : Value → Shared → Prop} {env : Env}

theorem subs {value slice : Expr} {pos : Pos} (h : wpAny (model prog w) A (eval value env) (fun o s₁ => wpAny (model prog w) A (eval slice env) (fun i s₂ => wpAny (model prog w) A (subscriptTail value slice o i) Q E s₂) E s₁) E s) :
    wpAny (model prog w) A (eval (.Subscript value slice pos) env) Q E s := PyProof.Rows.Subscript_ h

theorem idxL {value slice : Expr} {la : Addr} {k : Int} {vs : List Value} {v : Value} (hl : s.heap.IsList la vs.toArray) (h0 : 0 ≤ k) (hk : k < 2 ^ 63) (hv : vs[k.toNat]? = some v) (h : Q v s)
    (hs : subscripted slice false (.ref la) (.int k u) = operate [.ref la, .int k u] (getItem (.ref la) (.int k u)) := by with_unfolding_all rfl) : wpAny (model prog w) A (subscriptTail value slice (.ref la) (.int k u)) Q E s :=
  PyProof.Rows.tail_any hl.typeIs slot_list_getitem.lookup (wpAny_getItem_list hl h0 hk (by simpa using hv) h) hs

theorem inL {la : Addr} {vs : List Value} {v : Value} (e : Value → Bool) (hl : s.heap.IsList la vs.toArray) (he : ∀ y ∈ vs, EqAt A.in1 s y v (e y)) (h : Q (.bool (vs.any e)) s) : wpAny (model prog w) A (compareOp .In v (.ref la)) Q E s :=
  in_listAt e hl (fun y hy => he y (by simpa using hy)) (by simpa using h)
theorem notInL {la : Addr} {vs : List Value} {v : Value} (e : Value → Bool) (hl : s.heap.IsList la vs.toArray) (he : ∀ y ∈ vs, EqAt A.in1 s y v (e y)) (h : Q (.bool (!vs.any e)) s) : wpAny (model prog w) A (compareOp .NotIn v (.ref la)) Q E s :=
  notIn_listAt e hl (fun y hy => he y (by simpa using hy)) (by simpa using h)

/-- lists of ints, of lists of ints, in the frozen part -/
def IntV (i : Int) (v : Value) : Prop := ∃ t, v = .int i t
def IntL (g : Heap) (is : List Int) (v : Value) : Prop := ∃ a vs, v = .ref a ∧ g.IsList a vs.toArray ∧ Paired IntV is vs
def IntLL (g : Heap) (iss : List (List Int)) (v : Value) : Prop := ∃ a vs, v = .ref a ∧ g.IsList a vs.toArray ∧ Paired (IntL g) iss vs
theorem IntL.le {g g' : Heap} {is : List Int} {v : Value} (h : IntL g is v) (k : Le g g') : IntL g' is v := by obtain ⟨a, vs, p, q, r⟩ := h; exact (in23 a vs p (isList_le q k) r)
theorem IntLL.le {g g' : Heap} {is : List (List Int)} {v : Value} (h : IntLL g is v) (k : Le g g') : IntLL g' is v := by obtain ⟨a, vs, p, q, r⟩ := h; exact (in23 a vs p (isList_le q k) (pairMono (fun _ _ z => z.le k) r))

theorem pairGet {α β : Type} {F : α → β → Prop} {l₁ : List α} {l₂ : List β} (h : Paired F l₁ l₂) : ∀ {i : Nat} {a : α}, l₁[i]? = some a → ∃ b, l₂[i]? = some b ∧ F a b := by
  induction h with
  | nil => intro i a e; cases e
  | cons h t ih =>
    intro i a e
    cases i with
    | zero => cases e; exact (in12 _ rfl h)
    | succ i => exact ih (i := i) e
theorem pairGet' {α β : Type} {F : α → β → Prop} {l₁ : List α} {l₂ : List β} (h : Paired F l₁ l₂) : ∀ {i : Nat} {b : β}, l₂[i]? = some b → ∃ a, l₁[i]? = some a ∧ F a b := by
  induction h with
  | nil => intro i a e; cases e
  | cons h t ih =>
    intro i a e
    cases i with
    | zero => cases e; exact (in12 _ rfl h)
    | succ i => exact ih (i := i) e
theorem pairLen {α β : Type} {F : α → β → Prop} {l₁ : List α} {l₂ : List β} (h : Paired F l₁ l₂) : l₁.length = l₂.length := by
  induction h with
  | nil => rfl
  | cons _ _ ih => exact congrArg (· + 1) ih

def isI (i : Int) : Value → Bool
  | .int j _ => j == i
  | _ => false
theorem any_isI {is : List Int} {vs : List Value} {i : Int} (h : Paired IntV is vs) : vs.any (isI i) = is.contains i := by
  induction h with
  | nil => rfl
  | cons h _ ih =>
    refine el11 h fun t e53_ => ?_; try clear h; subst e53_
    simp only [List.any_cons, ih, List.contains_cons, isI]
    rw [Bool.beq_comm]
theorem eqI {is : List Int} {vs : List Value} (h : Paired IntV is vs) (i : Int) (t : Tok) : ∀ y ∈ vs, EqAt A s y (.int i t) (isI i y) := by
  induction h with
  | nil => intro y hy; cases hy
  | cons h _ ih =>
    refine el11 h fun u e54_ => ?_; try clear h; subst e54_
    intro y hy
    rcases List.mem_cons.mp hy with rfl | hy
    · exact EqAt.int_int _ _ _ _
    · exact ih y hy
theorem inI {is : List Int} {v : Value} {i : Int} {h : Heap} (hL : IntL h is v) (k : Le h s.heap) (hq : Q (.bool (is.contains i)) s) : wpAny (model prog w) A (compareOp .In (.int i t) v) Q E s := by
  refine el23 hL fun a vs e55_ hl hp => ?_; try clear hL; subst e55_
  exact inL (isI i) (isList_le hl k) (eqI hp i t) (by rw [any_isI hp]; exact hq)
theorem notInI {is : List Int} {v : Value} {i : Int} {h : Heap} (hL : IntL h is v) (k : Le h s.heap) (hq : Q (.bool (!is.contains i)) s) : wpAny (model prog w) A (compareOp .NotIn (.int i t) v) Q E s := by
  refine el23 hL fun a vs e56_ hl hp => ?_; try clear hL; subst e56_
  exact notInL (isI i) (isList_le hl k) (eqI hp i t) (by rw [any_isI hp]; exact hq)
theorem idxI {value slice : Expr} {is : List Int} {v : Value} {k i : Int} {h : Heap} (hL : IntL h is v) (hk : Le h s.heap) (h0 : 0 ≤ k) (hk2 : k < 2 ^ 63) (hi : is[k.toNat]? = some i) (hq : ∀ t, Q (.int i t) s)
    (hs : ∀ la, subscripted slice false (.ref la) (.int k u) = operate [.ref la, .int k u] (getItem (.ref la) (.int k u)) := by intro la; with_unfolding_all rfl) : wpAny (model prog w) A (subscriptTail value slice v (.int k u)) Q E s := by
  refine el23 hL fun a vs e57_ hl hp => ?_; try clear hL; subst e57_
  refine el12 (pairGet hp hi) fun v hv z58_ => ?_; refine el11 z58_ fun t e59_ => ?_; try clear z58_; subst e59_
  exact idxL (isList_le hl hk) h0 hk2 hv (hq t) (hs a)
theorem idxLL {value slice : Expr} {iss : List (List Int)} {is : List Int} {v : Value} {k : Int} {h : Heap} (hL : IntLL h iss v) (hk : Le h s.heap) (h0 : 0 ≤ k) (hk2 : k < 2 ^ 63) (hi : iss[k.toNat]? = some is) (hq : ∀ r, IntL h is r → Q r s)
    (hs : ∀ la, subscripted slice false (.ref la) (.int k u) = operate [.ref la, .int k u] (getItem (.ref la) (.int k u)) := by intro la; with_unfolding_all rfl) : wpAny (model prog w) A (subscriptTail value slice v (.int k u)) Q E s := by
  refine el23 hL fun a vs e60_ hl hp => ?_; try clear hL; subst e60_
  refine el12 (pairGet hp hi) fun v hv hr => ?_
  exact idxL (isList_le hl hk) h0 hk2 hv (hq v hr) (hs a)

/-- a list and the empty list compared -/
theorem neNil {la lb : Addr} {vs : List Value} (hl : s.heap.IsList la vs.toArray) (hb : s.heap.IsList lb #[]) (hu : A.units < cLine) (h : Q (.bool (!vs.isEmpty)) s) : wpAny (model prog w) A (compareOp .NotEq (.ref la) (.ref lb)) Q E s := by
  show wpAny _ _ (richCompare .NotEq _ _) _ _ _
  cases vs with
  | nil => exact RcNeAt.lists (e := fun _ => true) hl hb rfl hu (fun j h1 h2 => by simp at h1) prog w E Q h
  | cons v r => exact RcNeAt.lists_lengths hl hb (by simp) hu prog w E Q h
theorem eqNil {la lb : Addr} {vs : List Value} (hl : s.heap.IsList la vs.toArray) (hb : s.heap.IsList lb #[]) (hu : A.units < cLine) (h : Q (.bool vs.isEmpty) s) : wpAny (model prog w) A (compareOp .Eq (.ref la) (.ref lb)) Q E s := by
  cases vs with
  | nil => exact eq_listAt (e := fun _ => true) hl hb rfl hu (fun j h1 h2 => by simp at h1) h
  | cons v r => exact eq_list_lengthsAt hl hb (by simp) hu h

theorem lenL {la : Addr} {vs : List Value} (S : St x g l s) (hl : s.heap.IsList la vs.toArray) (hz : vs.length < 2 ^ 62) (h : ∀ t s', St x g l s' → Q (.int vs.length t) s') : wpAny (model prog w) A (call (.builtin "len") [.ref la] []) Q E s :=
  call_len_list hl (by rw [List.size_toArray]; walk_at "om") (by simpa using h _ _ (S.tok _))

/-- y.append(arg) -/
theorem callAppend {y : Str} {p1 p2 pos : Pos} {arg : Expr}
    (h : wpAny (model prog w) A (eval (.Name y p1) env) (fun ov s₁ => ∃ a vs, ov = .ref a ∧ (∃ o, s₁.heap.get? a = some o ∧ ListP vs o) ∧
      wpAny (model prog w) A (eval arg env) (fun v s₂ => wpAny (model prog w) A (call (.builtin "list.append") [.ref a, v] []) Q E s₂) E s₁) E s)
    (hst : (starEach [arg] env).all (fun y => !y.1) = true := by rfl) (hs : starEach [arg] env = [(false, eval arg env)] := by rfl) (hline : (p2.endLine == pos.line) = true := by rfl) :
    wpAny (model prog w) A (eval (.Call (.Attribute (.Name y p1) "append" p2) [arg] [] pos) env) Q E s := by
  refine wpAny_Call_method (T := "list") (id := "list.append") rfl (by rw [hs]; rfl) hline PySem.F.plainAttrs_list slot_list_append PySem.F.type_list_append (wpAny_mono h (fun ov s₁ h₁ => ?_) fun _ _ e => e)
  refine el23 h₁ fun a vs e61_ z62_ h₂ => ?_; try clear h₁; subst e61_; refine el14 z62_ fun o ho hc hd _ => ?_; try clear z62_
  refine (in03 ⟨o, ho, hc⟩ (fun b e => by cases e; exact (in12 o ho hd)) ?_)
  refine callWith_builtin (by rw [hs]; rfl) (argsOf hst ?_)
  rw [hs]
  exact spliced_cons (wpAny_mono h₂ (fun v s₂ h₃ => spliced_nil h₃) fun _ _ e => e)
end Jr
end
-- JL
section
namespace Jr
open PySem PySem.W PySem.Calls PySem.SeqAt PyProof.Rows
variable {x : Wd} {g : Heap} {l : List Ent} {s : Shared} {A : Around} {E : Value → Shared → Prop} {prog : Program} {w : World} {a b : Int} {t u : Tok} {Q : Value → Shared → Prop} {env : Env}

theorem truthyL {la : Addr} {vs : List Value} {Q : Bool → Shared → Prop} (S : St x g l s) (hl : s.heap.IsList la vs.toArray) (hz : vs.length < 2 ^ 62) (h : ∀ s', St x g l s' → Q (!vs.isEmpty) s') : wpAny (model prog w) A (truthy (.ref la)) Q E s :=
  wpAny_truthy_list hl (by rw [List.size_toArray]; omega) (by simpa using h _ (S.tok _))

theorem addLL {la lb : Addr} {vs ws : List Value} (S : St x g l s) (hl : s.heap.IsList la vs.toArray) (hb : s.heap.IsList lb ws.toArray) (hz : vs.length + ws.length ≤ sizeLine)
    (h : ∀ c s', St x g ((c, ListP (vs ++ ws)) :: l) s' → Q (.ref c) s') : wpAny (model prog w) A (binaryOp .Add (.ref la) (.ref lb)) Q E s := by
  obtain ⟨⟨cls, dd, data, sl⟩, ho, hc, n, hd⟩ := id hl
  obtain ⟨⟨cls2, dd2, data2, sl2⟩, ho2, hc2, n2, hd2⟩ := id hb
  simp only at hc hd hc2 hd2
  subst hc hd hc2 hd2
  have e : vs.toArray ++ ws.toArray = (vs ++ ws).toArray := by simp
  refine concat_meets ⟨_, ho, rfl⟩ ⟨_, ho2, rfl⟩ noFill_list_add seq_list_add PySem.F.slot_list_add PySem.F.entry_list_add (PySem.F.args_list_add_2 _ _) (list_addW la lb vs.toArray ws.toArray n n2 dd dd2 sl sl2 (by simpa using hz)) ⟨ho, ho2, ?_⟩
  rw [e]
  exact h _ _ (S.push (P := ListP (vs ++ ws)) ⟨rfl, rfl, 0, rfl⟩ rfl)

theorem intsAre {is : List Int} {vs : List Value} (h : Paired IntV is vs) : IntsAre vs is := by
  induction h with
  | nil => exact .nil
  | cons h _ ih => obtain ⟨t, rfl⟩ := h; exact .cons _ _ ih

theorem maxL {la : Addr} {vs : List Value} {is : List Int} (S : St x g l s) (hh : A.handled = none) (hl : s.heap.IsList la vs.toArray) (hp : Paired IntV is vs) (hne : 0 < is.length)
    (h : ∀ (m : Int) t s', St x g l s' → m ∈ is → (∀ a ∈ is, a ≤ m) → Q (.int m t) s') : wpAny (model prog w) A (call (.builtin "max") [.ref la] []) Q E s := by
  have hi := intsAre hp
  refine el11 (hi.allInts.items) fun xs e => ?_
  have hns : is = xs.toList.map (·.1) := by
    rw [← hi.numsOf, ← nums_intItems, ← e]
  have hsz : 0 < xs.size := by
    have h3 := hne; rw [hns, List.length_map, Array.length_toList] at h3; exact h3
  rw [e] at hl
  refine max_intList hh hl hsz fun v h' tk hv hk => ?_
  refine el11 (intItems_at hv) fun t e69_ => ?_; subst e69_
  refine el02 (argBest_gt (numAt xs) (xs.size - 1)) fun h1 h2 => ?_
  refine h _ t _ (S.ext hk tk) ?_ fun a ha => ?_
  · rw [hns, numAt_eq]; exact getD_mem (by rw [List.length_map, Array.length_toList]; omega)
  · rw [hns] at ha
    refine el12 (mem_getD ha) fun j hj e70_ => ?_; subst e70_
    rw [List.length_map, Array.length_toList] at hj
    rw [← numAt_eq]; exact h2 j (by omega)

theorem min2 (S : St x g l s) (hh : A.handled = none) (h : ∀ t s', St x g l s' → Q (.int (if b < a then b else a) t) s') : wpAny (model prog w) A (call (.builtin "min") [.int a t, .int b u] []) Q E s :=
  min_two_ints hh fun h' tk hk => by
    have := fun t' => h t' _ (S.ext hk tk)
    by_cases c : b < a
    · simpa only [if_pos c] using this u
    · simpa only [if_neg c] using this t
end Jr
end
-- JN
section
namespace Jr
open PySem PySem.W PySem.Calls PySem.SeqAt PySem.Builtin
open AutoSeq1 (wpAny_loadPart')
variable {x : Wd} {g : Heap} {l : List Ent} {s : Shared} {A : Around} {E : Value → Shared → Prop} {prog : Program} {w : World} {a b : Int} {t u : Tok} {env : Env}

/-! bytes -/
def bLt (b c : Array UInt8) : Bool := Bytes.order b.toList c.toList == .lt
theorem slot_bytes_lt : Slot "bytes" (cmpInfo .Lt).2.1 "bytes.__lt__" :=
  .of (owner := "bytes") (n := "__lt__") (by rw [typeLookup_type, builtinLookup_eq_fast]; kernel_rfl) (by decide +kernel) (by decide +kernel) (by decide +kernel)
    (by first | exact .inl (by decide +kernel) | exact .inr (by decide +kernel)) (by rw [isSubtype_type]; kernel_rfl)
theorem entry_bytes_lt : entryFor table "bytes.__lt__" = some Builtin.«bytes.__lt__» := entryFor_of_tree (by kernel_rfl)
theorem args_bytes_lt_2 (a b : Value) : argsOk "bytes.__lt__" ⟨[a, b], []⟩ := by
  unfold argsOk; rw [signature?_of (id := "bytes.__lt__") (n := ['_', '_', 't', 'l', '_', '_']) (o := ['s', 'e', 't', 'y', 'b']) (by kernel_rfl) FB.owner_bytes]; kernel_rfl
theorem gives_bytes_lt (b c : Array UInt8) (t u : Tok) : Gives («bytes.__lt__» ⟨[.bytes b t, .bytes c u], []⟩) (.val (.bool (bLt b c))) := by
  refine .of_wp fun M A E s Q hq => ?_
  show wpAny M A (isInstance (.bytes c u) (.type "bytes") >>= fun r => _) _ E s
  refine wpAny_bind (wpAny_isInstance (typeIs_bytes s c u) F.sub_bytes_bytes ?_)
  exact wpAny_pure (in12 _ rfl hq)
theorem rcBytesLt {b c : Array UInt8} {Q : Value → Shared → Prop} (h : Q (.bool (bLt b c)) s) : wpAny (model prog w) A (richCompare .Lt (.bytes b t) (.bytes c u)) Q E s :=
  richCompare_gives (op := .Lt) (typeIs_bytes s b t) (typeIs_bytes s c u) slot_bytes_lt entry_bytes_lt (args_bytes_lt_2 _ _) (gives_bytes_lt b c t u) (fun e => nomatch e) h rfl

theorem eqAtBytes (b c : Array UInt8) (t u : Tok) : EqAt A s (.bytes b t) (.bytes c u) (b.toList == c.toList) := fun prog w E Q h => by
  unfold eqBool
  refine wpAny_holding ?_
  refine wpAny_ite_split (fun hab => ?_) (fun hab => ?_)
  · have e := eq_of_beq hab
    injection e with e1 e2
    subst e1
    have : (b.toList == b.toList) = true := by simp
    rw [this] at h
    exact wpAny_bind (wpAny_rule (wpAny_pure h))
  · exact wpAny_bind (oBytesEq (wpAny_truthy_bool h))

/-! pairs of an int and bytes -/
abbrev It := Int × Array UInt8
def ltIt (p q : It) : Bool := if p.1 == q.1 then (if p.2.toList == q.2.toList then false else bLt p.2 q.2) else decide (p.1 < q.1)
def ItP (p : It) (o : Obj) : Prop := ∃ t u, TupP [.int p.1 t, .bytes p.2 u] o
def ItV (g : Heap) (p : It) (v : Value) : Prop := ∃ a o, v = .ref a ∧ g.get? a = some o ∧ ItP p o
theorem ItV.le {g g' : Heap} {p : It} {v : Value} (h : ItV g p v) (k : Le g g') : ItV g' p v := by obtain ⟨a, o, e, h1, h2⟩ := h; exact (in23 a o e (k _ _ h1) h2)

theorem tuple_lt2 (a b : Addr) (p q : It) (n n2 : Nat) (t1 t2 u1 u2 : Tok) (dd dd2 : Option Addr) (sl sl2 : Array (Option Value)) :
    Meets (Builtin.«tuple.__lt__» ⟨[.ref a, .ref b], []⟩)
      (fun A R s => s.heap.get? a = some { cls := .type "tuple", dict := dd, data := .seq #[.int p.1 t1, .bytes p.2 u1] n, slots := sl } ∧ s.heap.get? b = some { cls := .type "tuple", dict := dd2, data := .seq #[.int q.1 t2, .bytes q.2 u2] n2, slots := sl2 } ∧
        R (.ok (.ret (.bool (ltIt p q)))) s) :=
  .of_wp fun prog w A R s h => by
    obtain ⟨hp, g, d, tk, os⟩ := s; obtain ⟨hl, hb, h⟩ := h
    have f2 := AutoSeq1.sub_tuple_tuple
    wp_walk using wpAny_loadPart' hl, wpAny_loadPart' hb
    refine (show wpAny (model prog w) A.in1 (eqBool (.int p.1 t1) (.int q.1 t2)) _ _ _ from EqAt.int_int _ _ _ _ prog w _ _ ?_)
    unfold ltIt at h
    cases h1 : p.1 == q.1
    · rw [h1] at h
      refine (show wpAny (model prog w) A.in1 (rule "tuple.compare.by-the-first-pair-that-differs" >>= fun _ => richCompare .Lt (.int p.1 t1) (.int q.1 t2) >>= fun r => ret r >>= fun r => pure (ForInStep.done (some r, ()))) _ _ _ from ?_)
      refine wpAny_bind (wpAny_rule (wpAny_bind (show wpAny _ _ (compareOp .Lt _ _) _ _ _ from wpAny_lt_int ?_)))
      wp_walk
      exact (in12 _ rfl h)
    · rw [h1] at h
      wp_walk
      refine (show wpAny (model prog w) A.in1 (eqBool (.bytes p.2 u1) (.bytes q.2 u2)) _ _ _ from eqAtBytes _ _ _ _ prog w _ _ ?_)
      cases h2 : p.2.toList == q.2.toList
      · rw [h2] at h
        refine (show wpAny (model prog w) A.in1 (rule "tuple.compare.by-the-first-pair-that-differs" >>= fun _ => richCompare .Lt (.bytes p.2 u1) (.bytes q.2 u2) >>= fun r => ret r >>= fun r => pure (ForInStep.done (some r, ()))) _ _ _ from ?_)
        refine wpAny_bind (wpAny_rule (wpAny_bind (rcBytesLt ?_)))
        wp_walk
        exact (in12 _ rfl h)
      · rw [h2] at h
        wp_walk
        exact (in12 _ rfl h)
theorem rcItLt {v v2 : Value} {p q : It} (hv : ItV s.heap p v) (hw : ItV s.heap q v2) (hu : A.units < cLine) {Q : Value → Shared → Prop} (h : Q (.bool (ltIt p q)) s) : wpAny (model prog w) A (richCompare .Lt v v2) Q E s := by
  obtain ⟨a, ⟨cls, dd, data, sl⟩, rfl, ho, t1, u1, ht⟩ := hv
  obtain ⟨b, ⟨cls2, dd2, data2, sl2⟩, rfl, ho2, t2, u2, ht2⟩ := hw
  refine el03 ht fun h1 h2 z81_ => ?_; try clear ht; refine el11 z81_ fun n h3 => ?_; try clear z81_
  refine el03 ht2 fun h4 h5 z82_ => ?_; try clear ht2; refine el11 z82_ fun m h6 => ?_; try clear z82_
  simp only at h1 h2 h3 h4 h5 h6
  subst h1 h3 h4 h6
  exact richCompare_meets_room (op := .Lt) (in12 _ ho rfl) (in12 _ ho2 rfl) F.slot_tuple_lt F.entry_tuple_lt (F.args_tuple_lt_2 _ _) (tuple_lt2 a b p q n m t1 t2 u1 u2 dd dd2 sl sl2)
    (in03 ho ho2 (show Value.bool (ltIt p q) ≠ Value.notImplemented ∧ Q (.bool (ltIt p q)) s from ⟨(fun x => nomatch x), h⟩)) hu
end Jr
end
-- JC
section
namespace Jr
open PySem PySem.W PySem.Calls PyProof.Rows
variable {x : Wd} {g : Heap} {l : List Ent} {s : Shared} {A : Around} {E : Value → Shared → Prop}

noncomputable abbrev KK (w : World) : Frag := hd.heap_39 w.params
abbrev PP : Program := PySem.Challenge.pw_jr0003_01

structure Wf (w : World) (mg mb : Str → Option Value) (g : Heap) : Prop where
  K : (KK w).In g
  G : g.Ns mainGlobals mg
  B : g.Ns builtinsNs mb
  bu : ∀ y : Str, y ≠ "__name__" → mb y = bootBuiltins y
  lim : g.NoLimit
  bm : ∃ bm ob, mg "__builtins__" = some (.ref bm) ∧ bm ≠ builtinsNs ∧ g.get? bm = some ob ∧ ob.cls = .type "module" ∧ ob.dict = some builtinsNs ∧ ob.data = .plain
theorem Wf.le {w : World} {mg mb : Str → Option Value} {g g' : Heap} (W : Wf w mg mb g) (k : Le g g') : Wf w mg mb g' where
  K := W.K.keeps k
  G := W.G.keeps k
  B := W.B.keeps k
  bu := W.bu
  lim := W.lim.keeps k
  bm := by obtain ⟨a, b, c, d, e, f⟩ := W.bm; exact (in24 a b c d (k _ _ e) f)
variable {w : World} {mg mb : Str → Option Value}
theorem Wf.getg {y : Str} {v : Value} (W : Wf w mg mb g) (e : nsIn (KK w) mainGlobals y = some (some v)) : mg y = some v := mg_of W.K W.G e
theorem Wf.getn {y : Str} (W : Wf w mg mb g) (e : nsIn (KK w) mainGlobals y = some none) : mg y = none := mg_none_of W.K W.G e
theorem Wf.getb {y : Str} {v : Value} (W : Wf w mg mb g) (e : bootBuiltins y = some v) (hn : y ≠ "__name__") : mb y = some v := (W.bu y hn).trans e

theorem Wf.fn (W : Wf w mg mb g) (a : Addr) {o : Obj} {fd : FuncData} (e : (KK w).lookup a = some o) (h : o.data = .func fd) : ∃ o fd, g.get? a = some o ∧ o.data = .func fd := ⟨o, fd, W.K a o e, h⟩
theorem ldGW {env : Env} {y : Str} {pos : Pos} {v : Value} {Q : Value → Shared → Prop} (W : Wf w mg mb g) (S : St x g l s) (hk : env.kindOf y = some .globalImplicit) (hf : env.scope.kind = .function)
    (he : env.globals = mainGlobals) (e : nsIn (KK w) mainGlobals y = some (some v)) (h : Q v s) (hd : (y == ("__debug__" : Str)) = false := by decide) : wpAny (model PP w) A (eval (.Name y pos) env) Q E s :=
  ldG S hk hf (he ▸ W.G) (W.getg e) h hd
theorem ldBW {env : Env} {y : Str} {pos : Pos} {v : Value} {Q : Value → Shared → Prop} (W : Wf w mg mb g) (S : St x g l s) (hk : env.kindOf y = some .globalImplicit) (hf : env.scope.kind = .function)
    (he : env.globals = mainGlobals) (hb : env.builtins = builtinsNs) (e : nsIn (KK w) mainGlobals y = some none) (e' : bootBuiltins y = some v) (h : Q v s)
    (hn : y ≠ "__name__" := by decide) (hd : (y == ("__debug__" : Str)) = false := by decide) : wpAny (model PP w) A (eval (.Name y pos) env) Q E s :=
  ldB S hk hf (he ▸ W.G) (W.getn e) (hb ▸ W.B) (W.getb e' hn) h hd

/-- the names of the commits -/
def nm (k : Int) : Array UInt8 := #[99, ((97 : Int) + (7 * k).fmod 11).toNat.toUInt8]

set_option maxHeartbeats 4000000 in
theorem law_name {k : Int} {t : Tok} {Q : Value → Shared → Prop} (W : Wf w mg mb g) (S : St x g l s) (hd : A.depth < 900) (hh : A.handled = none) (h0 : 0 ≤ k) (h1 : k < 100)
    (h : ∀ t' s', St x g l s' → Q (.bytes (nm k) t') s') : wpAny (model PP w) A (call (.ref 121) [.int k t] []) Q E s := by
  refine callFQ0 (args := ⟨[.int k t], []⟩) (binds := [("k", .int k t)]) S (W.K 121 _ rfl) rfl (codeRec_of W.K (by kernel_rfl)) W.lim (by show A.depth < 1000; walk_at "om") (BindsTo.of_eq rfl) ?_
  intro L s S
  dsimp only
  refine stored_cons (stL S rfl rfl (m := fun _ => none) .head fun s S => ?_)
  refine stored_nil ⟨S.keep, ?_⟩
  refine nameXs ?_; intro ev Ax Ex Qx
  refine wpAny_execs_cons (wpAny_Return_some (wpAny_BinOp ?_))
  refine cBytes S fun t1 s S => ?_
  refine callTy ?_
  refine ldBW W S rfl rfl rfl rfl (by kernel_rfl) (by boot_fast) (in12 _ rfl ?_)
  refine wpAny_items_cons (List_ (wpAny_items_cons (wpAny_BinOp ?_)))
  refine cInt S fun t2 s S => ?_
  refine wpAny_BinOp (wpAny_BinOp ?_)
  refine cInt S fun t3 s S => ?_
  refine ldL S rfl rfl (by k_mem) upd_same ?_
  refine oMul S (by decide) fun t4 s S => ?_
  refine cInt S fun t5 s S => ?_
  refine oMod S (by decide) fun t6 s S => ?_
  refine oAdd S fun t7 s S => ?_
  refine wpAny_items_nil ?_
  refine nwList S (by size_fits) fun a s S => ?_
  refine wpAny_items_nil ?_
  have hb : 0 ≤ (97 : Int) + (7 * k).fmod 11 ∧ (97 : Int) + (7 * k).fmod 11 < 256 := by
    have e : (7 * k).fmod 11 = (7 * k) % 11 := by rw [Int.fmod_eq_emod_of_nonneg _ (by decide)]
    walk_at "om"
  refine call_bytes_ints (ns := [97 + (7 * k).fmod 11]) (S.list (by k_mem)) (IntsAre.cons _ _ IntsAre.nil) (by simpa using hb) (by size_fits) hh fun h' t8 k' hk => ?_
  refine oBytesAdd (S.ext hk _) (by rw [byteArr_size]; show 1 + 1 ≤ 16777216; decide) fun t9 s S => ?_
  exact h _ _ S.drop.drop
end Jr
end
-- JP
section
namespace Jr
open PySem PySem.W PySem.Calls PySem.SeqAt PySem.Builtin
open AutoSeq1 (wpAny_loadPart')
variable {x : Wd} {g : Heap} {l : List Ent} {s : Shared} {A : Around} {E : Value → Shared → Prop} {prog : Program} {w : World}

/-! items of the work list: a number and the name of a commit -/
def rk (k : Nat) : Int := ((7 * k % 11 : Nat) : Int)
abbrev Im := Int × Nat
def key (p : Im) : Int := p.1 * 16 + rk p.2
def ImV (g : Heap) (p : Im) (v : Value) : Prop := p.2 < 11 ∧ ItV g (p.1, nm p.2) v
theorem ImV.le {g g' : Heap} {p : Im} {v : Value} (h : ImV g p v) (k : Le g g') : ImV g' p v := ⟨h.1, h.2.le k⟩
theorem rk_lt {k : Nat} : 0 ≤ rk k ∧ rk k < 11 := by unfold rk; walk_at "om"
theorem rk_inj {i j : Nat} (hi : i < 11) (hj : j < 11) (h : rk i = rk j) : i = j := by unfold rk at h; walk_at "om"
theorem nm_eq : ∀ i < 11, ∀ j < 11, ((nm (i : Nat)).toList == (nm (j : Nat)).toList) = decide (i = j) := by decide +kernel
theorem nm_lt : ∀ i < 11, ∀ j < 11, bLt (nm (i : Nat)) (nm (j : Nat)) = decide (rk i < rk j) := by decide +kernel
theorem ltIm {p q : Im} (hp : p.2 < 11) (hq : q.2 < 11) : ltIt (p.1, nm p.2) (q.1, nm q.2) = decide (key p < key q) := by
  unfold ltIt key
  simp only [nm_eq _ hp _ hq, nm_lt _ hp _ hq]
  have h1 := @rk_lt p.2
  have h2 := @rk_lt q.2
  by_cases h : p.1 = q.1
  · rw [h]
    by_cases e : p.2 = q.2
    · simp [e]
    · simp [e]
  · simp [h]
    by_cases h3 : p.1 < q.1
    · simp [h3]; walk_at "om"
    · simp [h3]; walk_at "om"
theorem rcIm {v v2 : Value} {p q : Im} (hv : ImV s.heap p v) (hw : ImV s.heap q v2) (hu : A.units < cLine) {Q : Value → Shared → Prop} (h : Q (.bool (decide (key p < key q))) s) : wpAny (model prog w) A (richCompare .Lt v v2) Q E s :=
  rcItLt hv.2 hw.2 hu (by rw [ltIm hv.1 hw.1]; exact h)

theorem entry_sift : entryFor table "_heapq.heapify.sift" = some Builtin.«_heapq.heapify.sift» := entryFor_of_tree (by kernel_rfl)

/-! the order of a heap -/
def HpI (K : Nat → Int) (n : Nat) : Prop := ∀ i, 0 < i → i < n → K ((i - 1) / 2) ≤ K i
def DI (K : Nat → Int) (n pos : Nat) : Prop :=
  (∀ i, 0 < i → i < n → i ≠ pos → (i - 1) / 2 ≠ pos → K ((i - 1) / 2) ≤ K i) ∧ (∀ c, 0 < c → c < n → (c - 1) / 2 = pos → 0 < pos → K ((pos - 1) / 2) ≤ K c)
def UI (K : Nat → Int) (n pos : Nat) : Prop :=
  (∀ i, 0 < i → i < n → i ≠ pos → K ((i - 1) / 2) ≤ K i) ∧ (∀ c, 0 < c → c < n → (c - 1) / 2 = pos → 0 < pos → K ((pos - 1) / 2) ≤ K c)
def swI (K : Nat → Int) (a b : Nat) : Nat → Int := fun i => if i = a then K b else if i = b then K a else K i
theorem DI.leaf {K : Nat → Int} {n pos : Nat} (h : DI K n pos) (hl : ∀ c, 0 < c → c < n → (c - 1) / 2 ≠ pos) : UI K n pos :=
  ⟨fun i h0 hi hne => h.1 i h0 hi hne (hl i h0 hi), h.2⟩
theorem DI.step {K : Nat → Int} {n pos c : Nat} (h : DI K n pos) (hc0 : 0 < c) (hc : c < n) (hp : (c - 1) / 2 = pos) (hs : ∀ d, 0 < d → d < n → (d - 1) / 2 = pos → K c ≤ K d) : DI (swI K c pos) n c := by
  have hne : c ≠ pos := by walk_at "om"
  refine ⟨fun i h0 hi hi1 hi2 => ?_, fun d h0 hd hd2 _ => ?_⟩
  · unfold swI
    by_cases e : i = pos
    · subst e
      have h3 : (i - 1) / 2 ≠ c := by walk_at "om"
      have h4 : (i - 1) / 2 ≠ i := by walk_at "om"
      rw [if_neg h3, if_neg h4, if_neg (Ne.symm hne), if_pos rfl]
      exact h.2 c hc0 hc hp h0
    · rw [if_neg hi2, if_neg hi1, if_neg e]
      by_cases e2 : (i - 1) / 2 = pos
      · rw [if_pos e2]; exact hs i h0 hi e2
      · rw [if_neg e2]; exact h.1 i h0 hi e e2
  · unfold swI
    have h3 : d ≠ c := by walk_at "om"
    have h4 : d ≠ pos := by walk_at "om"
    rw [hp, if_neg (Ne.symm hne), if_pos rfl, if_neg h3, if_neg h4]
    have := h.1 d h0 hd h4 (by walk_at "om")
    rw [hd2] at this; exact this
theorem UI.step {K : Nat → Int} {n pos : Nat} (h : UI K n pos) (h0 : 0 < pos) (hn : pos < n) (hlt : K pos < K ((pos - 1) / 2)) : UI (swI K ((pos - 1) / 2) pos) n ((pos - 1) / 2) := by
  have hne : (pos - 1) / 2 ≠ pos := by walk_at "om"
  refine ⟨fun i hi0 hi hi1 => ?_, fun c hc0 hc hc2 hq => ?_⟩
  · unfold swI
    rw [if_neg hi1]
    by_cases e : i = pos
    · subst e; rw [if_pos rfl, if_pos rfl]; walk_at "om"
    · rw [if_neg e]
      have hh := h.1 i hi0 hi e
      by_cases e2 : (i - 1) / 2 = (pos - 1) / 2
      · rw [if_pos e2]; rw [e2] at hh; walk_at "om"
      · rw [if_neg e2]
        by_cases e3 : (i - 1) / 2 = pos
        · rw [if_pos e3]; exact h.2 i hi0 hi e3 h0
        · rw [if_neg e3]; exact hh
  · unfold swI
    have hpp := h.1 ((pos - 1) / 2) hq (by walk_at "om") hne
    rw [if_neg (by walk_at "om"), if_neg (by walk_at "om")]
    by_cases e : c = pos
    · subst e
      rw [if_neg (Ne.symm hne), if_pos rfl]; exact hpp
    · rw [if_neg (show c ≠ (pos - 1) / 2 by walk_at "om"), if_neg e]
      have hh := h.1 c hc0 hc e
      rw [hc2] at hh; walk_at "om"
theorem UI.stop {K : Nat → Int} {n pos : Nat} (h : UI K n pos) (hs : 0 < pos → ¬ K pos < K ((pos - 1) / 2)) : HpI K n := fun i h0 hi => by
  by_cases e : i = pos
  · subst e; have := hs h0; walk_at "om"
  · exact h.1 i h0 hi e
theorem HpI.root {K : Nat → Int} {n : Nat} (h : HpI K n) : ∀ i, i < n → K 0 ≤ K i := fun i => by
  induction i using Nat.strongRecOn with
  | _ i ih =>
    intro hi
    by_cases e : i = 0
    · subst e; exact Int.le_refl _
    · have h1 := h i (by walk_at "om") hi
      have h2 := ih ((i - 1) / 2) (by walk_at "om") (by walk_at "om")
      walk_at "om"

/-! the items of the heap -/
def kf (its : Array Im) : Nat → Int := fun i => key (its.getD i (0, 0))
structure Hq (g : Heap) (vs : Array Value) (its : Array Im) : Prop where
  size : vs.size = its.size
  item : ∀ i (h : i < vs.size) (h2 : i < its.size), ImV g its[i] vs[i]
theorem Hq.le {g g' : Heap} {vs its} (H : Hq g vs its) (k : Le g g') : Hq g' vs its := ⟨H.size, fun i h h2 => (H.item i h h2).le k⟩
theorem Hq.at {vs : Array Value} {its : Array Im} (H : Hq g vs its) {i : Nat} (h : i < its.size) : ∃ v, vs[i]? = some v ∧ ImV g its[i] v :=
  ⟨vs[i]'(H.size ▸ h), by simp [H.size, h], H.item _ _ h⟩
theorem kf_at {its : Array Im} {i : Nat} (h : i < its.size) : kf its i = key its[i] := by simp [kf, h]
theorem kf_swap {its : Array Im} {i j : Nat} (hi : i < its.size) (hj : j < its.size) : kf (its.swap i j) = swI (kf its) i j := by
  funext k
  unfold swI
  by_cases hk : k < its.size
  · rw [kf_at (by simpa using hk), Array.getElem_swap]
    by_cases e : k = i
    · simp [e, kf_at hj]
    · by_cases e2 : k = j
      · subst e2; simp [e, kf_at hi]
      · simp [e, e2, kf_at hk]
  · rw [if_neg (by walk_at "om"), if_neg (by walk_at "om")]
    simp [kf, Array.getD, hk]
theorem Hq.swap {vs : Array Value} {its : Array Im} (H : Hq g vs its) {i j : Nat} (hi : i < its.size) (hj : j < its.size) {u v : Value} (hu : vs[i]? = some u) (hv : vs[j]? = some v) :
    Hq g ((vs.setIfInBounds i v).setIfInBounds j u) (its.swap i j) where
  size := by simp [H.size]
  item := by
    intro k h h2
    have hk : k < its.size := by simpa using h2
    have hk' : k < vs.size := by rw [H.size]; exact hk
    have hi' : i < vs.size := by rw [H.size]; exact hi
    have hj' : j < vs.size := by rw [H.size]; exact hj
    refine el11 (Array.getElem?_eq_some_iff.mp hu) fun _ e45_ => ?_; subst e45_
    refine el11 (Array.getElem?_eq_some_iff.mp hv) fun _ e46_ => ?_; subst e46_
    have e : (vs.setIfInBounds i vs[j]).setIfInBounds j vs[i] = vs.swap i j := by
      simp [Array.swap, Array.setIfInBounds, hi', hj']
    simp only [e]
    rw [Array.getElem_swap, Array.getElem_swap]
    by_cases e1 : k = i
    · simp only [e1, if_true]; exact H.item _ _ _
    · by_cases e2 : k = j
      · simp only [e2]
        split
        · exact H.item _ _ _
        · exact H.item _ _ _
      · simp only [e1, e2, if_false]; exact H.item _ _ _

theorem lessD {prog : Program} {w : World} {a : Addr} {n : Nat} {v v2 : Value} {p q : Im} {hp : Heap} {gs : Array GenState} {d : Drawn} {tk : Nat} {os : OsState} {vs : Array Value} {nn : Nat} {sl : Array (Option Value)}
    (hl : (⟨hp, gs, d, tk, os⟩ : Shared).heap.get? a = some { cls := .type "list", dict := none, data := .seq vs nn, slots := sl })
    (hv : ImV hp p v) (hw : ImV hp q v2) (hu : A.units < cLine) {Q : Bool → Shared → Prop} (hn : vs.size = n) (h : Q (decide (key p < key q)) ⟨hp, gs, d, tk, os⟩) :
    wpAny (model prog w) A (holding [v, v2] (do PySem.truthOfDropped (← richCompare .Lt v v2)) >>= fun less => seqItems? (.ref a) >>= fun o => (match o with | some xs => pure xs | none => unsupported "internal:_heapq") >>= fun ys => if (ys.size != n) = true then rule "_heapq.size-changed" >>= fun _ => raiseError "RuntimeError" "list changed size during iteration" else pure less) Q E ⟨hp, gs, d, tk, os⟩ := by
  refine wpAny_bind (wpAny_holding (wpAny_bind (rcIm hv hw hu ?_)))
  wp_walk using wpAny_loadPart' hl
  exact h
theorem swapL {a : Addr} {vs : Array Value} {i j : Nat} {u v : Value} {Q : Unit → Shared → Prop} (S : St x g ((a, ListP vs.toList) :: l) s) (hz : vs.size ≤ sizeLine)
    (h : ∀ s', St x g ((a, ListP ((vs.setIfInBounds i v).setIfInBounds j u).toList) :: l) s' → Q () s') : wpAny (model prog w) A (updateSeq a fun xs => (xs.setIfInBounds i v).setIfInBounds j u) Q E s := by
  refine el14 (S.get (List.mem_cons_self ..)) fun o ho hc hdc z47_ => ?_; refine el11 z47_ fun n hd => ?_; try clear z47_
  refine wpAny_updateSeq (xs := vs) (n := n) ho hd (h _ ?_) hz (by simp; walk_at "om")
  refine el11 (Obj.data_mapSeq hd (fun xs => (xs.setIfInBounds i v).setIfInBounds j u)) fun n' hd' => ?_
  refine S.upd .head (fun b ob hb e => ?_) (Heap.get?_update_self _ ho (Obj.isFreed_of_seq hd')) ⟨(Obj.cls_mapSeq ..).trans hc, ?_, n', ?_⟩ s.toks
  · rw [Heap.get?_update_other _ _ (Ne.symm hb)]; exact e
  · obtain ⟨c, d, dt, sl⟩ := o
    simp only at hd hdc; subst hd; exact hdc
  · rw [hd']

theorem atD {vs : Array Value} {i : Nat} {v : Value} {M : Model} {Q : Value → Shared → Prop} (hx : vs[i]? = some v) (h : Q v s) : wpAny M A (match vs[i]? with | some v => pure v | none => unsupported "internal:_heapq.index") Q E s := by
  rw [hx]; exact wpAny_pure h
theorem siftU {R : Result → Shared → Prop} {a : Addr} {res : Value} (hu : A.units + 1 < cLine) : ∀ (pos : Nat) (vs : Array Value) (its : Array Im) (s : Shared), St x g ((a, ListP vs.toList) :: l) s → Hq g vs its → pos < its.size → its.size ≤ sizeLine →
    UI (kf its) its.size pos → (∀ vs' its' s', St x g ((a, ListP vs'.toList) :: l) s' → Hq g vs' its' → HpI (kf its') its'.size → its'.Perm its → R (.ok (.ret res)) s') →
    codeAny (model prog w) A (.builtin "_heapq.heapify.sift" ⟨[.ref a, .bool false, .bool false, rawInt pos, rawInt (0:Nat), res, rawInt (-1)], []⟩) R s := by
  intro pos
  induction pos using Nat.strongRecOn with
  | _ pos ih =>
    intro vs its s S H hpos hz hU h
    have S0 := S
    obtain ⟨⟨cls, dct, dt, sl⟩, ho, hc, hdc, n, hd⟩ := S.get (List.mem_cons_self ..)
    simp only [Array.toArray_toList] at hc hdc hd
    subst hc hdc hd
    have keep := S.keep
    refine codeAny_builtin entry_sift ?_
    obtain ⟨hp, gs, d, tk, os⟩ := s
    wp_walk using wpAny_loadPart' ho
    by_cases c1 : (pos : Int).toNat > ((0 : Nat) : Int).toNat
    · rw [if_pos c1]
      refine el12 (H.at hpos) fun u hu1 hu2 => ?_
      refine el12 (H.at (i := (pos - 1) / 2) (by walk_at "om")) fun v hv1 hv2 => ?_
      simp only [Int.toNat_natCast]
      wp_walk
      refine atD hu1 ?_
      wp_walk
      refine atD hv1 ?_
      have hu2' : ImV (Shared.heap ⟨hp, gs, d, tk, os⟩) its[pos] u := hu2.le keep
      have hv2' : ImV (Shared.heap ⟨hp, gs, d, tk, os⟩) its[(pos - 1) / 2] v := hv2.le keep
      wp_walk using rcIm hu2' hv2' hu, wpAny_loadPart' ho
      cases c2 : decide (key its[pos] < key its[(pos - 1) / 2])
      · wp_walk
        exact h _ _ _ S H (hU.stop fun _ => by rw [kf_at hpos, kf_at (show (pos - 1) / 2 < its.size by walk_at "om")]; exact of_decide_eq_false c2) (Array.Perm.refl _)
      · wp_walk using wpAny_loadPart' ho
        refine atD hv1 ?_
        wp_walk
        refine atD hu1 (swapL S (by rw [H.size]; exact hz) fun s' S' => ?_)
        wp_walk
        refine ⟨Code.quiet_builtin _ (by decide +kernel), ih ((pos - 1) / 2) (by walk_at "om") _ _ _ S' (H.swap (by walk_at "om") hpos hv1 hu1) (by simp; walk_at "om") (by simpa using hz) ?_ fun vs' its' s' S' H' h1 h2 => h _ _ _ S' H' h1 (h2.trans (Array.swap_perm ..))⟩
        rw [kf_swap (by walk_at "om") hpos, Array.size_swap]
        exact hU.step (by walk_at "om") hpos (by rw [kf_at hpos, kf_at (show (pos - 1) / 2 < its.size by walk_at "om")]; exact of_decide_eq_true c2)
    · rw [if_neg c1]
      wp_walk
      exact h _ _ _ S H (hU.stop fun h0 => absurd h0 (by simpa using c1)) (Array.Perm.refl _)

theorem siftD {R : Result → Shared → Prop} {a : Addr} {res : Value} (hu : A.units + 1 < cLine) : ∀ (k pos : Nat) (vs : Array Value) (its : Array Im) (s : Shared), its.size - pos = k → St x g ((a, ListP vs.toList) :: l) s → Hq g vs its → pos < its.size → its.size ≤ sizeLine →
    DI (kf its) its.size pos → (∀ vs' its' s', St x g ((a, ListP vs'.toList) :: l) s' → Hq g vs' its' → HpI (kf its') its'.size → its'.Perm its → R (.ok (.ret res)) s') →
    codeAny (model prog w) A (.builtin "_heapq.heapify.sift" ⟨[.ref a, .bool false, .bool true, rawInt pos, rawInt (0:Nat), res, rawInt (-1)], []⟩) R s := by
  intro k
  induction k using Nat.strongRecOn with
  | _ k ih =>
    intro pos vs its s hk S H hpos hz hU h
    obtain ⟨⟨cls, dct, dt, sl⟩, ho, hc, hdc, n, hd⟩ := S.get (List.mem_cons_self ..)
    simp only [Array.toArray_toList] at hc hdc hd
    subst hc hdc hd
    have keep := S.keep
    have hsz := H.size
    refine codeAny_builtin entry_sift ?_
    obtain ⟨hp, gs, d, tk, os⟩ := s
    wp_walk using wpAny_loadPart' ho
    refine el12 (H.at hpos) fun u hu1 hu2 => ?_
    have go : ∀ c, 0 < c → (hc : c < its.size) → (c - 1) / 2 = pos → (∀ e, 0 < e → (he : e < its.size) → (e - 1) / 2 = pos → kf its c ≤ kf its e) → ∀ v, vs[c]? = some v → ∀ s', St x g ((a, ListP ((vs.setIfInBounds c u).setIfInBounds pos v).toList) :: l) s' →
        codeAny (model prog w) A (.builtin "_heapq.heapify.sift" ⟨[.ref a, .bool false, .bool true, rawInt c, rawInt (0:Nat), res, rawInt (-1)], []⟩) R s' := by
      intro c h0 hc hp hm v hv s' S'
      refine ih (its.size - c) (by walk_at "om") c _ _ _ (by simp) S' (H.swap hc hpos hv hu1) (by simp; walk_at "om") (by simpa using hz) ?_ fun vs' its' s' S' H' h1 h2 => h _ _ _ S' H' h1 (h2.trans (Array.swap_perm ..))
      rw [kf_swap hc hpos, Array.size_swap]
      exact hU.step h0 hc hp hm
    by_cases c1 : ((pos : Int).toNat) < vs.size / 2
    · rw [if_pos c1]
      simp only [Int.toNat_natCast] at c1 ⊢
      refine el12 (H.at (i := 2 * pos + 1) (by walk_at "om")) fun v hv1 hv2 => ?_
      by_cases c2 : 2 * pos + 1 + 1 < vs.size
      · simp only [if_pos c2]
        refine el12 (H.at (i := 2 * pos + 1 + 1) (by walk_at "om")) fun y hy1 hy2 => ?_
        have hv2' : ImV (Shared.heap ⟨hp, gs, d, tk, os⟩) its[2 * pos + 1] v := hv2.le keep
        have hy2' : ImV (Shared.heap ⟨hp, gs, d, tk, os⟩) its[2 * pos + 1 + 1] y := hy2.le keep
        wp_walk
        refine atD hv1 ?_
        wp_walk
        refine atD hy1 ?_
        wp_walk using rcIm hv2' hy2' hu, wpAny_loadPart' ho
        cases c3 : decide (key its[2 * pos + 1] < key its[2 * pos + 1 + 1])
        · wp_walk using wpAny_loadPart' ho
          refine atD hy1 ?_
          wp_walk
          refine atD hu1 (swapL S (by rw [H.size]; exact hz) fun s' S' => ?_)
          wp_walk
          refine ⟨Code.quiet_builtin _ (by decide +kernel), go _ (by walk_at "om") (by walk_at "om") (by walk_at "om") (fun e h0 he h1 => ?_) _ hy1 _ S'⟩
          have := of_decide_eq_false c3
          rw [kf_at (by walk_at "om"), kf_at he]
          rcases (show e = 2 * pos + 1 ∨ e = 2 * pos + 1 + 1 by walk_at "om") with h | h
          · subst h; walk_at "om"
          · subst h; walk_at "om"
        · wp_walk using wpAny_loadPart' ho
          refine atD hv1 ?_
          wp_walk
          refine atD hu1 (swapL S (by rw [H.size]; exact hz) fun s' S' => ?_)
          wp_walk
          refine ⟨Code.quiet_builtin _ (by decide +kernel), go _ (by walk_at "om") (by walk_at "om") (by walk_at "om") (fun e h0 he h1 => ?_) _ hv1 _ S'⟩
          have := of_decide_eq_true c3
          rw [kf_at (by walk_at "om"), kf_at he]
          rcases (show e = 2 * pos + 1 ∨ e = 2 * pos + 1 + 1 by walk_at "om") with h | h
          · subst h; walk_at "om"
          · subst h; walk_at "om"
      · simp only [if_neg c2]
        wp_walk using wpAny_loadPart' ho
        refine atD hv1 ?_
        wp_walk
        refine atD hu1 (swapL S (by rw [H.size]; exact hz) fun s' S' => ?_)
        wp_walk
        refine ⟨Code.quiet_builtin _ (by decide +kernel), go _ (by walk_at "om") (by walk_at "om") (by walk_at "om") (fun e h0 he h1 => ?_) _ hv1 _ S'⟩
        have : e = 2 * pos + 1 := by walk_at "om"
        subst this; exact Int.le_refl _
    · rw [if_neg c1]
      simp only [Int.toNat_natCast] at c1 ⊢
      wp_walk
      exact ⟨Code.quiet_builtin _ (by decide +kernel), siftU hu pos vs its _ S H hpos hz (hU.leaf fun c h0 hc hp => by walk_at "om") h⟩

theorem entry_push : entryFor table "_heapq.heappush" = some Builtin.«_heapq.heappush» := entryFor_of_tree (by kernel_rfl)
theorem entry_pop : entryFor table "_heapq.heappop" = some Builtin.«_heapq.heappop» := entryFor_of_tree (by kernel_rfl)
theorem args_push (a b : Value) : argsOk "_heapq.heappush" ⟨[a, b], []⟩ := by unfold argsOk; kernel_rfl
theorem args_pop (a : Value) : argsOk "_heapq.heappop" ⟨[a], []⟩ := by unfold argsOk; kernel_rfl

theorem pushL {a : Addr} {vs : Array Value} {v : Value} {Q : Unit → Shared → Prop} (S : St x g ((a, ListP vs.toList) :: l) s) (hz : vs.size ≤ sizeLine)
    (h : ∀ s', St x g ((a, ListP (vs.push v).toList) :: l) s' → Q () s') : wpAny (model prog w) A (updateSeq a (·.push v)) Q E s := by
  refine el14 (S.get (List.mem_cons_self ..)) fun o ho hc hdc z54_ => ?_; refine el11 z54_ fun n hd => ?_; try clear z54_
  refine wpAny_updateSeq (xs := vs) (n := n) ho hd (h _ ?_) hz (by simp; walk_at "om")
  refine el11 (Obj.data_mapSeq hd (·.push v)) fun n' hd' => ?_
  refine S.upd .head (fun b ob hb e => ?_) (Heap.get?_update_self _ ho (Obj.isFreed_of_seq hd')) ⟨(Obj.cls_mapSeq ..).trans hc, ?_, n', ?_⟩ s.toks
  · rw [Heap.get?_update_other _ _ (Ne.symm hb)]; exact e
  · obtain ⟨c, d, dt, sl⟩ := o
    simp only at hd hdc; subst hd; exact hdc
  · rw [hd']

theorem callB {id : String} {B : Builtin} {args : List Value} {Q : Value → Shared → Prop} (kind : builtinKind id = none) (plain : plainId id = true)
    (entry : entryFor table id = some B) (ok : argsOk id ⟨args, []⟩)
    (h : wpAny (model prog w) A.in1 (B ⟨args, []⟩) (fun fin s' => match fin with | .done f => wants Q E (.ok f) s' | .again c' => c'.quiet = true ∧ codeAny (model prog w) A c' (wants Q E) s') (fun e s' => wants Q E (.error e) s') s) : wpAny (model prog w) A (call (.builtin id) args) Q E s := by
  refine wpAny_call (codeAny_call_builtin plain entry ?_)
  simp only [checkBuiltinCall, kind]
  cases hsig : Manifest.signature? id with
  | none => exact wpAny_pure h
  | some sig =>
    simp only [argsOk, hsig] at ok
    have h2 : Bind.checkArgs id sig ⟨args, []⟩ = pure () := ok
    show wpAny _ _ (Bind.checkArgs id sig ⟨args, []⟩) _ _ s
    rw [h2]; exact wpAny_pure h
theorem Hq.push {vs : Array Value} {its : Array Im} {v : Value} {p : Im} (H : Hq g vs its) (hv : ImV g p v) : Hq g (vs.push v) (its.push p) where
  size := by simp [H.size]
  item := by
    intro i h h2
    by_cases e : i < its.size
    · rw [Array.getElem_push_lt e, Array.getElem_push_lt (by rw [H.size]; exact e)]; exact H.item _ _ _
    · have : i = its.size := by simp at h2; walk_at "om"
      subst this
      simp [← H.size]; simp [H.size]; exact hv
theorem kf_push {its : Array Im} {p : Im} {i : Nat} (h : i < its.size) : kf (its.push p) i = kf its i := by
  rw [kf_at h, kf_at (by simp; walk_at "om"), Array.getElem_push_lt h]
theorem callPush {a : Addr} {vs : Array Value} {its : Array Im} {v : Value} {p : Im} {Q : Value → Shared → Prop} (S : St x g ((a, ListP vs.toList) :: l) s) (hu : A.units + 1 < cLine) (H : Hq g vs its) (hI : HpI (kf its) its.size) (hz : its.size < sizeLine) (hv : ImV g p v)
    (h : ∀ vs' its' s', St x g ((a, ListP vs'.toList) :: l) s' → Hq g vs' its' → HpI (kf its') its'.size → its'.Perm (its.push p) → Q .none s') :
    wpAny (model prog w) A (call (.builtin "_heapq.heappush") [.ref a, v] []) Q E s := by
  refine callB (by kernel_rfl) (by decide +kernel) entry_push (args_push _ _) ?_
  have f2 := AutoSeq1.sub_list_list
  obtain ⟨⟨cls, dct, dt, sl⟩, ho, hc, hdc, n, hd⟩ := S.get (List.mem_cons_self ..)
  simp only [Array.toArray_toList] at hc hdc hd
  subst hc hdc hd
  have hsz := H.size
  obtain ⟨hp, gs, d, tk, os⟩ := s
  have hz1 : vs.size ≤ sizeLine := by walk_at "om"
  wp_walk using wpAny_loadPart' ho, pushL S hz1
  intro s' S'
  obtain ⟨⟨cls', dct', dt', sl'⟩, ho', hc', hdc', n', hd'⟩ := S'.get (List.mem_cons_self ..)
  simp only [Array.toArray_toList] at hc' hdc' hd'
  subst hc' hdc' hd'
  obtain ⟨hp', gs', d', tk', os'⟩ := s'
  wp_walk using wpAny_loadPart' ho'
  refine ⟨Code.quiet_builtin _ (by decide +kernel), ?_⟩
  rw [Array.size_push]
  refine siftU hu _ _ _ _ S' (H.push hv) (by simp; walk_at "om") (by simp; walk_at "om") ?_ fun vs' its' s' S' H' h1 h2 => h _ _ _ S' H' h1 h2
  refine ⟨fun i h0 hi hne => ?_, fun c h0 hc hc2 h3 => ?_⟩
  · simp at hi
    rw [kf_push (by walk_at "om"), kf_push (by walk_at "om")]
    exact hI i h0 (by walk_at "om")
  · simp at hc; walk_at "om"

theorem Hq.pop {vs : Array Value} {its : Array Im} (H : Hq g vs its) : Hq g vs.pop its.pop where
  size := by simp [H.size]
  item := by
    intro i h h2
    rw [Array.getElem_pop, Array.getElem_pop]; exact H.item _ _ _
theorem Hq.set0 {vs : Array Value} {its : Array Im} {v : Value} {p : Im} (H : Hq g vs its) (hv : ImV g p v) : Hq g (vs.setIfInBounds 0 v) (its.setIfInBounds 0 p) where
  size := by simp [H.size]
  item := by
    intro i h h2
    rw [Array.getElem_setIfInBounds (by simpa using h2), Array.getElem_setIfInBounds (by simpa using h)]
    split
    · exact hv
    · exact H.item _ _ _
theorem seqL {a : Addr} {vs : Array Value} {f : Array Value → Array Value} {Q : Unit → Shared → Prop} (S : St x g ((a, ListP vs.toList) :: l) s) (hz : vs.size ≤ sizeLine) (hf : (f vs).size ≤ sizeLine + 1)
    (h : ∀ s', St x g ((a, ListP (f vs).toList) :: l) s' → Q () s') : wpAny (model prog w) A (updateSeq a f) Q E s := by
  refine el14 (S.get (List.mem_cons_self ..)) fun o ho hc hdc z61_ => ?_; refine el11 z61_ fun n hd => ?_; try clear z61_
  refine wpAny_updateSeq (xs := vs) (n := n) ho hd (h _ ?_) hz hf
  refine el11 (Obj.data_mapSeq hd f) fun n' hd' => ?_
  refine S.upd .head (fun b ob hb e => ?_) (Heap.get?_update_self _ ho (Obj.isFreed_of_seq hd')) ⟨(Obj.cls_mapSeq ..).trans hc, ?_, n', ?_⟩ s.toks
  · rw [Heap.get?_update_other _ _ (Ne.symm hb)]; exact e
  · obtain ⟨c, d, dt, sl⟩ := o
    simp only at hd hdc; subst hd; exact hdc
  · rw [hd']
theorem callPop {a : Addr} {vs : Array Value} {its : Array Im} {Q : Value → Shared → Prop} (S : St x g ((a, ListP vs.toList) :: l) s) (hu : A.units + 1 < cLine) (H : Hq g vs its) (hI : HpI (kf its) its.size) (hz : its.size < sizeLine) (hne : 0 < its.size)
    (h : ∀ p v vs' its' s', St x g ((a, ListP vs'.toList) :: l) s' → ImV g p v → Hq g vs' its' → HpI (kf its') its'.size → its.Perm (its'.push p) → (∀ q ∈ its, key p ≤ key q) → Q v s') :
    wpAny (model prog w) A (call (.builtin "_heapq.heappop") [.ref a] []) Q E s := by
  refine callB (by kernel_rfl) (by decide +kernel) entry_pop (args_pop _) ?_
  have f2 := AutoSeq1.sub_list_list
  obtain ⟨⟨cls, dct, dt, sl⟩, ho, hc, hdc, n, hd⟩ := S.get (List.mem_cons_self ..)
  simp only [Array.toArray_toList] at hc hdc hd
  subst hc hdc hd
  have hsz := H.size
  obtain ⟨hp, gs, d, tk, os⟩ := s
  wp_walk using wpAny_loadPart' ho
  refine el12 (H.at (i := its.size - 1) (by walk_at "om")) fun vl hvl hil => ?_
  have hb : vs.back? = some vl := by rw [Array.back?, hsz]; exact hvl
  rw [hb]
  have hz1 : vs.size ≤ sizeLine := by walk_at "om"
  refine wpAny_bind (seqL S (f := fun x => x.pop) hz1 (by simp; walk_at "om") fun s' S' => ?_)
  refine el12 (H.at (i := 0) hne) fun v0 hv1 hv2 => ?_
  have hmin : ∀ q ∈ its, key its[0] ≤ key q := fun q hq => by
    refine el11 (Array.mem_iff_getElem.mp hq) fun i z65_ => ?_; refine el11 z65_ fun hi e66_ => ?_; try clear z65_; subst e66_
    have := hI.root i hi
    rw [kf_at hi, kf_at hne] at this; exact this
  have hpp : its.Perm (its.pop.push its[its.size - 1]) := by
    have : its.pop.push its[its.size - 1] = its := by
      apply Array.ext
      · simp; walk_at "om"
      · intro i h1 h2
        rw [Array.getElem_push]
        split
        · rw [Array.getElem_pop]
        · congr 1; simp at h1; simp_all; walk_at "om"
    rw [this]
  by_cases c1 : vs.size = 1
  · have e1 : its.size = 1 := by walk_at "om"
    rw [if_pos (by simpa using c1)]
    wp_walk
    have e2 : its.size - 1 = 0 := by walk_at "om"
    refine h its[its.size - 1] _ _ its.pop _ S' hil H.pop (fun i h0 hi => ?_) hpp fun q hq => ?_
    · simp at hi; walk_at "om"
    · simp only [e2]; exact hmin q hq
  · rw [if_neg (by simpa using c1)]
    wp_walk
    refine atD hv1 ?_
    refine wpAny_bind (seqL S' (f := fun x => x.setIfInBounds 0 _) (by simp; walk_at "om") (by simp; walk_at "om") fun s' S' => ?_)
    wp_walk
    refine ⟨Code.quiet_builtin _ (by decide +kernel), ?_⟩
    have hl0 : 1 < its.size := by walk_at "om"
    have esw : its.swap 0 (its.size - 1) = (its.pop.setIfInBounds 0 its[its.size - 1]).push its[0] := by
      apply Array.ext
      · simp; walk_at "om"
      · intro i h1 h2
        have hi : i < its.size := by simpa using h1
        rw [Array.getElem_swap, Array.getElem_push]
        by_cases e0 : i = 0
        · subst e0
          rw [if_pos rfl, dif_pos (by simp; walk_at "om"), Array.getElem_setIfInBounds (by simp; walk_at "om"), if_pos rfl]
        · rw [if_neg e0]
          by_cases e1 : i = its.size - 1
          · rw [if_pos e1, dif_neg (by simp; walk_at "om")]
          · rw [if_neg e1, dif_pos (by simp; walk_at "om"), Array.getElem_setIfInBounds (by simp; walk_at "om"), if_neg (Ne.symm e0), Array.getElem_pop]
    refine siftD hu _ 0 _ _ _ rfl S' (H.pop.set0 hil) (by simp; walk_at "om") (by simp; walk_at "om") ?_ fun vs' its' s' S' H' h1 h2 => h its[0] _ _ _ _ S' hv2 H' h1 ?_ hmin
    · refine ⟨fun i h0 hi hne hne2 => ?_, fun c _ _ _ h => absurd h (by walk_at "om")⟩
      simp at hi
      have ee : ∀ j, j ≠ 0 → j < its.size - 1 → kf (its.pop.setIfInBounds 0 its[its.size - 1]) j = kf its j := fun j hj hj2 => by
        rw [kf_at (by simp; walk_at "om"), kf_at (by walk_at "om"), Array.getElem_setIfInBounds (by simp; walk_at "om"), if_neg (Ne.symm hj), Array.getElem_pop]
      rw [ee i hne (by walk_at "om"), ee _ hne2 (by walk_at "om")]
      exact hI i h0 (by walk_at "om")
    · have p1 : its.Perm ((its.pop.setIfInBounds 0 its[its.size - 1]).push its[0]) := by
        rw [← esw]; exact (Array.swap_perm ..).symm
      refine p1.trans ?_
      have h2' := Array.perm_iff_toList_perm.mp h2
      refine Array.perm_iff_toList_perm.mpr ?_
      rw [Array.toList_push, Array.toList_push]
      exact (h2'.symm).append_right _
end Jr
end
-- JQ
section
namespace Jr
open PySem PySem.W PySem.Calls PySem.SeqAt PySem.Builtin PyProof.Rows
variable {x : Wd} {g : Heap} {l : List Ent} {s : Shared} {A : Around} {E : Value → Shared → Prop} {prog : Program} {w : World} {env : Env}

/-- what is handled has no exception behind it -/
def HOk (A : Around) (h : Heap) : Prop := A.handled = none ∨ ∃ a o vs, A.handled = some (.ref a) ∧ h.get? a = some o ∧ o.data = .fields vs ∧ vs[2]? = some .none
theorem HOk.ext {h h' : Heap} (H : HOk A h) (k : ∀ b o, h.get? b = some o → h'.get? b = some o) : HOk A h' :=
  H.imp id fun hq_ => el33 hq_ fun a o vs h1 h2 h3 => (in33 a o vs h1 (k _ _ h2) h3)
theorem entry_unchain : entryFor table "proto.unchain" = some Builtin.«proto.unchain» := entryFor_of_tree (by kernel_rfl)

theorem raiseNewH {α : Type} {e : Addr} {oe : Obj} {ve : Array Value} {Q : α → Shared → Prop} (H : HOk A s.heap) (he : s.heap.get? e = some oe) (hd : oe.data = .fields ve) (hz : 2 < ve.size)
    (h : ∀ h' o', Heap.SameBut e s.heap h' → h'.get? e = some o' → o'.cls = oe.cls → E (.ref e) { s with heap := h' }) : wpAny (model prog w) A (raiseNew (.ref e) : Sem α) Q E s := by
  unfold raiseNew
  refine wpAny_bind (wpAny_handled ?_)
  rcases H with H | ⟨a, o, vs, h1, h2, h3, h4⟩
  · rw [H]
    exact wpAny_bind (wpAny_pure (wpAny_throw (h _ _ (Heap.SameBut.refl ..) he rfl)))
  · rw [h1]
    by_cases c : a = e
    · subst c
      simp only [bne_self_eq_false, Bool.false_eq_true, if_false]
      exact wpAny_bind (wpAny_pure (wpAny_throw (h _ _ (Heap.SameBut.refl ..) he rfl)))
    · have c' : (Value.ref a != Value.ref e) = true := by simpa using c
      simp only [c', if_true]
      refine wpAny_bind (wpAny_holding (wpAny_runValue (codeAny_builtin entry_unchain ?_)))
      show wpAny _ _ (field (.ref a) 2 >>= _) _ _ _
      refine wpAny_bind (wpAny_field h2 h3 h4 ?_)
      refine wpAny_pure ?_
      show wpAny _ _ (updateField e 2 (.ref a) >>= fun _ => throw (.ref e)) _ _ _
      refine wpAny_bind (show wpAny _ _ (setField (.ref e) 2 (.ref a)) _ _ _ from wpAny_setField he hd hz (wpAny_throw ?_))
      exact h _ _ (Heap.SameBut.update ..) (Heap.get?_update_self _ he (Obj.isFreed_of_fields (Obj.data_mapFields hd _))) (Obj.cls_mapFields ..)

theorem raiseFresh {α : Type} {o : Obj} {ve : Array Value} {hp : Heap} {gs : Array GenState} {d : Drawn} {tk : Nat} {os : OsState} {Q : α → Shared → Prop} (H : HOk A hp) (hd : o.data = .fields ve) (hz : 2 < ve.size) (hf : o.isFreed = false)
    (h : ∀ h' o', (∀ b o, hp.get? b = some o → h'.get? b = some o) → h'.get? hp.objs.size = some o' → o'.cls = o.cls → E (.ref hp.objs.size) ⟨h', gs, d, tk, os⟩) : wpAny (model prog w) A (raiseNew (.ref hp.objs.size) : Sem α) Q E ⟨hp.push o, gs, d, tk, os⟩ := by
  refine raiseNewH (s := ⟨hp.push o, gs, d, tk, os⟩) (H.ext fun b o e => Heap.get?_push_of_some _ e) (Heap.get?_push_size _ hf) hd hz fun h' o' hs ho' hc => h h' o' (fun b ob e => ?_) ho' hc
  exact (hs.2 b (Nat.ne_of_lt (Heap.lt_size e))).trans (Heap.get?_push_of_some _ e)

theorem pyNextTupEnd {it t : Addr} {i : Nat} {items} {Q : Option Value → Shared → Prop} (hh : HOk A s.heap)
    (hni : ∀ a, A.handled = some (.ref a) → a ≠ it)
    (hit : s.heap.IsTupleIter it t i) (ht : s.heap.IsTuple t items) (hx : items[i]? = none)
    (hQ : ∀ h', Heap.ExtBut it s.heap h' → Q none { s with heap := h' }) : wpAny (model prog w) A (pyNext (.ref it)) Q E s := by
  refine el13 (id hit) fun o ho hc hd => ?_
  obtain ⟨ol, hol, _, nl, hdl⟩ := ht
  unfold pyNext
  refine wpAny_bind (wpAny_attempt (wpAny_callSpecial?_slot (name := Str.ofString "__next__") hit.typeIs F.slot_tuple_iterator_next
    (wpAny_call_entry F.slot_tuple_iterator_next hit.typeIs F.entry_tuple_iterator_next ?_ (F.args_tuple_iterator_next_1 _))))
  show wpAny _ _ (field (.ref it) 0 >>= _) _ _ s
  refine wpAny_bind (wpAny_field ho hd (x := .ref t) rfl ?_)
  show wpAny _ _ (if (Value.ref t == Value.none) = true then _ else _) _ _ s
  rw [if_neg (show ¬ ((Value.ref t == Value.none) = true) from Bool.false_ne_true)]
  show wpAny _ _ (field (.ref it) 1 >>= _) _ _ s
  refine wpAny_bind (wpAny_field ho hd (x := .int i 0) rfl ?_)
  show wpAny _ _ (seqItems? (.ref t) >>= _) _ _ s
  refine wpAny_bind (wpAny_seqItems hol hdl ?_)
  simp only [Int.toNat_natCast, hx]
  refine wpAny_bind (wpAny_rule (wpAny_bind (wpAny_setField ho hd (by simp) ?_)))
  show wpAny _ _ (newExc (.type "StopIteration") [] >>= _) _ _ _
  refine wpAny_bind ?_
  simp only [newExc, newTuple]
  refine wpAny_bind (wpAny_newObj_type ?_ (by size_fits))
  refine wpAny_bind (m := firstArgMember _ _) (wpAny_of_eq (a := Value.none) (by first | rfl | (simp only [firstArgMember]; rfl)) ?_)
  refine wpAny_newObj_type ?_ (by size_fits)
  refine raiseFresh ?_ rfl (by simp; walk_at "om") rfl fun h' o' hs ho' hc' => ?_
  · rcases hh with hh | ⟨a, oa, vs, h1, h2, h3⟩
    · exact .inl hh
    · exact .inr (in33 a oa vs h1 (((Heap.SameBut.update ..).extBut.push _) _ _ (hni a h1) h2) h3)
  · refine wpAny_bind (wpAny_isInstance (T := "StopIteration") (b := true) (in12 _ ho' hc') isSubtype_stop ?_)
    exact wpAny_pure (hQ _ fun b ob hb e => hs _ _ (((Heap.SameBut.update ..).extBut.push _) _ _ hb e))

theorem unpackTup {t : Addr} {items : Array Value} {targets : List (Bool × (Value → Sem Unit))} {Q : Unit → Shared → Prop} (hh : HOk A s.heap) (ht : s.heap.IsTuple t items)
    (hn : targets.length = items.size) (hstar : targets.findIdx? (·.1) = none)
    (h : ∀ h', Heap.ExtBut s.heap.objs.size s.heap h' → wpAny (model prog w) A (assignInOrder (targets.map (·.2)) items.toList) Q E { s with heap := h' }) :
    wpAny (model prog w) A (unpack (.ref t) targets) Q E s := by
  unfold unpack
  rw [hn, hstar]
  refine wpAny_bind (wpAny_holding ?_)
  have hlt : t ≠ s.heap.objs.size := by obtain ⟨o, ho, _⟩ := ht; exact Nat.ne_of_lt (Heap.lt_size ho)
  unfold unpackItems
  refine wpAny_bind ?_
  unfold notIterableAtAll
  refine wpAny_bind (wpAny_specialOf ht.typeIs F.slot_tuple_iter.lookup ?_)
  refine wpAny_pure ?_
  simp only [Bool.false_eq_true, if_false]
  refine wpAny_bind (wpAny_holding (wpAny_pyIter_tuple ht ?_))
  refine wpAny_bind (wpAny_holding (wpAny_draw_tuple hlt items.size 0 _ _ (in13 _ (Heap.get?_push_size _ rfl) rfl rfl) (ht.push _) (by walk_at "om") fun h₁ hit₁ hs₁ => ?_))
  have hall : List.take items.size (List.drop 0 items.toList) = items.toList := by
    rw [List.drop_zero]; exact List.take_of_length_le (by simp)
  rw [hall]
  rw [if_neg (by simp)]
  have ht₁ : h₁.IsTuple t items := (ht.push _).extBut hs₁.extBut hlt
  have hni : ∀ a, A.handled = some (.ref a) → a ≠ s.heap.objs.size := fun a ha => by
    rcases hh with hh | ⟨b, oa, vs, h1, h2, h3⟩
    · rw [hh] at ha; cases ha
    · rw [h1] at ha; cases ha; exact Nat.ne_of_lt (Heap.lt_size h2)
  have hh' : HOk A h₁ := by
    rcases hh with hh | ⟨b, oa, vs, h1, h2, h3⟩
    · exact .inl hh
    · exact .inr (in33 b oa vs h1 (hs₁.extBut _ _ (Nat.ne_of_lt (Heap.lt_size h2)) (Heap.get?_push_of_some _ h2)) h3)
  refine wpAny_bind (wpAny_holding (pyNextTupEnd hh' hni hit₁ ht₁ (by simp) fun h₂ he₂ => ?_))
  simp only [Option.isSome_none, Bool.false_eq_true, if_false]
  exact wpAny_pure (h h₂ fun b o hb e => he₂ b o hb (hs₁.extBut b o hb (Heap.get?_push_of_some _ e)))

/-- a, b = v -/
theorem unpack2 {e₁ e₂ : PySem.Expr} {k : Nat} {pos : Pos} {t : Addr} {u v : Value} {Q : Unit → Shared → Prop} (S : St x g l s) (hh : HOk A s.heap) (ht : s.heap.IsTuple t #[u, v])
    (h1 : assignEach [e₁, e₂] env = [(false, assign e₁ env), (false, assign e₂ env)])
    (h : ∀ s', St x g l s' → wpAny (model prog w) A (assign e₁ env u) (fun _ s₁ => wpAny (model prog w) A (assign e₂ env v) Q E s₁) E s') : wpAny (model prog w) A (assign (.Tuple [e₁, e₂] k pos) env (.ref t)) Q E s := by
  rw [arm_assign_Tuple, h1]
  refine wpAny_bind (wpAny_standAt (unpackTup hh ht rfl rfl fun h' hs => ?_))
  have S' : St x g l { s with heap := h' } := S.ext (fun b o e => hs b o (Nat.ne_of_lt (Heap.lt_size e)) e) s.toks
  exact assignInOrder_cons (wpAny_mono (h _ S') (fun _ s₁ h₁ => assignInOrder_cons (wpAny_mono h₁ (fun _ s₂ h₂ => assignInOrder_nil h₂) fun _ _ e => e)) fun _ _ e => e)

theorem assignTup {elts : List PySem.Expr} {k : Nat} {p pos : Pos} {value : PySem.Expr} {Q : Flow → Shared → Prop}
    (h : wpAny (model prog w) A (eval value env) (fun v s₁ => wpAny (model prog w) A (assign (.Tuple elts k p) env v) (fun _ => Q .next) E s₁) E s)
    (hs : swapsWith value (some (.Tuple elts k p)) pos.line env = pure false := by rfl) (hw : swappedStores [.Tuple elts k p] value env = pure none := by rfl) :
    wpAny (model prog w) A (exec (.Assign [.Tuple elts k p] value pos) env) Q E s := by
  rw [arm_exec_Assign]
  refine wpAny_bind (wpAny_standAt ?_)
  show wpAny _ _ (swapsWith value (some (.Tuple elts k p)) pos.line env >>= _) _ _ _
  rw [hs, hw]
  refine wpAny_bind (wpAny_pure ?_)
  simp only [Bool.false_eq_true, if_false]
  refine wpAny_bind (wpAny_mono h (fun v s₁ h₁ => wpAny_bind (wpAny_pure ?_)) fun _ _ e => e)
  have ha : assignEach [.Tuple elts k p] env = [(false, assign (.Tuple elts k p) env)] := by first | rfl | simp [assignEach]
  rw [ha]
  unfold assignStores
  simp only [List.map]
  unfold assignAll
  exact wpAny_bind (wpAny_mono h₁ (fun _ _ h => wpAny_pure h) fun _ _ e => e)

/-! methods of an object of a class of the text -/
theorem callMeth {o : PySem.Expr} {name : Str} {apos pos : Pos} {args : List PySem.Expr} {Q : Value → Shared → Prop}
    (hbase : attributeBase o name env (eval o env) = eval o env)
    (hfew : ((backTo pos (starEach args env)).all (fun x => !x.1) && (backToKw pos (keywordEach [] env)).all (fun x => x.1.isSome)
      && decide (args.length + ([] : List Keyword).length + (if ([] : List Keyword).isEmpty then 0 else 1) < 30)) = true)
    (hline : (apos.endLine == pos.line) = true)
    (h : wpAny (model prog w) A (eval o env) (fun ov s₁ => ∃ a f ob fd, ov = .ref a ∧ ob.data = .func fd ∧ (∀ pl (Q' : Value × List Value → Shared → Prop) E', Q' (.ref f, [.ref a]) s₁ → wpAny (model prog w) A (getMethod (.ref a) name pl) Q' E' s₁) ∧
      wpAny (model prog w) A (spliced (backTo pos (starEach args env))) (fun vs s₂ => s₂.heap.get? f = some ob ∧ wpAny (model prog w) A (call (.ref f) (.ref a :: vs) []) Q E s₂) E s₁) E s)
    (hst : (starEach args env).all (fun y => !y.1) = true := by rfl) :
    wpAny (model prog w) A (eval (.Call (.Attribute o name apos) args [] pos) env) Q E s := by
  rw [arm_eval_Call, hbase]
  refine wpAny_bind (wpAny_mono h (fun ov s₁ h₁ => ?_) fun _ _ e => e)
  refine el44 h₁ fun a f ob fd e72_ hfd hm h₂ => ?_; try clear h₁; subst e72_
  refine wpAny_bind (wpAny_standAt ?_)
  have hform : methodCallForm (args.length + ([] : List Keyword).length) (backTo pos (starEach args env)) (backToKw pos (keywordEach [] env)) = true := hfew
  have hpos : methodCallPos true o env apos pos = pure pos := by unfold methodCallPos; simp [hline]
  unfold methodCall
  rw [hform]
  refine wpAny_bind (wpAny_holding (hm _ _ _ ?_))
  refine wpAny_bind (wpAny_of_eq hpos ?_)
  exact callWith_function_kw (o := ob) (fd := fd) (argsOf hst (wpAny_mono h₂ (fun vs s₂ q => ⟨⟨q.1, hfd⟩, q.2⟩) fun _ _ e => e))
end Jr
end
-- JR
section
namespace Jr
open PySem PySem.W PySem.Calls PySem.SeqAt PySem.Builtin PyProof.Rows
variable {x : Wd} {g : Heap} {l : List Ent} {s : Shared} {A : Around} {E : Value → Shared → Prop} {w : World} {mg mb : Str → Option Value}


theorem callF0 {prog : Program} {w : World} {R : Result → Shared → Prop} {a : Addr} {o : Obj} {fd : FuncData} {body : List Stmt} {args : Args} {binds : List (Str × Value)} {scope : Scope} {clo : List (Str × Addr)} {qual : Str} {code : Value}
    (S : St x g l s) (ho : g.get? a = some o) (hd : o.data = .func fd) (hcd : g.CodeRec code qual) (hlim : g.NoLimit) (hroom : A.depth < recursionLimit) (hb : BindsTo s fd args binds)
    (h : ∀ L s', St x g ((L, NsP fun _ => none) :: l) s' →
      wpAny (model prog w) A.in1 (storeAll { scope := scope, locals := L, globals := mainGlobals, cells := clo, qual := qual ++ ".<locals>.", func := some a, code := code, frame := some L, builtins := builtinsNs } binds)
        (fun _ s₂ => Le g s₂.heap ∧ wpAny (model prog w) (A.deeper { scope := scope, locals := L, globals := mainGlobals, cells := clo, qual := qual ++ ".<locals>.", func := some a, code := code, frame := some L, builtins := builtinsNs })
          (execs body { scope := scope, locals := L, globals := mainGlobals, cells := clo, qual := qual ++ ".<locals>.", func := some a, code := code, frame := some L, builtins := builtinsNs })
          (fun f s' => R (.ok (.ret (match f with | .ret v => v | _ => .none))) s') (fun _ _ => False) s₂) (fun _ _ => False) s')
    (hbody : fd.body = .stmts body := by rfl) (hsc : fd.scope = scope := by rfl) (hclo : fd.closure = clo := by rfl) (hq : fd.qualname = qual := by rfl) (hcode : fd.code = code := by rfl) (hgl : fd.globals = mainGlobals := by rfl) (hbu : fd.builtins = builtinsNs := by rfl)
    (hcell : cellNs scope.names = [] := by rfl) (hco : scope.isCoroutine = false := by rfl) (hgen : scope.isGenerator = false := by rfl) : codeAny (model prog w) A (.call (.ref a) args) R s := by
  subst hsc hclo hq hcode
  refine callF (body := body) S ho hd hcd hlim hroom hb (fun L bs s' hl S' => ?_) hbody hco hgen
  rw [hcell] at hl
  obtain rfl : bs = [] := List.length_eq_zero_iff.mp hl
  have e : (cellNs fd.scope.names).reverse.zip ([] : List Addr) ++ fd.closure = fd.closure := by rw [hcell]; rfl
  have e2 : fnEnv fd a L ((cellNs fd.scope.names).reverse.zip ([] : List Addr) ++ fd.closure) = { scope := fd.scope, locals := L, globals := mainGlobals, cells := fd.closure, qual := fd.qualname ++ ".<locals>.", func := some a, code := fd.code, frame := some L, builtins := builtinsNs } := by
    rw [e]; unfold fnEnv; rw [hgl, hbu]
  rw [e2]
  refine wpAny_mono (h L s' S') (fun _ s₂ h₂ => ⟨h₂.1, ?_⟩) fun _ _ e => e.elim
  exact wpAny_mono h₂.2 (fun f s' q => q) fun _ _ e => e.elim

/-! the work list -/
def PqD (pq : Addr) (o : Obj) : Prop := ∃ es n, o = dictOf es n ∧ getL "pq" es = some (some (.ref pq)) ∧ ∀ y : Str, y ≠ "pq" → getL y es = some none
def Wl (g : Heap) (a pq : Addr) : Prop := ∃ dx o, g.get? a = some (instObj 80 dx) ∧ g.get? dx = some o ∧ PqD pq o
theorem Wl.le {g g' : Heap} {a pq : Addr} (h : Wl g a pq) (k : Le g g') : Wl g' a pq := by obtain ⟨dx, o, h1, h2, h3⟩ := h; exact (in23 dx o (k _ _ h1) (k _ _ h2) h3)
theorem Wl.inst {g : Heap} {a pq : Addr} (h : Wl g a pq) : ∃ dx es n, InstAt g a (instObj 80 dx) 80 (some (dictOf es n)) ∧ getL "pq" es = some (some (.ref pq)) ∧ ∀ y : Str, y ≠ "pq" → getL y es = some none := by
  refine el23 h fun dx o h1 h2 z83_ => ?_; try clear h; refine el23 z83_ fun es n e84_ h3 h4 => ?_; try clear z83_; subst e84_
  exact (in33 dx es n ⟨h1, rfl, rfl, h2⟩ h3 h4)

theorem wlPq {a pq : Addr} {expr : Bool} {Q : Value → Shared → Prop} (W : Wf w mg mb g) (S : St x g l s) (H : Wl g a pq) (h : ∀ s', St x g l s' → Q (.ref pq) s') : wpAny (model PP w) A (getAttr (.ref a) "pq" expr) Q E s := by
  refine el33 ((H.le S.keep).inst) fun dx es n I h1 h2 => ?_
  refine get_value (W.K.keeps S.keep) I (by kernel_rfl) (findObj_own (attr := none) (by kernel_rfl) (by kernel_rfl) (by kernel_rfl) h1) (by rfl) (h _ (S.tok _))

theorem wlMeth {a pq f : Addr} {name : Str} (W : Wf w mg mb g) (S : St x g l s) (H : Wl g a pq) (hne : name ≠ "pq") (hf : findIn (KK w) (.ref 80) name = some (some (.ref f))) (ht : typeIn (KK w) (.ref f) = some (.type "function")) :
    ∀ pl (Q' : Value × List Value → Shared → Prop) E', Q' (.ref f, [.ref a]) s → wpAny (model PP w) A (getMethod (.ref a) name pl) Q' E' s := fun pl Q' E' h => by
  refine el33 ((H.le S.keep).inst) fun dx es n I h1 h2 => ?_
  exact method_fn (W.K.keeps S.keep) I (by kernel_rfl) (by kernel_rfl) hf ht (by show (lookIn name (dictOf es n)).map _ = _; rw [lookIn_dict, h2 _ hne]; rfl) h

theorem wlSet' {a dx : Addr} {v : Value} {l' : List Ent} {tk : Tok} {R : Result → Shared → Prop} (W : Wf w mg mb g) (S : St x g l s) (ha : (a, (· = instObj 80 dx)) ∈ l)
    (U : Upd l dx (· = emptyDict) (fun o => ∃ es n, o = dictOf es n ∧ getL "pq" es = some (some v) ∧ ∀ y : Str, y ≠ "pq" → getL y es = some none) l') (h : ∀ s', St x g l' s' → R (.ok (.ret .none)) s') :
    codeAny (model PP w) A (.call (.builtin "object.__setattr__") ⟨[.ref a, .str "pq" tk, v], []⟩) R s := by
  refine el12 (S.get ha) fun oa hoa e85_ => ?_; subst e85_
  refine el12 (S.get U.mem) fun od hod e86_ => ?_; subst e86_
  have I : InstAt s.heap a (instObj 80 dx) 80 (some emptyDict) := ⟨hoa, rfl, rfl, hod⟩
  have X := W.K.keeps S.keep
  refine osa_open (r := none) X I (by kernel_rfl) (by kernel_rfl) fun b => ?_
  have hhd : (clsIn (KK w) 80).any (·.hasDict) = true := by kernel_rfl
  refine el12 (any_some hhd) fun cd hc hd' => ?_
  refine wpAny_bind (wpAny_pure (wpAny_bind (wpAny_bind (wpAny_loadPart hoa (wpAny_bind ((looks_clsIn X hc).here ?_))))))
  rw [hd']
  refine wpAny_pure (a := some dx) (wpAny_bind (wpAny_pure (wpAny_bind ?_)))
  unfold nsSet
  refine wpAny_bind (wpAny_bind (wpAny_askSetting (wpAny_pure (wpAny_bind (wpAny_mkText (wpAny_bind (wpAny_loadPart hod ?_)))))))
  have D' : (s.heap.update dx (Obj.putName "pq" (PyData.keyHash w.params "pq") (.str "pq" s.toks) v)).get? dx = some (Obj.putName "pq" (PyData.keyHash w.params "pq") (.str "pq" s.toks) v emptyDict) := Heap.get?_update_self _ hod rfl
  have e0 : Obj.putName "pq" (PyData.keyHash w.params "pq") (.str "pq" s.toks) v emptyDict = dictOf [⟨PyData.keyHash w.params "pq", .str "pq" s.toks, v⟩] 1 := putName_dict "pq" (PyData.keyHash w.params "pq") (.str "pq" s.toks) v [] 0
  dsimp only
  rw [aRefKeyMayBeTheName_at, if_neg (by simp)]
  refine wpAny_updatePart hod ?_
  refine wpAny_bind (wpAny_lookBehind D' (by rw [e0]; exact pastItsLine_dict (by rw [List.size_toArray, sizeLine_eq]; simp)) ?_)
  refine wpAny_pure (h _ ?_)
  refine S.upd U (fun b ob hb e => ?_) D' ?_ _
  · rw [Heap.get?_update_other _ _ (Ne.symm hb)]; exact e
  · refine (in23 _ _ e0 rfl (fun y hy => ?_))
    have : ("pq" : Str) ≠ y := fun e => hy e.symm
    unfold getL
    have h0 : (("pq" : Str) == y) = false := by rw [beq_eq_false_iff_ne]; exact this
    simp only [List.find?, Value.isStr, h0]
    rfl
theorem wlSet {a dx : Addr} {v : Value} {l' : List Ent} {Q : Unit → Shared → Prop} (W : Wf w mg mb g) (S : St x g l s) (ha : (a, (· = instObj 80 dx)) ∈ l)
    (U : Upd l dx (· = emptyDict) (fun o => ∃ es n, o = dictOf es n ∧ getL "pq" es = some (some v) ∧ ∀ y : Str, y ≠ "pq" → getL y es = some none) l') (h : ∀ s', St x g l' s' → Q () s') :
    wpAny (model PP w) A (setAttr (.ref a) "pq" v) Q E s := by
  refine el12 (S.get ha) fun oa hoa e87_ => ?_; subst e87_
  refine el12 (S.get U.mem) fun od hod e88_ => ?_; subst e88_
  have I : InstAt s.heap a (instObj 80 dx) 80 (some emptyDict) := ⟨hoa, rfl, rfl, hod⟩
  exact set_plain (W.K.keeps S.keep) I (by kernel_rfl) (wlSet' W (S.tok _) ha U h)

theorem law_wl_init {a dx : Addr} {R : Result → Shared → Prop} (W : Wf w mg mb g) (S : St x g ((a, (· = instObj 80 dx)) :: (dx, (· = emptyDict)) :: l) s) (hd : A.depth < 900)
    (h : ∀ pq s', St x g ((pq, ListP []) :: (a, (· = instObj 80 dx)) :: (dx, PqD pq) :: l) s' → R (.ok (.ret .none)) s') : codeAny (model PP w) A (.call (.ref 56) ⟨[.ref a], []⟩) R s := by
  refine callF0 (args := ⟨[.ref a], []⟩) (binds := [("self", .ref a)]) S (W.K 56 _ rfl) rfl (codeRec_of W.K (by kernel_rfl)) W.lim (by show A.depth < 1000; walk_at "om") (BindsTo.of_eq rfl) ?_
  intro L s S
  dsimp only
  refine stored_cons (stL S rfl rfl (m := fun _ => none) .head fun s S => ?_)
  refine stored_nil ⟨S.keep, ?_⟩
  refine nameXs ?_; intro ev Ax Ex Qx
  refine wpAny_execs_cons (plainObj_wpAny_Assign_Attribute (List_ (wpAny_items_nil ?_)))
  refine nwList S (by size_fits) fun pq s S => ?_
  refine ldL S rfl rfl (by k_mem) upd_same ?_
  refine wlSet (v := .ref pq) W S (by k_mem) (.tail (.tail (.tail .head))) fun s S => ?_
  refine wpAny_execs_nil (h pq _ ?_)
  exact (S.perm (.swap ..)).drop
theorem law_wl {Q : Value → Shared → Prop} (W : Wf w mg mb g) (S : St x g l s) (hd : A.depth < 890)
    (h : ∀ a pq g' s', Le g g' → Wl g' a pq → St x g' ((pq, ListP []) :: l) s' → Q (.ref a) s') : wpAny (model PP w) A (call (.ref 80) [] []) Q E s := by
  refine wpAny_call ?_
  obtain ⟨hh, gs, d, t, os⟩ := s
  have X := W.K.keeps S.keep
  refine make_core (makes_of X (by kernel_rfl)) (looks_findIn X (show findIn (KK w) (.ref 80) "__init__" = some (some (.ref 56)) by kernel_rfl)) (fun self => bind_fn X self (by kernel_rfl)) (.inl rfl) ?_
  have S1 := S.push (o := emptyDict) (P := (· = emptyDict)) rfl rfl
  have S2 := S1.push (o := instObj 80 hh.objs.size) (P := (· = instObj 80 hh.objs.size)) rfl rfl
  dsimp only at S2
  rw [Heap.size_push] at S2
  have hw : (Code.builtin "type.__call__" ⟨[.ref 80], []⟩).weight = 1 := by decide +kernel
  refine law_wl_init W S2 (by show A.depth + Code.weight _ < 900; rw [hw]; walk_at "om") fun pq s' S' => ?_
  refine ⟨rfl, ?_⟩
  have S3 := S'.perm (l' := (hh.objs.size + 1, (· = instObj 80 hh.objs.size)) :: (hh.objs.size, PqD pq) :: (pq, ListP []) :: l) (by
    refine (List.Perm.swap ..).trans (.cons _ ?_)
    exact List.Perm.swap ..)
  refine el25 (S3.freeze) fun g1 o1 k1 e1 e89_ _ S4 => ?_; subst e89_
  refine el25 (S4.freeze) fun g2 o2 k2 e2 p2 _ S5 => ?_
  exact h _ pq g2 _ (fun a o e => k2 _ _ (k1 _ _ e)) (in23 _ _ (k2 _ _ e1) e2 p2) S5

/-! add -/
def PqP (g : Heap) (its : Array Im) (o : Obj) : Prop := ∃ vs : Array Value, ListP vs.toList o ∧ Hq g vs its ∧ HpI (kf its) its.size
def TmV (k : Int) (v : Value) : Prop := ∃ t, v = .int k t
def NmV (k : Nat) (v : Value) : Prop := k < 11 ∧ ∃ t, v = .bytes (nm k) t
theorem St.isTup {a : Addr} {vs : List Value} (S : St x g l s) (h : ∃ o, g.get? a = some o ∧ TupP vs o) : s.heap.IsTuple a vs.toArray := by
  refine el14 h fun o ho h1 h2 z90_ => ?_; try clear h; refine el11 z90_ fun n h3 => ?_; try clear z90_
  exact (in13 o (S.keep _ _ ho) h1 ⟨n, h3⟩)

/-- what is handled stands in the ledger -/
def HSt (A : Around) (l : List Ent) : Prop := A.handled = none ∨ ∃ a P, A.handled = some (.ref a) ∧ (a, P) ∈ l ∧ ∀ o, P o → ∃ vs, o.data = .fields vs ∧ vs[2]? = some .none
theorem HSt.sub {l l' : List Ent} (H : HSt A l) (k : ∀ p, p ∈ l → p ∈ l') : HSt A l' := H.imp id fun hq_ => el23 hq_ fun a P h1 h2 h3 => (in23 a P h1 (k _ h2) h3)
theorem HSt.ok (H : HSt A l) (S : St x g l s) : HOk A s.heap := H.imp id fun hq_ => el23 hq_ fun a P h1 h2 h3 =>
  let ⟨o, h4, h5⟩ := S.get h2
  let ⟨vs, h6, h7⟩ := h3 o h5
  (in34 a o vs h1 h4 h6 h7)

theorem St.narrow {a : Addr} {P P' : Obj → Prop} {o : Obj} (S : St x g ((a, P) :: l) s) (ho : s.heap.get? a = some o) (h : P' o) : St x g ((a, P') :: l) s where
  keep := S.keep
  own := by
    intro p hp
    rcases List.mem_cons.mp hp with rfl | hp
    · exact ⟨S.out (List.mem_cons_self ..), (in12 o ho h)⟩
    · exact S.own p (List.mem_cons_of_mem _ hp)
  nodup := S.nodup
  gens := S.gens
  os := S.os

set_option maxHeartbeats 2000000 in
theorem law_add {a pq item : Addr} {its : Array Im} {tm : Int} {k : Nat} {u v : Value} {l' : List Ent} {Q : Value → Shared → Prop} (W : Wf w mg mb g) (S : St x g ((pq, PqP g its) :: l) s) (hd : A.depth < 900) (hu : A.units < 5000) (hh : HSt A l)
    (H : Wl g a pq) (hi : ∃ o, g.get? item = some o ∧ TupP [u, v] o) (ht : TmV tm u) (hn : NmV k v) (hz : its.size < 10000)
    (h : ∀ g' its' s', Le g g' → St x g' ((pq, PqP g' its') :: l) s' → its'.Perm (its.push (-tm, k)) → Q .none s') :
    wpAny (model PP w) A (call (.ref 63) [.ref a, .ref item] []) Q E s := by
  refine callFQ0 (args := ⟨[.ref a, .ref item], []⟩) (binds := [("self", .ref a), ("item", .ref item)]) S (W.K 63 _ rfl) rfl (codeRec_of W.K (by kernel_rfl)) W.lim (by show A.depth < 1000; walk_at "om") (BindsTo.of_eq rfl) ?_
  intro L s₁ S
  dsimp only
  refine stored_cons (stL S rfl rfl (m := fun _ => none) .head fun s₂ S => ?_)
  refine stored_cons (stL S rfl rfl .head fun s₃ S => ?_)
  refine stored_nil ⟨S.keep, ?_⟩
  refine nameXs ?_; intro ev Ax Ex Qx
  have hh' : HOk A s₃.heap := (hh.sub (fun p hp => List.mem_cons_of_mem _ (List.mem_cons_of_mem _ hp))).ok S
  refine el11 ht fun tt e91_ => ?_; try clear ht; subst e91_
  refine el02 hn fun hk z92_ => ?_; try clear hn; refine el11 z92_ fun tn e93_ => ?_; try clear z92_; subst e93_
  refine wpAny_execs_cons (assignTup ?_)
  refine ldL S rfl rfl (by k_mem) upd_same ?_
  refine unpack2 S hh' (S.isTup hi) rfl fun s S => ?_
  refine wpAny_assign_Name (stL S rfl rfl .head fun s S => ?_)
  refine wpAny_assign_Name (stL S rfl rfl .head fun s S => ?_)
  refine wpAny_execs_cons (wpAny_Expr ?_ rfl rfl)
  refine callBi ?_
  refine ldGW (v := .builtin "_heapq.heappush") W S rfl rfl rfl (by kernel_rfl) (in12 _ rfl ?_)
  refine wpAny_items_cons (Attribute_any_ ?_)
  refine ldL S rfl rfl (by k_mem) (by walk_at "lk") ?_
  refine wlPq W S H fun s S => ?_
  refine wpAny_items_cons (Tuple_ (wpAny_items_cons (wpAny_UnaryOp ?_)))
  refine ldL S rfl rfl (by k_mem) (by walk_at "lk") ?_
  refine oNeg S fun t1 s S => ?_
  refine wpAny_items_cons ?_
  refine ldL S rfl rfl (by k_mem) (by walk_at "lk") ?_
  refine wpAny_items_nil ?_
  refine nwTuple S (by size_fits) fun tp s S => ?_
  refine wpAny_items_nil ?_
  refine el25 (S.freeze) fun g1 o1 k1 e1 p1 _ S1 => ?_
  have S2 := (S1.perm (l' := (pq, PqP g its) :: _ :: l) (.swap ..))
  obtain ⟨o2, e2, vs, hL, hq, hI⟩ := S2.get (List.mem_cons_self ..)
  have S3 := S2.narrow e2 hL
  refine callPush (p := (-tm, k)) S3 (by show A.units + 3 + 1 < 9900; walk_at "om") (hq.le k1) hI (by rw [sizeLine_eq]; walk_at "om") ⟨hk, _, _, rfl, e1, _, _, p1⟩ fun vs' its' s' S' hq' hI' hp => ?_
  refine wpAny_execs_nil ?_
  have S4 := (S'.weak (P' := PqP g1 its') fun o ho => (in13 vs' ho hq' hI'))
  exact h g1 its' _ k1 (S4.perm (.swap ..)).drop hp

/-- a pair of a time and a name -/
def PrV (g : Heap) (tm : Int) (k : Nat) (v : Value) : Prop := ∃ a o u n, v = .ref a ∧ g.get? a = some o ∧ TupP [u, n] o ∧ TmV tm u ∧ NmV k n
theorem PrV.le {g g' : Heap} {tm : Int} {k : Nat} {v : Value} (h : PrV g tm k v) (q : Le g g') : PrV g' tm k v := by obtain ⟨a, o, u, n, h1, h2, h3⟩ := h; exact (in43 a o u n h1 (q _ _ h2) h3)
theorem ImV.pr {p : Im} {v : Value} (h : ImV g p v) : PrV g p.1 p.2 v := by
  refine el02 h fun hk z95_ => ?_; try clear h; refine el23 z95_ fun a o e96_ h1 z97_ => ?_; try clear z95_; subst e96_; refine el21 z97_ fun t u h2 => ?_; try clear z97_
  exact (in46 a o _ _ rfl h1 h2 ⟨_, rfl⟩ hk ⟨_, rfl⟩)
theorem PrV.im {tm : Int} {k : Nat} {v : Value} (h : PrV g tm k v) : ImV g (tm, k) v := by
  refine el46 h fun a o _ _ e98_ h1 h2 z99_ hk z100_ => ?_; try clear h; subst e98_; refine el11 z99_ fun _ e101_ => ?_; try clear z99_; subst e101_; refine el11 z100_ fun _ e102_ => ?_; try clear z100_; subst e102_
  exact ⟨hk, (in23 a o rfl h1 (in21 _ _ h2))⟩

theorem pqLe {g g' : Heap} {its : Array Im} {o : Obj} (k : Le g g') (h : PqP g its o) : PqP g' its o := el13 h fun vs h1 h2 h3 => in13 vs h1 (h2.le k) h3
set_option maxHeartbeats 2000000 in
theorem law_get {a pq : Addr} {its : Array Im} {Q : Value → Shared → Prop} (W : Wf w mg mb g) (S : St x g ((pq, PqP g its) :: l) s) (hd : A.depth < 900) (hu : A.units < 5000) (hh : HSt A l)
    (H : Wl g a pq) (hz : its.size < 10000) (hne : 0 < its.size)
    (h : ∀ g' p v its' s', Le g g' → PrV g' (-p.1) p.2 v → St x g' ((pq, PqP g' its') :: l) s' → its.Perm (its'.push p) → (∀ q ∈ its, key p ≤ key q) → Q v s') :
    wpAny (model PP w) A (call (.ref 70) [.ref a] []) Q E s := by
  refine callFQ0 (args := ⟨[.ref a], []⟩) (binds := [("self", .ref a)]) S (W.K 70 _ rfl) rfl (codeRec_of W.K (by kernel_rfl)) W.lim (by show A.depth < 1000; walk_at "om") (BindsTo.of_eq rfl) ?_
  intro L s₁ S
  dsimp only
  refine stored_cons (stL S rfl rfl (m := fun _ => none) .head fun s₂ S => ?_)
  refine stored_nil ⟨S.keep, ?_⟩
  refine nameXs ?_; intro ev Ax Ex Qx
  refine wpAny_execs_cons (wpAny_Assign_Name (callBi ?_))
  refine ldGW (v := .builtin "_heapq.heappop") W S rfl rfl rfl (by kernel_rfl) (in12 _ rfl ?_)
  refine wpAny_items_cons (Attribute_any_ ?_)
  refine ldL S rfl rfl (by k_mem) (by walk_at "lk") ?_
  refine wlPq W S H fun s S => ?_
  refine wpAny_items_nil ?_
  have S2 := (S.perm (l' := (pq, PqP g its) :: _ :: l) (.swap ..))
  refine el12 (S2.get (List.mem_cons_self ..)) fun o2 e2 z103_ => ?_; refine el13 z103_ fun vs hL hq hI => ?_; try clear z103_
  have S3 := S2.narrow e2 hL
  refine callPop S3 (by show A.units + 3 + 1 < 9900; walk_at "om") hq hI (by rw [sizeLine_eq]; walk_at "om") hne fun p v vs' its' s' S' hv hq' hI' hp hm => ?_
  have S4 := (S'.weak (P' := PqP g its') fun o ho => (in13 vs' ho hq' hI'))
  have S5 := S4.perm (.swap ..)
  refine stL S5 rfl rfl .head fun s S => ?_
  refine el46 (hv.pr) fun ai oi _ _ e104_ hi1 hi2 z105_ hk z106_ => ?_; subst e104_; refine el11 z105_ fun t1 e107_ => ?_; try clear z105_; subst e107_; refine el11 z106_ fun t2 e108_ => ?_; try clear z106_; subst e108_
  refine wpAny_execs_cons (wpAny_If (wpAny_isTrue_value ?_))
  refine ldL S rfl rfl (by k_mem) (by walk_at "lk") ?_
  refine truthy_tuple (S.isTup (in12 oi hi1 hi2)) (by show ((2 : Nat) : Int) < 2 ^ 63; decide) ?_
  have S := S.tok (s.toks + 1 + 1)
  refine wpAny_execs_cons (assignTup ?_)
  refine ldL S rfl rfl (by k_mem) (by walk_at "lk") ?_
  refine unpack2 S ((hh.sub (fun p hp => List.mem_cons_of_mem _ (List.mem_cons_of_mem _ hp))).ok S) (S.isTup (in12 oi hi1 hi2)) rfl fun s S => ?_
  refine wpAny_assign_Name (stL S rfl rfl .head fun s S => ?_)
  refine wpAny_assign_Name (stL S rfl rfl .head fun s S => ?_)
  refine wpAny_execs_cons (wpAny_Return_some (Tuple_ (wpAny_items_cons (wpAny_UnaryOp ?_))))
  refine ldL S rfl rfl (by k_mem) (by walk_at "lk") ?_
  refine oNeg S fun t1 s S => ?_
  refine wpAny_items_cons ?_
  refine ldL S rfl rfl (by k_mem) (by walk_at "lk") ?_
  refine wpAny_items_nil ?_
  refine nwTuple S (by size_fits) fun tp s S => ?_
  refine el25 (S.freeze) fun g1 o1 k1 e1 p1 _ S1 => ?_
  have S6 := S1.drop
  have S7 := S6.weak (P' := PqP g1 its') fun o h => pqLe k1 h
  exact h g1 p _ its' _ k1 (in46 _ o1 _ _ rfl e1 p1 ⟨_, rfl⟩ hk ⟨_, rfl⟩) S7 hp hm
end Jr
end
-- JS
section
namespace Jr
open PySem PySem.W PySem.Calls PySem.SeqAt PySem.Builtin PyProof.Rows
variable {x : Wd} {g : Heap} {l : List Ent} {s : Shared} {A : Around} {E : Value → Shared → Prop} {prog : Program} {w : World}

/-! dicts whose keys are names of commits -/
def isNm (k : Nat) (v : Value) : Bool := decide (k < 11) && (match v with | .bytes b _ => b.toList == (nm (k : Nat)).toList | _ => false)
theorem isNm_shape {k : Nat} {v : Value} (h : isNm k v = true) : NmV k v := by
  unfold isNm at h
  refine el02 (Bool.and_eq_true_iff.mp h) fun h1 h2 => ?_
  cases v <;> try cases h2
  rename_i b t
  refine ⟨of_decide_eq_true h1, ⟨t, ?_⟩⟩
  have := eq_of_beq h2
  rw [Array.toList_inj.mp this]
theorem isNm_of {k : Nat} {v : Value} (h : NmV k v) : isNm k v = true := by
  refine el02 h fun hk z109_ => ?_; try clear h; refine el11 z109_ fun t e110_ => ?_; try clear z109_; subst e110_
  simp [isNm, hk]
theorem nm_inj {i j : Nat} (hi : i < 11) (hj : j < 11) (h : nm (i : Nat) = nm (j : Nat)) : i = j := by
  have := nm_eq i hi j hj
  rw [h] at this
  simpa using this
theorem slot_bytes_hash : Slot "bytes" "__hash__" "bytes.__hash__" :=
  .of (owner := "bytes") (n := "__hash__") (by rw [typeLookup_type, builtinLookup_eq_fast]; kernel_rfl) (by decide +kernel) (by decide +kernel) (by decide +kernel)
    (by first | exact .inl (by decide +kernel) | exact .inr (by decide +kernel)) (by rw [isSubtype_type]; kernel_rfl)
theorem entry_bytes_hash : entryFor table "bytes.__hash__" = some Builtin.«bytes.__hash__» := entryFor_of_tree (by kernel_rfl)
theorem args_bytes_hash (a : Value) : argsOk "bytes.__hash__" ⟨[a], []⟩ := by
  unfold argsOk; rw [signature?_of (id := "bytes.__hash__") (n := ['_', '_', 'h', 's', 'a', 'h', '_', '_']) (o := ['s', 'e', 't', 'y', 'b']) (by kernel_rfl) FB.owner_bytes]; kernel_rfl
def bStr (b : Array UInt8) : Str := ⟨b.map (·.toNat)⟩
def hB (w : World) (b : Array UInt8) : Int :=
  let i := hashStr w (bStr b)
  if (decide (-(2 : Int) ^ 63 ≤ i) && decide (i < 2 ^ 63)) = true then (if i == -1 then -2 else i)
  else
    let h := (i.natAbs : Int) % (2 ^ 61 - 1)
    let h := if i < 0 then -h else h
    if h == -1 then -2 else h
theorem hashBytes {b : Array UInt8} {t : Tok} {Q : Int → Shared → Prop} (h : Q (hB w b) { s with toks := s.toks + 1 }) :
    wpAny (model prog w) A (pyHash (.bytes b t)) Q E s := by
  have hT : s.TypeIs (.bytes b t) "bytes" := typeIs_bytes s b t
  unfold pyHash pyHashByItsType
  have hv : [Value.bytes b t].any Value.onHeap = false := rfl
  refine wpAny_bind ?_
  rw [cRoomFor, if_neg (by rw [hv]; exact Bool.false_ne_true)]; refine wpAny_pure ?_
  refine wpAny_bind (wpAny_specialOf hT slot_bytes_hash.lookup ?_)
  show wpAny _ _ (if (some (Value.builtin "bytes.__hash__") == some Value.none) = true then _ else _) Q E s
  rw [if_neg (by rw [beq_builtin_none]; exact Bool.false_ne_true)]
  refine wpAny_bind (wpAny_specialOf hT slot_bytes_hash.lookup ?_)
  show wpAny _ _ (callSpecialIfBoundUnlessNone? (.bytes b t) "__hash__" _ >>= _) Q E s
  refine wpAny_bind (wpAny_callSpecialIfBoundUnlessNone?_slot hT slot_bytes_hash
    (wpAny_call_entry slot_bytes_hash hT entry_bytes_hash
      (show wpAny _ _ (strHash (bStr b) >>= fun i => (do ret (← mkInt i))) _ _ s from ?_) (args_bytes_hash _)))
  unfold strHash
  refine wpAny_bind (wpAny_bind (wpAny_askSetting (wpAny_pure (wpAny_ret_mkInt ?_))))
  show wpAny _ _ (if (decide (-(2 : Int) ^ 63 ≤ hashStr w (bStr b)) && decide (hashStr w (bStr b) < 2 ^ 63)) = true then _ else _) Q E _
  unfold hB at h
  by_cases c : (decide (-(2 : Int) ^ 63 ≤ hashStr w (bStr b)) && decide (hashStr w (bStr b) < 2 ^ 63)) = true
  · rw [if_pos c]; rw [if_pos c] at h; exact wpAny_pure h
  · rw [if_neg c]; rw [if_neg c] at h; exact wpAny_bind (wpAny_rule (wpAny_pure h))

def nmKind (prog : Program) (w : World) : KeyKind prog w Nat where
  is := isNm
  hash := fun k => hB w (nm (k : Nat))
  inj := fun v a b ha hb => by
    refine el02 (isNm_shape ha) fun h1 z111_ => ?_; refine el11 z111_ fun t e112_ => ?_; try clear z111_; subst e112_
    obtain ⟨h2, u, e⟩ := isNm_shape hb
    injection e with e1 e2
    exact nm_inj h1 h2 e1
  byValue := fun k v h => by obtain ⟨_, t, rfl⟩ := isNm_shape h; rfl
  pyHash := fun hv h => by obtain ⟨_, t, rfl⟩ := isNm_shape hv; exact hashBytes h
  eqBool := fun {A E s a b u v Q} hu hv h => by
    refine el02 (isNm_shape hu) fun h1 z114_ => ?_; refine el11 z114_ fun t e115_ => ?_; try clear z114_; subst e115_
    obtain ⟨h2, t2, rfl⟩ := isNm_shape hv
    refine eqAtBytes _ _ _ _ prog w E Q ?_
    rw [nm_eq _ h1 _ h2]; exact h
  «strs» := fun k x t v h => by obtain ⟨_, t, e⟩ := isNm_shape h; cases e

theorem valueAt_stored (kvs : List (Nat × Value)) (k : Nat) (v : Value) (y : Nat) : valueAt (stored kvs k v) y = if y = k then some v else valueAt kvs y := by
  unfold stored
  by_cases h : kvs.any (fun kv => kv.1 = k) = true
  · rw [if_pos h]
    induction kvs with
    | nil => simp at h
    | cons a r ih =>
      unfold valueAt at ih ⊢
      simp only [List.map_cons, List.find?_cons]
      by_cases e : a.1 = k
      · subst e
        by_cases e2 : y = a.1
        · subst e2; simp
        · have e3 : ¬ a.1 = y := fun q => e2 q.symm
          simp only [if_true, decide_eq_false e3, if_neg e2]
          by_cases h2 : r.any (fun kv => kv.1 = a.1) = true
          · have := ih h2; rw [if_neg e2] at this; exact this
          · have hm : r.map (fun kv => if kv.1 = a.1 then (kv.1, v) else kv) = r := by
              rw [List.map_congr_left (g := _root_.id) (fun q hq => ?_), List.map_id]
              have : ¬ q.1 = a.1 := fun e => h2 (List.any_eq_true.mpr (in12 q hq (by simpa using e)))
              simp [this]
            rw [hm]
      · have h2 : r.any (fun kv => kv.1 = k) = true := by simpa [e] using h
        simp only [if_neg e]
        by_cases e2 : a.1 = y
        · subst e2; simp [e]
        · simp only [decide_eq_false e2]; exact ih h2
  · rw [if_neg h]
    unfold valueAt
    rw [List.find?_append]
    by_cases e : y = k
    · subst e
      have : kvs.find? (fun kv => decide (kv.1 = y)) = none := by
        rw [List.find?_eq_none]
        intro q hq hq2
        exact h (List.any_eq_true.mpr (in12 q hq hq2))
      rw [this]; simp
    · have e' : ¬ k = y := fun q => e q.symm
      simp [e, e']
theorem stored_keys (kvs : List (Nat × Value)) (k : Nat) (v : Value) : ∀ kv ∈ stored kvs k v, kv.1 = k ∨ ∃ kv' ∈ kvs, kv'.1 = kv.1 := by
  intro kv h
  unfold stored at h
  split at h
  · refine el12 (List.mem_map.mp h) fun q hq e118_ => ?_; subst e118_
    refine .inr (in12 q hq ?_)
    split <;> rfl
  · rcases List.mem_append.mp h with h | h
    · exact .inr (in12 kv h rfl)
    · simp at h; subst h; exact .inl rfl
theorem nodup_lt : ∀ (n : Nat) (l : List Nat), l.Nodup → (∀ x ∈ l, x < n) → l.length ≤ n := by
  intro n
  induction n with
  | zero =>
    intro l _ h
    cases l with | nil => exact Nat.le_refl _ | cons a r => exact absurd (h a (List.mem_cons_self ..)) (by walk_at "om")
  | succ n ih =>
    intro l hn h
    have := ih (l.erase n) (hn.erase n) fun x hx => by
      have h1 := h x (List.mem_of_mem_erase hx)
      have h2 : x ≠ n := fun e => by subst e; exact (hn.not_mem_erase) hx
      walk_at "om"
    rw [List.length_erase] at this
    split at this <;> walk_at "om"

def DN (prog : Program) (w : World) (f : Nat → Option Value) (o : Obj) : Prop := ∃ kvs, o.IsDictOf (nmKind prog w) kvs ∧ (∀ k, valueAt kvs k = f k) ∧ ∀ kv ∈ kvs, kv.1 < 11
def fset (f : Nat → Option Value) (k : Nat) (v : Value) : Nat → Option Value := fun y => if y = k then some v else f y
theorem DN.map {f : Nat → Option Value} {d : Addr} {o : Obj} (ho : s.heap.get? d = some o) (h : DN prog w f o) : s.heap.MapOf (nmKind prog w) d f := by
  refine el13 h fun kvs h1 h2 h3 => ?_; try clear h
  have := (Heap.dictOf_iff.mpr (in12 o ho h1)).mapOf
  rw [show f = valueAt kvs from funext fun k => (h2 k).symm]; exact this

theorem dcGet {d : Addr} {f : Nat → Option Value} {k : Nat} {key v : Value} {Q : Value → Shared → Prop} (S : St x g l s) (hd : ∃ o, s.heap.get? d = some o ∧ DN prog w f o) (hk : NmV k key) (hv : f k = some v)
    (h : ∀ s', St x g l s' → Q v s') : wpAny (model prog w) A (getItem (.ref d) key) Q E s := by
  refine el12 hd fun o ho hd => ?_
  exact wpAny_getItem_of (isNm_of hk) (hd.map ho) hv (h _ (S.tok _))
theorem dcIn {d : Addr} {f : Nat → Option Value} {k : Nat} {key : Value} {Q : Value → Shared → Prop} (S : St x g l s) (hd : ∃ o, s.heap.get? d = some o ∧ DN prog w f o) (hs : d ≠ sysModules) (hk : NmV k key)
    (h : ∀ s', St x g l s' → Q (.bool (f k).isSome) s') : wpAny (model prog w) A (compareOp .In key (.ref d)) Q E s := by
  refine el12 hd fun o ho hd => ?_
  exact wpAny_in_of (isNm_of hk) (by simpa using hs) (hd.map ho) (h _ (S.tok _))
theorem St.fresh {e : Addr} {o : Obj} {P : Obj → Prop} {h' : Heap} (S : St x g l s) (hk : ∀ b o, s.heap.get? b = some o → h'.get? b = some o) (hn : s.heap.get? e = none) (ho : h'.get? e = some o) (hP : P o) (t : Nat) :
    St x g ((e, P) :: l) { s with heap := h', toks := t } where
  keep := fun b o' q => hk _ _ (S.keep _ _ q)
  own := by
    intro p hp
    rcases List.mem_cons.mp hp with rfl | hp
    · refine ⟨?_, (in12 o ho hP)⟩
      cases q : g.get? e with
      | none => rfl
      | some o' => have := S.keep _ _ q; rw [hn] at this; cases this
    · refine el02 (S.own p hp) fun a z119_ => ?_; refine el12 z119_ fun o' b c => ?_; try clear z119_
      exact ⟨a, (in12 o' (hk _ _ b) c)⟩
  nodup := by
    refine List.nodup_cons.mpr ⟨fun hm => ?_, S.nodup⟩
    refine el12 (List.mem_map.mp hm) fun p hp e120_ => ?_; subst e120_
    refine el02 (S.own p hp) fun _ z121_ => ?_; refine el12 z121_ fun o' b _ => ?_; try clear z121_
    rw [hn] at b; cases b
  gens := S.gens
  os := S.os
theorem dcMiss {d : Addr} {f : Nat → Option Value} {k : Nat} {key : Value} {Q : Value → Shared → Prop} (S : St x g l s) (hh : A.handled = none) (hd : ∃ o, s.heap.get? d = some o ∧ DN prog w f o) (hs : d ≠ sysModules) (hk : NmV k key) (hv : f k = none)
    (h : ∀ e s', St x g ((e, ExcP (.type "KeyError") .none) :: l) s' → E (.ref e) s') : wpAny (model prog w) A (getItem (.ref d) key) Q E s := by
  refine el12 hd fun o ho hd => ?_
  refine wpAny_getItem_missing_of (isNm_of hk) (by simpa using hs) hh (hd.map ho) hv fun h' e N => h e _ ?_
  refine el23 (N.there) fun ob t h1 h2 h3 => ?_
  exact S.fresh N.keeps N.new h1 ⟨h2, (in13 _ h3 rfl rfl)⟩ _
theorem dcSet {d : Addr} {f : Nat → Option Value} {k : Nat} {key v : Value} {l' : List Ent} {Q : Unit → Shared → Prop} (S : St x g l s) (U : Upd l d (DN prog w f) (DN prog w (fset f k v)) l') (hk : NmV k key)
    (h : ∀ s', St x g l' s' → Q () s') : wpAny (model prog w) A (setItem (.ref d) key v) Q E s := by
  refine el12 (S.get U.mem) fun o ho z122_ => ?_; refine el13 z122_ fun kvs h1 h2 h3 => ?_; try clear z122_
  have hl : kvs.length ≤ 11 := by
    obtain ⟨es, ep, _, _, _, _, hn⟩ := h1
    have := nodup_lt 11 _ hn (fun x hx => by obtain ⟨kv, hkv, rfl⟩ := List.mem_map.mp hx; exact h3 kv hkv)
    simpa using this
  refine wpAny_setItem_pairs (isNm_of hk) (Heap.dictOf_iff.mpr (in12 o ho h1)) (fun h' hm hs => h _ ?_) (by rw [sizeLine_eq]; walk_at "om")
  refine el12 (Heap.dictOf_iff.mp hm) fun o' ho' h1' => ?_
  refine S.upd U (fun b ob hb e => (hs.2 b hb).trans e) ho' (in13 _ h1' (fun y => ?_) (fun kv hkv => ?_)) _
  · rw [valueAt_stored, h2]; rfl
  · rcases stored_keys _ _ _ kv hkv with e | ⟨kv', hk', e⟩
    · rw [e]; exact hk.1
    · rw [← e]; exact h3 kv' hk'
theorem dcNew {env : Env} {pos : Pos} {Q : Value → Shared → Prop} (S : St x g l s) (hg : g.get? 126 ≠ none) (h : ∀ d s', d ≠ sysModules → St x g ((d, DN prog w fun _ => none) :: l) s' → Q (.ref d) s') : wpAny (model prog w) A (eval (.Dict [] [] pos) env) Q E s := by
  refine wpAny_Dict_empty (h _ _ ?_ (S.push (o := { cls := .type "dict", data := .dict #[] }) (in13 ([]) ⟨#[], 0, ⟨rfl, rfl, rfl⟩, rfl, fun _ he => by simp at he, Pairs.nil, List.nodup_nil⟩ (fun _ => rfl) (fun _ h => by simp at h)) rfl))
  intro e
  cases hc : g.get? 126 with
  | none => exact hg hc
  | some o =>
    have := Heap.lt_size (S.keep _ _ hc)
    rw [e] at this
    exact absurd this (by decide)

theorem dcGetD {d : Addr} {f : Nat → Option Value} {k : Nat} {key dflt : Value} {Q : Value → Shared → Prop} (S : St x g l s) (hd : ∃ o, s.heap.get? d = some o ∧ DN prog w f o) (hs : d ≠ sysModules) (hk : NmV k key)
    (h : ∀ s', St x g l s' → Q ((f k).getD dflt) s') : wpAny (model prog w) A (call (.builtin "dict.get") [.ref d, key, dflt] []) Q E s := by
  refine el12 hd fun o ho hd => ?_
  exact call_meetsIn F.slot_dict_get (hd.map ho).typeIs F.entry_dict_get (F.args_dict_get_3 _ _ _) (meets_dict_get_default (knd := nmKind prog w) d (isNm_of hk) (by simpa using hs) dflt) (in12 f (hd.map ho) (h _ (S.tok _)))
end Jr
end
-- JT
section
namespace Jr
open PySem PySem.W PySem.Calls PySem.SeqAt PySem.Builtin PyProof.Rows
variable {x : Wd} {g : Heap} {l : List Ent} {s : Shared} {E : Value → Shared → Prop} {prog : Program} {w : World}
variable {A : Around} {R : GenEnd} {Y : Protocol} {n : Nat} {s₀ : Shared} {c : Code} {fs : List Frame} {env : Env}
  {K : Flow → Sem PySem.Fin} {H : Value → Sem PySem.Fin} {gd : Bool → Bool} {lv : List Value → List Value}

/-! a for loop in the body of a generator -/
def backFr (K : Flow → Sem PySem.Fin) (H : Value → Sem PySem.Fin) (gd : Bool → Bool) (lv : List Value → List Value) (env : Env) : Result → Sem PySem.Fin := fun r =>
  ((match r with | .ok f => (.pure f : Sem Flow) | .error e => .raise e).onRaise fun (x : Value) => do
        if (← field x 1) == Value.none then unsupported "frame.own-activation:exception-without-traceback"
        setFlight x env.frame).wrap K H gd lv
theorem segFor {target iter : PySem.Expr} {body : List Stmt} {pos : Pos}
    (h : wpAny (model prog w) (A.over c fs) (eval iter env) (fun v s₁ => wpAny (model prog w) (A.over c fs) (pyIter v) (fun it s₂ =>
      ∀ p, Seg (model prog w) A R Y n s₀ (.forLoop target it body [] env) ((model prog w).den (.forLoop target it body [] env)) (.ret (backFr K H gd lv env) none (gd false) (lv []) c p [] :: fs) s₂) (fun _ _ => False) s₁) (fun _ _ => False) s)
    (hfold : ∀ v, foldedSetIterable iter env v = pure v := by intro v; rfl) :
    Seg (model prog w) A R Y n s₀ c ((exec (.For target iter body [] pos) env).wrap K H gd lv) fs s := by
  rw [arm_exec_For]
  simp only [hfold]
  refine seg_at ?_
  show Seg _ A R Y n s₀ c (Sem.wrap _ _ _ _ (eval iter env >>= fun x => _)) fs s
  rw [Sem.bind_eq_wrap', Sem.wrap_wrap]
  refine seg_wrap (wpAny_mono h (fun v s₁ h₁ => ?_) fun _ _ e => e.elim)
  refine seg_at ?_
  show Seg _ A R Y n s₀ c (Sem.wrap _ _ _ _ (holding [v] (pyIter v) >>= fun x => _)) fs s₁
  rw [Sem.bind_eq_wrap', Sem.wrap_wrap]
  refine seg_wrap (wpAny_holding (wpAny_mono h₁ (fun it s₂ h₂ => ?_) fun _ _ e => e.elim))
  exact seg_call h₂

def noteH (env : Env) : Value → Sem PySem.Fin := fun e => (do noteFrame e env; theTreesLotGoes e : Sem Unit).wrap (fun _ => .raise e) .raise _root_.id _root_.id
theorem segForLoop {target it : _} {body : List Stmt}
    (h : wpAny (model prog w) (A.over (.forLoop target it body [] env) fs) (pyNext it) (fun r s₁ => match r with
      | none => Seg (model prog w) A R Y n s₀ (.forLoop target it body [] env) (.pure (.again (.block [] env))) fs s₁
      | some v => wpAny (model prog w) (A.over (.forLoop target it body [] env) fs) (letOwnedTupleGo target it v) (fun _ s₂ => wpAny (model prog w) (A.over (.forLoop target it body [] env) fs) (assign target env v) (fun _ s₃ =>
          Seg (model prog w) A R Y n s₀ (.forLoop target it body [] env) ((execs body env).wrap (fun f => match f with
            | .next | .cont => .pure (.again (.forLoop target it body [] env))
            | .brk => .pure (.done .next)
            | .ret v => .pure (.done (.ret v))) (noteH env) _root_.id _root_.id) fs s₃) (fun _ _ => False) s₂) (fun _ _ => False) s₁) (fun _ _ => False) s) :
    Seg (model prog w) A R Y n s₀ (.forLoop target it body [] env) ((model prog w).den (.forLoop target it body [] env)) fs s := by
  show Seg _ A R Y n s₀ _ ((forTurn target it body [] env).onRaise (fun x => do noteFrame x env; theTreesLotGoes x)) fs s
  unfold forTurn
  rw [Sem.onRaise_eq_wrap]
  refine seg_at ?_
  show Seg _ A R Y n s₀ _ (Sem.wrap _ _ _ _ ((pyNext it).onRaise _ >>= fun x => _)) fs s
  rw [Sem.bind_eq_wrap', Sem.wrap_wrap]
  refine seg_wrap (wpAny_onRaise (wpAny_mono h (fun r s₁ h₁ => ?_) fun _ _ e => e.elim))
  cases r with
  | none => exact h₁
  | some v =>
    show Seg _ A R Y n s₀ _ (Sem.wrap _ _ _ _ (letOwnedTupleGo target it v >>= fun x => _)) fs s₁
    rw [Sem.bind_eq_wrap', Sem.wrap_wrap]
    refine seg_wrap (wpAny_mono h₁ (fun _ s₂ h₂ => ?_) fun _ _ e => e.elim)
    show Seg _ A R Y n s₀ _ (Sem.wrap _ _ _ _ (assign target env v >>= fun x => _)) fs s₂
    rw [Sem.bind_eq_wrap', Sem.wrap_wrap]
    refine seg_wrap (wpAny_mono h₂ (fun _ s₃ h₃ => ?_) fun _ _ e => e.elim)
    show Seg _ A R Y n s₀ _ (Sem.wrap _ _ _ _ (execs body env >>= fun x => _)) fs s₃
    rw [Sem.bind_eq_wrap', Sem.wrap_wrap]
    rw [Sem.wrap_congr (execs body env) _ _ (K' := fun f => match f with
            | .next | .cont => .pure (.again (.forLoop target it body [] env))
            | .brk => .pure (.done .next)
            | .ret v => .pure (.done (.ret v))) (H' := noteH env)
        (fun f => by cases f <;> rfl)
        (fun e => by first | exact Sem.bind_eq_wrap _ _ | rfl | (show (do noteFrame e env; theTreesLotGoes e : Sem Unit).bind (fun _ => .raise e) = _; rw [Sem.bind_eq_wrap]; rfl))]
    exact h₃
theorem segBlockNil (h : Seg (model prog w) A R Y n s₀ (.block [] env) (leafOf (.ok .next)) fs s) : Seg (model prog w) A R Y n s₀ c (.pure (.again (.block [] env))) fs s :=
  seg_again rfl h

theorem pyNextGen {a : Addr} {g n : Nat} {gs : GenState} {P : Nat → Shared → Shared → Prop} {Y : Protocol} {Q : Option Value → Shared → Prop} {E : Value → Shared → Prop} (hh : A.handled = none)
    (hl : s.heap.NoLimit) (hroom : A.depth < recursionLimit)
    (hg : s.heap.IsGen a g) (hgs : s.gens[g]? = some gs)
    (hgo : gs.Goes (model prog w) A.in1 (fun n s₀ r s₁ => r = .ok (.ret .none) ∧ P n s₀ s₁) Y n (.send .none) (s.setGen g .running))
    (hY : ∀ v s₁ gs', gs'.bare = true → Y (n - 1) (s.setGen g .running) v s₁ (fun r' s'' => match n with
        | 0 => False
        | m + 1 => gs'.Goes (model prog w) A.in1 (fun n s₀ r s₁ => r = .ok (.ret .none) ∧ P n s₀ s₁) Y m r' s'') → Q (some v) (s₁.setGen g gs'))
    (hP : ∀ s₁, P n (s.setGen g .running) s₁ → ∀ h', (∀ b o, s₁.heap.get? b = some o → h'.get? b = some o) → Q none { s₁.setGen g .finished with heap := h' }) :
    wpAny (model prog w) A (pyNext (.ref a)) Q E s := by
  unfold pyNext
  refine wpAny_bind (wpAny_attempt (wpAny_callSpecial?_slot (name := Str.ofString "__next__") hg.typeIs slot_gen_next
    (wpAny_call_entry slot_gen_next hg.typeIs entry_gen_next ?_ (args_gen_next _))))
  show wpAny _ A.in1 (Builtin.Generator.genWake (.ref a) (.send .none)) _ _ s
  unfold Builtin.Generator.genWake
  refine wpAny_bind (wpAny_holding (wpAny_genNumber hg (wpAny_bind (wpAny_genState hgs ?_))))
  cases gs with
  | running => exact hgo.elim
  | finished => exact hgo.elim
  | _ =>
    refine wpAny_bind (wpAny_roomToWake hl hroom ?_)
    show wpAny _ A.in1 (.resume g (.send .none) [] _) _ _ s
    refine wpAny_resumeQ hgs hgo (fun x s₁ hx => ?_) (fun v s₁ gs' hb hv => ?_)
    · obtain ⟨rfl, hp⟩ := hx
      show wpAny _ A.in1 (newExc (.type "StopIteration") [] >>= _) _ _ _
      refine wpAny_bind ?_
      simp only [newExc, newTuple]
      refine wpAny_bind (wpAny_newObj_type ?_ (by size_fits))
      refine wpAny_bind (m := firstArgMember _ _) (wpAny_of_eq (a := Value.none) (by first | rfl | (simp only [firstArgMember]; rfl)) ?_)
      refine wpAny_newObj_type ?_ (by size_fits)
      simp only [raiseNew]
      refine wpAny_bind (wpAny_bind (wpAny_handled ?_))
      first | rw [show A.in1.handled = none from hh] | rw [hh]
      refine wpAny_throw ?_
      refine wpAny_bind (wpAny_isInstance (T := "StopIteration") (b := true) ⟨_, Heap.get?_push_size _ rfl, rfl⟩ isSubtype_stop ?_)
      exact wpAny_pure (hP s₁ hp _ fun b o hb => Heap.get?_push_of_some _ (Heap.get?_push_of_some _ hb))
    · exact wpAny_pure ⟨v, rfl, wpAny_pure (hY v s₁ gs' hb hv)⟩
end Jr
end
-- JU
section
namespace Jr
open PySem PySem.W PySem.Calls PySem.SeqAt PySem.Builtin PyProof.Rows
variable {x : Wd} {g : Heap} {l : List Ent} {s : Shared} {E : Value → Shared → Prop} {w : World} {mg mb : Str → Option Value} {A : Around}


/-! WorkList.iter -/
structure GBase (w : World) (mg mb : Str → Option Value) (gf : Heap) (a pq : Addr) (vs : List Value) (its : List Im) : Prop where
  W : Wf w mg mb gf
  wl : Wl gf a pq
  ls : gf.IsList pq vs.toArray
  it : Paired (ImV gf) its vs
structure GPre (D : Addr → Prop) (gf h : Heap) : Prop where
  le : Le gf h
  al : ∀ b, D b → ∃ o, h.get? b = some o
def Keeps (D : Addr → Prop) (s₀ s₁ : Shared) : Prop := (∀ b o, D b → s₀.heap.get? b = some o → s₁.heap.get? b = some o) ∧ s₁.gens = s₀.gens ∧ s₁.os = s₀.os
def NsA (o : Obj) : Prop := ∃ m, NsP m o
def GOwn (pq L it : Addr) (i : Nat) (h : Heap) : Prop := ∃ oi om, h.get? it = some oi ∧ LIterP pq i oi ∧ h.get? L = some om ∧ NsA om
def GenY (D : Addr → Prop) (gf : Heap) (L pq : Addr) (its : List Im) : Protocol := fun m s₀ v s₁ kap =>
  Keeps D s₀ s₁ ∧ ∃ it t o p u nv, v = .ref t ∧ ¬ D t ∧ t ≠ L ∧ t ≠ it ∧ s₁.heap.get? t = some o ∧ TupP [u, nv] o ∧ its[its.length - m - 1]? = some p ∧ TmV (-p.1) u ∧ NmV p.2 nv ∧
    ¬ D it ∧ it ≠ L ∧ GOwn pq L it (its.length - m) s₁.heap ∧ ∀ s'', GPre D gf s''.heap → GOwn pq L it (its.length - m) s''.heap → kap (.send .none) s''
def GenR (D : Addr → Prop) : GenEnd := fun n s₀ r s₁ => r = .ok (.ret .none) ∧ Keeps D s₀ s₁ ∧ n = 0


theorem St.all {l : List Ent} (h : ∀ p ∈ l, ∃ o, s.heap.get? p.1 = some o ∧ p.2 o) (hn : (l.map (·.1)).Nodup) : St ⟨s.gens, s.os⟩ (hideAll s.heap (l.map (·.1))) l s where
  keep := fun b o' e => of_hideAll _ e
  own := fun q hq => ⟨hideAll_none _ (List.mem_map_of_mem hq), h q hq⟩
  nodup := hn
  gens := rfl
  os := rfl
def GenP (k : Nat) (o : Obj) : Prop := ∃ nm qn, o.cls = .type "generator" ∧ o.data = .fields #[.int k 0, nm, qn] ∧ o.slots = #[]

theorem St.gen {o : Obj} {P : Obj → Prop} {gs : GenState} {t : Nat} (S : St x g l s) (hP : P o) (hf : o.isFreed = false) :
    St ⟨x.gens.push gs, x.os⟩ g ((s.heap.objs.size, P) :: l) { s with gens := s.gens.push gs, toks := t, heap := s.heap.push o } :=
  have S1 := S.push hP hf t
  ⟨S1.keep, S1.own, S1.nodup, by show s.gens.push gs = x.gens.push gs; rw [S.gens], S1.os⟩

set_option maxHeartbeats 4000000 in
theorem law_iter {a : Addr} {R : Result → Shared → Prop} (W : Wf w mg mb g) (S : St x g l s) (hd : A.depth < 900)
    (h : ∀ L ga gs s', St ⟨x.gens.push gs, x.os⟩ g ((ga, GenP x.gens.size) :: (L, NsP (upd (fun _ => none) "self" (.ref a))) :: l) s' → gs.bare = true →
      (∀ (A' : Around) (D : Addr → Prop) (gf : Heap) (pq : Addr) (vs : List Value) (its : List Im) (s'' : Shared), A'.handled = none → A'.depth < 950 → GBase w mg mb gf a pq vs its → GPre D gf s''.heap → ¬ D L → gf.get? L = none →
        (∃ om, s''.heap.get? L = some om ∧ NsP (upd (fun _ => none) "self" (.ref a)) om) → gs.Goes (model PP w) A' (GenR D) (GenY D gf L pq its) its.length (.send .none) s'') →
      R (.ok (.ret (.ref ga))) s') : codeAny (model PP w) A (.call (.ref 77) ⟨[.ref a], []⟩) R s := by
  refine codeAny_call_generator (A := A) (args := ⟨[.ref a], []⟩) (by show A.depth < 1000; omega) (S.keep _ _ (W.K 77 _ rfl)) rfl rfl rfl rfl (codeRec_le (codeRec_of W.K (by kernel_rfl)) S.keep) ?_
  refine (BindsTo.of_eq (binds := [("self", .ref a)]) rfl) _ _ _ _ ?_
  refine nwFrame S fun L bs s' hl S' => ?_
  obtain rfl : bs = [] := List.length_eq_zero_iff.mp hl
  refine stored_cons (stL S' rfl rfl (m := fun _ => none) .head fun s S => ?_)
  refine stored_nil ⟨W.lim.keeps S.keep, ?_⟩
  refine h L _ _ _ (St.gen S (in23 _ _ rfl (by rw [S.gens]) rfl) rfl) rfl ?_
  · intro A' D gf pq vs its s'' hh hdp B P hDL hgL hq_
    refine el12 hq_ fun om hom hns => ?_; clear hq_
    refine ⟨rfl, seg_func ?_⟩
    have S0 : St ⟨s''.gens, s''.os⟩ (hideAll s''.heap [L]) [(L, NsP (upd (fun _ => none) "self" (.ref a)))] s'' := St.all (l := [(L, NsP (upd (fun _ => none) "self" (.ref a)))]) (fun p hp => by simp at hp; subst hp; exact (in12 om hom hns)) (by simp)
    have k0 : Le gf (hideAll s''.heap [L]) := fun b o e => hideAll_get _ (P.le b o e) (fun hm => by simp at hm; subst hm; rw [hgL] at e; cases e)
    have kD : ∀ b o, D b → s''.heap.get? b = some o → (hideAll s''.heap [L]).get? b = some o := fun b o hb e => hideAll_get _ e (fun hm => by simp at hm; subst hm; exact hDL hb)
    refine seg_execs_cons (segFor (Attribute_any_ ?_))
    refine ldL S0 rfl rfl (by k_mem) upd_same ?_
    refine wlPq (B.W.le k0) S0 (B.wl.le k0) fun s₁ S1 => ?_
    refine iterList S1 (isList_le B.ls k0) fun it s₂ S2 I => ?_
    intro p
    have hDit : ¬ D it := fun hD => by
      refine el11 (P.al _ hD) fun o ho => ?_
      have := kD _ _ hD ho
      rw [S2.out (List.mem_cons_self ..)] at this; cases this
    have hitL : it ≠ L := fun e => by
      have := S2.nodup; simp at this; exact this e
    have hlen : vs.length = its.length := (pairLen B.it).symm
    clear S S' om hom hns S0
    obtain ⟨i, hi⟩ : ∃ i : Nat, i = 0 := ⟨0, rfl⟩
    rw [← hi] at S2
    obtain ⟨m, hm⟩ : ∃ m, St ⟨s''.gens, s''.os⟩ (hideAll s''.heap [L]) [(it, LIterP pq i), (L, NsP m)] s₂ := ⟨_, S2⟩
    clear S2 I
    obtain ⟨N, hN⟩ : ∃ N : Nat, N = its.length := ⟨_, rfl⟩
    have hin : i + its.length = N := by omega
    clear hi
    generalize hideAll s''.heap [L] = g1 at k0 kD hm
    have al := P.al
    generalize its.length = n at hin ⊢
    have hxg : (⟨s''.gens, s''.os⟩ : Wd).gens = s''.gens := rfl
    have hxo : (⟨s''.gens, s''.os⟩ : Wd).os = s''.os := rfl
    generalize (⟨s''.gens, s''.os⟩ : Wd) = x1 at hm hxg hxo
    clear P S1
    induction n generalizing s₂ s'' i m x1 g1 with
    | zero =>
      refine segForLoop ((listIt (isList_le B.ls k0)).stop (Le.refl _) hh (by rw [show i = vs.length by omega] at hm; exact hm) fun s₃ S3 => ?_)
      refine segBlockNil (seg_leaf _ ?_)
      refine seg_end (.ok (.ret .none)) (in03 rfl (in03 (fun b o hb e => S3.keep _ _ (kD b o hb e)) (S3.gens.trans hxg) (S3.os.trans hxo)) rfl)
    | succ n ih =>
      have hlt : i < vs.length := by omega
      refine segForLoop ((listIt (isList_le B.ls k0)).next (Le.refl _) hm .head hlt fun v s₃ hv S3 => ?_)
      refine el13 (S3.get (List.mem_cons_self ..)) fun o1 ho1 q1 q2 => ?_
      refine letOwned ho1 q1 q2 (by decide) ?_
      refine el12 (pairGet' B.it hv) fun p hp hpv => ?_
      refine el46 ((hpv.le k0).pr) fun tp ob u nv e123_ hob htup z124_ hk z125_ => ?_; subst e123_; refine el11 z124_ fun t1 e126_ => ?_; try clear z124_; subst e126_; refine el11 z125_ fun t2 e127_ => ?_; try clear z125_; subst e127_
      refine unpack2 S3 (.inl hh) (S3.isTup (in12 ob hob htup)) rfl fun s₄ S4 => ?_
      refine wpAny_assign_Name (stL S4 rfl rfl (.tail .head) fun s₅ S5 => ?_)
      refine wpAny_assign_Name (stL S5 rfl rfl (.tail .head) fun s₆ S6 => ?_)
      refine seg_execs_cons (seg_Expr_Yield rfl rfl rfl (Tuple_ (wpAny_items_cons (wpAny_UnaryOp ?_))))
      refine ldL S6 rfl rfl (by k_mem) (by walk_at "lk") ?_
      refine oNeg S6 fun t3 s₇ S7 => ?_
      refine wpAny_items_cons ?_
      refine ldL S7 rfl rfl (by k_mem) (by walk_at "lk") ?_
      refine wpAny_items_nil ?_
      refine nwTuple S7 (by size_fits) fun tr s₈ S8 => ?_
      intro kap hkap
      have hnd := S8.nodup
      simp only [List.map_cons, List.map_nil, List.nodup_cons, List.mem_cons, not_or] at hnd
      have hDtr : ¬ D tr := fun hD => by
        refine el11 (al _ hD) fun o ho => ?_
        have := kD _ _ hD ho
        rw [S8.out (List.mem_cons_self ..)] at this; cases this
      refine el12 (S8.get (a := tr) (by k_mem)) fun otr hotr htr => ?_
      refine el12 (S8.get (a := it) (P := LIterP pq (i + 1)) (by k_mem)) fun oi hoi hpi => ?_
      refine el12 (S8.get (a := L) (by k_mem)) fun om hom hpm => ?_
      have e1 : its.length - n - 1 = i := by omega
      have e2 : its.length - n = i + 1 := by omega
      refine ⟨(in03 (fun b o hb e => S8.keep _ _ (kD b o hb e)) (S8.gens.trans hxg) (S8.os.trans hxo)), ⟨it, tr, otr, p, _, _, rfl, hDtr, hnd.1.2.1, hnd.1.1, hotr, htr, by rw [e1]; exact hp, ⟨_, rfl⟩, ⟨hk, ⟨_, rfl⟩⟩, hDit, hitL, ?_, ?_⟩⟩
      · rw [e2]; exact (in24 oi om hoi hpi hom ⟨_, hpm⟩)
      · rw [e2]
        intro s9 P9 hq_
        refine el24 hq_ fun oi9 om9 h1 h2 h3 hz_ => ?_; refine el11 hz_ fun m9 h4 => ?_; clear hq_ hz_
        refine hkap .none s9 ?_
        refine seg_again rfl ?_
        have S9 : St ⟨s9.gens, s9.os⟩ (hideAll s9.heap [it, L]) [(it, LIterP pq (i + 1)), (L, NsP m9)] s9 := St.all (l := [(it, LIterP pq (i + 1)), (L, NsP m9)])
          (fun p hp => by
            rcases List.mem_cons.mp hp with rfl | hp
            · exact (in12 _ h1 h2)
            · rcases List.mem_cons.mp hp with rfl | hp
              · exact (in12 _ h3 h4)
              · cases hp) (by simp [hitL])
        have k9 : Le gf (hideAll s9.heap [it, L]) := fun b o e => hideAll_get _ (P9.le b o e) (fun hm => by
          rcases List.mem_cons.mp hm with rfl | hm
          · have := k0 _ _ e; rw [S8.out (a := b) (P := LIterP pq (i + 1)) (by k_mem)] at this; cases this
          · rcases List.mem_cons.mp hm with rfl | hm
            · rw [hgL] at e; cases e
            · cases hm)
        have kD9 : ∀ b o, D b → s9.heap.get? b = some o → (hideAll s9.heap [it, L]).get? b = some o := fun b o hb e => hideAll_get _ e (fun hm => by
          rcases List.mem_cons.mp hm with rfl | hm
          · exact hDit hb
          · rcases List.mem_cons.mp hm with rfl | hm
            · exact hDL hb
            · cases hm)
        apply ih (s'' := s9) (s₂ := s9) (i := i + 1) (m := m9) (g1 := hideAll s9.heap [it, L]) (x1 := ⟨s9.gens, s9.os⟩)
        all_goals first | exact P9.al | exact k9 | exact kD9 | exact S9 | rfl | omega
end Jr
end
-- JV
section
namespace Jr
open PySem PySem.W PySem.Calls PySem.SeqAt PySem.Builtin PyProof.Rows PySem.Spec
variable {x : Wd} {g : Heap} {l : List Ent} {s : Shared} {E : Value → Shared → Prop} {w : World} {mg mb : Str → Option Value} {A : Around} {M : Model} {env : Env}

/-! nested defs and lambdas -/
def atPos (pos : Pos) (a b : Int) : Bool := a == pos.line && b == pos.col
theorem codeAmong_snoc {pos : Pos} {a b : Int} {v : Value} : ∀ {ps : List Value}, TriplesOk ps → codeAmong pos (ps ++ [rawInt a, rawInt b, v]) = match codeAmong pos ps with | some c => some c | none => if atPos pos a b = true then some v else none
  | [], _ => by
    show codeAmong pos [rawInt a, rawInt b, v] = _
    unfold rawInt atPos
    simp only [codeAmong]
  | .int c t :: .int d u :: z :: rest, h => by
    have ih := codeAmong_snoc (pos := pos) (a := a) (b := b) (v := v) (ps := rest) h
    show codeAmong pos (.int c t :: .int d u :: z :: (rest ++ [rawInt a, rawInt b, v])) = _
    simp only [codeAmong]
    split
    · rfl
    · exact ih
theorem triples_snoc {a b : Int} {v : Value} : ∀ {ps : List Value}, TriplesOk ps → TriplesOk (ps ++ [rawInt a, rawInt b, v])
  | [], _ => by show TriplesOk [rawInt a, rawInt b, v]; unfold rawInt; simp [TriplesOk]
  | .int c t :: .int d u :: z :: rest, h => triples_snoc (ps := rest) h

/-- every code found in the table has the name that Qn tells -/
def TabOk (g : Heap) (Qn : Int → Int → Str) (ps : Array Value) : Prop := TriplesOk ps.toList ∧ ∀ (pos : Pos) (cv : Value), codeAmong pos ps.toList = some cv → ∃ c', cv = .ref c' ∧ g.CodeRec (.ref c') (Qn pos.line pos.col)
theorem TabOk.le {g g' : Heap} {Qn : Int → Int → Str} {ps : Array Value} (h : TabOk g Qn ps) (k : Le g g') : TabOk g' Qn ps := ⟨h.1, fun pos cv e => let ⟨c', a, b⟩ := h.2 pos cv e; (in12 c' a (codeRec_le b k))⟩
theorem TabOk.nil {Qn : Int → Int → Str} : TabOk g Qn #[] := ⟨trivial, fun _ _ e => by cases e⟩
theorem TabOk.snoc {Qn : Int → Int → Str} {ps : Array Value} {pos : Pos} {c' : Addr} (h : TabOk g Qn ps) (hc : g.CodeRec (.ref c') (Qn pos.line pos.col)) : TabOk g Qn (ps ++ #[rawInt pos.line, rawInt pos.col, .ref c']) := by
  have e : (ps ++ #[rawInt pos.line, rawInt pos.col, .ref c']).toList = ps.toList ++ [rawInt pos.line, rawInt pos.col, .ref c'] := by simp
  refine ⟨by rw [e]; exact triples_snoc h.1, fun p cv q => ?_⟩
  rw [e, codeAmong_snoc h.1] at q
  cases hq : codeAmong p ps.toList with
  | some c => rw [hq] at q; cases q; exact h.2 p _ hq
  | none =>
    rw [hq] at q
    simp only at q
    split at q
    · rename_i ha
      cases q
      unfold atPos at ha
      refine el02 (Bool.and_eq_true_iff.mp ha) fun h1 h2 => ?_
      have e1 : (pos.line : Int) = p.line := eq_of_beq h1
      have e2 : (pos.col : Int) = p.col := eq_of_beq h2
      exact (in12 c' rfl (by rw [← e1, ← e2]; exact hc))
    · cases q

theorem Wf.builtinsAt {h : Heap} {P : Addr} (W : Wf w mg mb g) (k : Le g h) (hP : g.get? P = none) : h.BuiltinsAt mg P := by
  refine el26 (W.bm) fun bm ob b1 b2 b3 b4 b5 b6 => ?_
  have hbP : bm ≠ P := fun q => by rw [q, hP] at b3; cases b3
  have hbG : bm ≠ mainGlobals := fun q => by
    refine el33 (W.G) fun o es ep e hd _ => ?_
    rw [q, e] at b3; cases b3; rw [hd] at b6; cases b6
  exact (in28 bm ob b1 b2 hbG hbP (k _ _ b3) b4 b5 b6)
theorem Wf.gP {P : Addr} (W : Wf w mg mb g) (hP : g.get? P = none) : mainGlobals ≠ P := fun q => by
  refine el33 (W.G) fun o es ep e hd _ => ?_
  rw [q, hP] at e; cases e

theorem St.freezeAll {a : Addr} {P : Obj → Prop} (S : St x g ((a, P) :: l) s) : ∃ g' o, Le g g' ∧ g'.get? a = some o ∧ P o ∧ St x g' l s ∧ ∀ b ob, s.heap.get? b = some ob → b ∉ l.map (·.1) → g'.get? b = some ob := by
  refine el02 (S.own (a, P) (List.mem_cons_self ..)) fun h1 z128_ => ?_; refine el12 z128_ fun o h2 h3 => ?_; try clear z128_
  have hnd := List.nodup_cons.mp S.nodup
  refine (in25 (hideAll s.heap (l.map (·.1))) o (fun b o' e => ?_) (hideAll_get _ h2 hnd.1) h3 ?_ (fun b ob e hb => hideAll_get _ e hb))
  · refine hideAll_get _ (S.keep _ _ e) fun hm => ?_
    obtain ⟨p, hp, rfl⟩ := List.mem_map.mp hm
    have := (S.own p (List.mem_cons_of_mem _ hp)).1
    rw [this] at e; cases e
  · exact ⟨fun b o' e => of_hideAll _ e, fun q hq => ⟨hideAll_none _ (List.mem_map_of_mem hq), (S.own q (List.mem_cons_of_mem _ hq)).2⟩, hnd.2, S.gens, S.os⟩
theorem St.lt {p : Ent} (S : St x g l s) (h : p ∈ l) : p.1 < s.heap.objs.size := by obtain ⟨_, o, e, _⟩ := S.own p h; exact Heap.lt_size e
theorem St.notMem {c : Addr} (S : St x g l s) (h : s.heap.objs.size ≤ c) : c ∉ l.map (·.1) := fun hm => by
  refine el12 (List.mem_map.mp hm) fun p hp e130_ => ?_; subst e130_
  exact absurd (S.lt hp) (Nat.not_lt.mpr h)

theorem mkLam {name qual : Str} {params : Arguments} {body : PySem.Expr} {scope : Scope} {clos : List (Str × Addr)} {c P : Addr} {ps : Array Value} {pos : Pos} {firstLine : Nat} {Qn : Int → Int → Str} {Q : Value → Shared → Prop}
    (W : Wf w mg mb g) (S : St x g ((P, (· = tabObj ps)) :: l) s) (C : CodeHd g c P) (T : TabOk g Qn ps)
    (hcl : closureFor scope env = pure clos) (hge : env.globals = mainGlobals) (hcode : env.code = .ref c) (hq : Qn pos.line pos.col = qual)
    (h : ∀ g' f c' ctv ps' s', Le g g' → St x g' ((P, (· = tabObj ps')) :: l) s' → TabOk g' Qn ps' → g'.CodeRec (.ref c') qual →
      g'.get? f = some (kla_obj name qual params body scope clos ((mg "__name__").getD .none) c' ctv) → Q (.ref f) s') :
    wpAny M A (makeFunction name qual params (.expr body) scope env [] [] [] pos firstLine) Q E s := by
  have hPn := S.out (List.mem_cons_self ..)
  refine el12 (S.get (List.mem_cons_self ..)) fun oP hoP e131_ => ?_; subst e131_
  have hlt : ∀ b o, s.heap.get? b = some o → b < s.heap.objs.size := fun b o e => Heap.lt_size e
  cases hf : codeAmong pos ps.toList with
  | some cv =>
    refine el12 (T.2 _ _ hf) fun c' e132_ hrec => ?_; subst e132_
    rw [hq] at hrec
    refine kla_makeFunctionHit (mg := mg) hcl hge (W.G.keeps S.keep) hcode (C.keeps S.keep) hoP T.1 hf (W.builtinsAt S.keep hPn) fun ctv h' tk hk hsz => ?_
    have S1 := S.ext hk s.toks
    have S2 := S1.push (o := kla_obj name qual params body scope clos ((mg "__name__").getD .none) c' ctv) (P := (· = kla_obj name qual params body scope clos ((mg "__name__").getD .none) c' ctv)) rfl rfl tk
    refine el25 (S2.freeze) fun g' o k e1 e133_ _ S3 => ?_; subst e133_
    exact h g' _ c' ctv ps _ k S3 (T.le k) (codeRec_le hrec k) e1
  | none =>
    refine kla_makeFunction (mg := mg) hcl hge (W.G.keeps S.keep) hcode (C.keeps S.keep) hoP T.1 hf (W.gP hPn) (W.builtinsAt S.keep hPn) fun c' ctv h' tk hx hge' hlt' hrec htb => ?_
    have S1 : St x g ((P, (· = tabObj (ps ++ #[rawInt pos.line, rawInt pos.col, .ref c']))) :: l) { s with heap := h', toks := s.toks } := S.upd (P' := (· = tabObj (ps ++ #[rawInt pos.line, rawInt pos.col, .ref c']))) .head (fun b o hb e => hx b o hb e) htb rfl _
    have S2 := S1.push (o := kla_obj name qual params body scope clos ((mg "__name__").getD .none) c' ctv) (P := (· = kla_obj name qual params body scope clos ((mg "__name__").getD .none) c' ctv)) rfl rfl tk
    refine el25 (S2.freezeAll) fun g' o k e1 e134_ S3 hall => ?_; subst e134_
    have hrec' : g'.CodeRec (.ref c') qual := by
      refine el43 hrec fun c₂ oc vs t e2 hoc hr => ?_; try clear hrec
      cases e2
      exact (in43 c' oc vs t rfl (hall _ _ (Heap.get?_push_of_some _ hoc) (S.notMem hge')) hr)
    exact h g' _ c' ctv _ _ k S3 ((T.le k).snoc (by rw [hq]; exact hrec')) hrec' e1

/-- the same for a def -/
theorem mkDef {name qual : Str} {params : Arguments} {body : List Stmt} {scope : Scope} {clos : List (Str × Addr)} {c P : Addr} {ps : Array Value} {pos : Pos} {firstLine : Nat} {Qn : Int → Int → Str} {Q : Value → Shared → Prop}
    (W : Wf w mg mb g) (S : St x g ((P, (· = tabObj ps)) :: l) s) (C : CodeHd g c P) (T : TabOk g Qn ps)
    (hcl : closureFor scope env = pure clos) (hge : env.globals = mainGlobals) (hcode : env.code = .ref c) (hq : Qn pos.line pos.col = qual)
    (h : ∀ g' f c' ctv doc ps' s', Le g g' → St x g' ((P, (· = tabObj ps')) :: l) s' → TabOk g' Qn ps' → g'.CodeRec (.ref c') qual →
      g'.get? f = some (fnMade name qual params body scope clos doc ((mg "__name__").getD .none) c' ctv) → Q (.ref f) s') :
    wpAny M A (makeFunction name qual params (.stmts body) scope env [] [] [] pos firstLine) Q E s := by
  have hPn := S.out (List.mem_cons_self ..)
  refine el12 (S.get (List.mem_cons_self ..)) fun oP hoP e135_ => ?_; subst e135_
  cases hf : codeAmong pos ps.toList with
  | some cv =>
    refine el12 (T.2 _ _ hf) fun c' e136_ hrec => ?_; subst e136_
    rw [hq] at hrec
    refine makeFunction_hit (mg := mg) hcl hge (W.G.keeps S.keep) hcode (C.keeps S.keep) hoP T.1 hf (W.builtinsAt S.keep hPn) fun ctv doc h' tk hk hsz => ?_
    have S1 := S.ext hk s.toks
    have S2 := S1.push (o := fnMade name qual params body scope clos doc ((mg "__name__").getD .none) c' ctv) (P := (· = fnMade name qual params body scope clos doc ((mg "__name__").getD .none) c' ctv)) rfl rfl tk
    refine el25 (S2.freeze) fun g' o k e1 e137_ _ S3 => ?_; subst e137_
    exact h g' _ c' ctv doc ps _ k S3 (T.le k) (codeRec_le hrec k) e1
  | none =>
    refine makeFunction_K (mg := mg) hcl hge (W.G.keeps S.keep) hcode (C.keeps S.keep) hoP T.1 hf (W.gP hPn) (W.builtinsAt S.keep hPn) fun c' ctv doc h' tk hx hge' hlt' hrec htb => ?_
    have S1 : St x g ((P, (· = tabObj (ps ++ #[rawInt pos.line, rawInt pos.col, .ref c']))) :: l) { s with heap := h', toks := s.toks } := S.upd (P' := (· = tabObj (ps ++ #[rawInt pos.line, rawInt pos.col, .ref c']))) .head (fun b o hb e => hx b o hb e) htb rfl _
    have S2 := S1.push (o := fnMade name qual params body scope clos doc ((mg "__name__").getD .none) c' ctv) (P := (· = fnMade name qual params body scope clos doc ((mg "__name__").getD .none) c' ctv)) rfl rfl tk
    refine el25 (S2.freezeAll) fun g' o k e1 e138_ S3 hall => ?_; subst e138_
    have hrec' : g'.CodeRec (.ref c') qual := by
      refine el43 hrec fun c₂ oc vs t e2 hoc hr => ?_; try clear hrec
      cases e2
      exact (in43 c' oc vs t rfl (hall _ _ (Heap.get?_push_of_some _ hoc) (S.notMem hge')) hr)
    exact h g' _ c' ctv doc _ _ k S3 ((T.le k).snoc (by rw [hq]; exact hrec')) hrec' e1

theorem makeTailT {name qual : Str} {params : Arguments} {body : List Stmt} {scope : Scope} {clos : List (Str × Addr)} {c P : Addr} {ps : Array Value} {pos : Pos} {firstLine : Nat} {Q : Value → Shared → Prop}
    (hcl : closureFor scope env = pure clos) (hge0 : env.globals = mainGlobals) (hg : s.heap.Ns mainGlobals mg) (hcode : env.code = .ref c) (C : CodeHd s.heap c P) (hP : s.heap.get? P = some (tabObj ps)) (ht : TriplesOk ps.toList)
    (hnf : codeAmong pos ps.toList = none) (hgP : mainGlobals ≠ P) (hb : s.heap.BuiltinsAt mg P)
    (h : ∀ c' P' ctv doc h' tk, Heap.ExtBut P s.heap h' → s.heap.objs.size ≤ c' → s.heap.objs.size ≤ P' → h'.CodeRec (.ref c') qual → h'.get? P = some (tabObj (ps ++ #[rawInt pos.line, rawInt pos.col, .ref c'])) →
      CodeHd h' c' P' → h'.get? P' = some (tabObj #[]) →
      Q (.ref h'.objs.size) { s with heap := h'.push (fnMade name qual params body scope clos doc ((mg "__name__").getD .none) c' ctv), toks := tk }) :
    wpAny M A (makeFunction name qual params (.stmts body) scope env [] [] [] pos firstLine) Q E s := by
  rw [makeFunction_eq]
  simp only [List.zip_nil_right, List.filterMap_nil, List.isEmpty_nil, if_true, pure_bind]
  refine el28 hb fun bm ob hbm hne0 _ hneP hbo hcls hdict hdata => ?_; try clear hb
  unfold makeTail
  rw [hcl, hge0]
  refine wpAny_bind (wpAny_pure ?_)
  have T0 : TriplesOk (#[] : Array Value).toList := trivial
  cases clos with
  | nil =>
    simp only [List.isEmpty_nil, if_true]
    refine wpAny_bind (wpAny_pure ?_)
    refine wpAny_bind (wpAny_functionCodeX hcode (C.code hP ht) (C.tab hP) hnf fun c' h' tk hx hge hlt _ hrec htb hq_ => el13 hq_ fun P' hP1 hP2 hP3 => ?_)
    have hg' := hg.extBut hx hgP
    refine wpAny_bind (wpAny_builtinsFor hg' hbm hne0 (hx _ _ hneP hbo) hcls hdict hdata ?_)
    refine wpAny_bind (wpAny_nsGet hg' ?_)
    cases hdoc : docOf body with
    | none => exact wpAny_bind (wpAny_pure (wpAny_newObj_type (h c' P' .none .none h' tk hx hge hP1 hrec htb.2 (CodeHd.of hP2 hP3) hP3.2) (by size_fits)))
    | some t => exact wpAny_bind (wpAny_mkText (wpAny_newObj_type (h c' P' .none _ h' _ hx hge hP1 hrec htb.2 (CodeHd.of hP2 hP3) hP3.2) (by size_fits)))
  | cons q r =>
    simp only [List.isEmpty_cons, Bool.false_eq_true, if_false]
    refine wpAny_bind (wpAny_newTextTuple ?_)
    refine wpAny_bind (wpAny_functionCodeX hcode ((C.keeps fun b o e => Heap.get?_push_of_some _ e).code (Heap.get?_push_of_some _ hP) ht) ((C.keeps fun b o e => Heap.get?_push_of_some _ e).tab (Heap.get?_push_of_some _ hP)) hnf fun c' h' tk hx hge hlt _ hrec htb hq_ => el13 hq_ fun P' hP1 hP2 hP3 => ?_)
    have hg' := (hg.push _).extBut hx hgP
    have hx' : Heap.ExtBut P s.heap h' := fun b o hb' e => hx b o hb' (Heap.get?_push_of_some _ e)
    have hsz : ∀ {k : Nat} {oT : Obj}, (s.heap.push oT).objs.size ≤ k → s.heap.objs.size ≤ k := fun h => Nat.le_trans (by rw [Heap.size_push]; walk_at "om") h
    refine wpAny_bind (wpAny_builtinsFor hg' hbm hne0 (hx' _ _ hneP hbo) hcls hdict hdata ?_)
    refine wpAny_bind (wpAny_nsGet hg' ?_)
    cases hdoc : docOf body with
    | none => exact wpAny_bind (wpAny_pure (wpAny_newObj_type (h c' P' _ .none h' tk hx' (hsz hge) (hsz hP1) hrec htb.2 (CodeHd.of hP2 hP3) hP3.2) (by size_fits)))
    | some t => exact wpAny_bind (wpAny_mkText (wpAny_newObj_type (h c' P' _ _ h' _ hx' (hsz hge) (hsz hP1) hrec htb.2 (CodeHd.of hP2 hP3) hP3.2) (by size_fits)))

/-- a def whose own code will hold codes: its table is owned; the outer table is empty -/
theorem mkDefT {name qual : Str} {params : Arguments} {body : List Stmt} {scope : Scope} {clos : List (Str × Addr)} {c P : Addr} {pos : Pos} {firstLine : Nat} {Q : Value → Shared → Prop}
    (W : Wf w mg mb g) (S : St x g ((P, (· = tabObj #[])) :: l) s) (C : CodeHd g c P)
    (hcl : closureFor scope env = pure clos) (hge : env.globals = mainGlobals) (hcode : env.code = .ref c)
    (h : ∀ g' f c' P' ctv doc ps' s', Le g g' → St x g' ((P', (· = tabObj #[])) :: (P, (· = tabObj ps')) :: l) s' → g'.CodeRec (.ref c') qual → CodeHd g' c' P' →
      g'.get? f = some (fnMade name qual params body scope clos doc ((mg "__name__").getD .none) c' ctv) → Q (.ref f) s') :
    wpAny M A (makeFunction name qual params (.stmts body) scope env [] [] [] pos firstLine) Q E s := by
  have hPn := S.out (List.mem_cons_self ..)
  refine el12 (S.get (List.mem_cons_self ..)) fun oP hoP e139_ => ?_; subst e139_
  refine makeTailT (mg := mg) hcl hge (W.G.keeps S.keep) hcode (C.keeps S.keep) hoP trivial rfl (W.gP hPn) (W.builtinsAt S.keep hPn) fun c' P' ctv doc h' tk hx hge' hP' hrec htb hcd hPt => ?_
  have hPP : P' ≠ P := fun e => by
    have := S.lt (List.mem_cons_self ..)
    rw [e] at hP'; exact absurd this (Nat.not_lt.mpr hP')
  have S1 : St x g ((P, (· = tabObj (#[] ++ #[rawInt pos.line, rawInt pos.col, .ref c']))) :: l) { s with heap := h', toks := s.toks } := S.upd (P' := (· = tabObj (#[] ++ #[rawInt pos.line, rawInt pos.col, .ref c']))) .head (fun b o hb e => hx b o hb e) htb rfl _
  have hnotP : P' ∉ ((P, (· = tabObj (#[] ++ #[rawInt pos.line, rawInt pos.col, .ref c']))) :: l : List Ent).map (·.1) := S.notMem hP'
  have hgP' : g.get? P' = none := by
    cases q : g.get? P' with
    | none => rfl
    | some o => exact absurd (Heap.lt_size (S.keep _ _ q)) (Nat.not_lt.mpr hP')
  have S1' : St x g ((P', (· = tabObj #[])) :: (P, (· = tabObj (#[] ++ #[rawInt pos.line, rawInt pos.col, .ref c']))) :: l) { s with heap := h', toks := s.toks } :=
    ⟨S1.keep, fun p hp => by
      rcases List.mem_cons.mp hp with rfl | hp
      · exact ⟨hgP', (in12 _ hPt rfl)⟩
      · exact S1.own p hp, List.nodup_cons.mpr ⟨hnotP, S1.nodup⟩, S1.gens, S1.os⟩
  have S2 := S1'.push (o := fnMade name qual params body scope clos doc ((mg "__name__").getD .none) c' ctv) (P := (· = fnMade name qual params body scope clos doc ((mg "__name__").getD .none) c' ctv)) rfl rfl tk
  obtain ⟨g', o, k, e1, rfl, S3, hall⟩ := S2.freezeAll
  have hcP : c' ≠ P' := by obtain ⟨_, _, _, _, _, _, _, _, _, _, _, _, _, _, _, _, _, _, ne⟩ := hcd; exact ne
  have hc' : c' ∉ ((P', (· = tabObj #[])) :: (P, (· = tabObj (#[] ++ #[rawInt pos.line, rawInt pos.col, .ref c']))) :: l : List Ent).map (·.1) := fun hm => by
    rcases List.mem_cons.mp hm with e | hm
    · exact hcP e
    · exact S.notMem hge' hm
  have hrec' : g'.CodeRec (.ref c') qual := by
    refine el43 hrec fun c₂ oc vs t e2 hoc hr => ?_; try clear hrec
    cases e2
    exact (in43 c' oc vs t rfl (hall _ _ (Heap.get?_push_of_some _ hoc) hc') hr)
  have hcd' : CodeHd g' c' P' := by
    refine el71 hcd fun o vs file tf flags tg inF z141_ => ?_; try clear hcd; refine el22 z141_ fun text tt e r => ?_; try clear z141_
    exact (in92 o vs file tf flags tg inF text tt (hall _ _ (Heap.get?_push_of_some _ e) hc') r)
  exact h g' _ c' P' ctv doc _ _ k S3 hrec' hcd' e1
end Jr
end
-- JW
section
namespace Jr
open PySem PySem.W PySem.Calls PySem.SeqAt PySem.Builtin PyProof.Rows PySem.Spec
variable {x : Wd} {g : Heap} {l : List Ent} {s : Shared} {E : Value → Shared → Prop} {w : World} {mg mb : Str → Option Value} {A : Around} {env : Env}


/-! the text of a def inside a def, read off the heap -/
noncomputable def bodyOf (w : World) (a : Addr) : List Stmt := match (KK w).lookup a with
  | some o => (match o.data with | .func fd => (match fd.body with | .stmts b => b | _ => []) | _ => [])
  | none => []
def defAt (b : List Stmt) (i : Nat) : Option (Str × Arguments × List Stmt × Scope) := match b[i]? with
  | some (.FunctionDef name args body _ _ _ scope _ _ _) => some (name, args, body, scope)
  | _ => none

/-- the flags -/
def CsP (w : World) (fl : Nat → Option Nat) (o : Obj) : Prop := ∃ f, DN PP w f o ∧ ∀ k, match fl k with
  | none => f k = none
  | some (n : Nat) => ∃ t, f k = some (.int n t)
def live (fl : Nat → Option Nat) (p : Im) : Bool := match fl p.2 with
  | none => false
  | some n => !(Builtin.bitAnd (n : Int) 4 == 4)

theorem cBool {b : Bool} {k : Nat} {pos : Pos} {M : Model} {Q : Value → Shared → Prop} (h : Q (.bool b) s) : wpAny M A (eval (.Constant (.bool b) k pos) env) Q E s := fun _ _ _ => h
theorem subD {value slice : PySem.Expr} {d : Addr} {f : Nat → Option Value} {k : Nat} {t : Tok} {v : Value} {Q : Value → Shared → Prop} (S : St x g l s) (hd : ∃ o, s.heap.get? d = some o ∧ DN PP w f o) (hk : k < 11) (hv : f k = some v)
    (h : ∀ s', St x g l s' → Q v s')
    (hs : subscripted slice false (.ref d) (.bytes (nm k) t) = operate [.ref d, .bytes (nm k) t] (getItem (.ref d) (.bytes (nm k) t)) := by with_unfolding_all rfl) : wpAny (model PP w) A (subscriptTail value slice (.ref d) (.bytes (nm k) t)) Q E s := by
  have hd' := hd
  refine el12 hd' fun o ho hdn => ?_; try clear hd'
  exact PyProof.Rows.tail_any (hdn.map ho).typeIs PySem.slot_dict_getitem.lookup (dcGet S hd ⟨hk, ⟨t, rfl⟩⟩ hv h) hs

theorem paired_of {α β : Type} {F : α → β → Prop} : ∀ {l₁ : List α} {l₂ : List β}, l₁.length = l₂.length → (∀ i (h1 : i < l₁.length) (h2 : i < l₂.length), F l₁[i] l₂[i]) → Paired F l₁ l₂ := by
  intro l₁
  induction l₁ with
  | nil =>
    intro l₂ e _
    cases l₂ with
    | nil => exact .nil
    | cons _ _ => cases e
  | cons a r ih =>
    intro l₂ e h
    cases l₂ with
    | nil => cases e
    | cons b q => exact .cons (h 0 (Nat.zero_lt_succ _) (Nat.zero_lt_succ _)) (ih (Nat.succ.inj e) fun i h1 h2 => h (i + 1) (Nat.succ_lt_succ h1) (Nat.succ_lt_succ h2))
theorem Hq.paired {vs : Array Value} {its : Array Im} (H : Hq g vs its) : Paired (ImV g) its.toList vs.toList :=
  paired_of (by simpa using H.size.symm) fun i h1 h2 => by
    have := H.item i (by simpa using h2) (by simpa using h1)
    simpa using this
theorem St.unfreeze {gf : Heap} {a : Addr} {o : Obj} {P : Obj → Prop} (S : St x gf l s) (k : Le g gf) (ha : gf.get? a = some o) (hP : P o) (hn : g.get? a = none) : St x g ((a, P) :: l) s where
  keep := fun b o e => S.keep _ _ (k _ _ e)
  own := by
    intro p hp
    rcases List.mem_cons.mp hp with rfl | hp
    · exact ⟨hn, (in12 o (S.keep _ _ ha) hP)⟩
    · refine el02 (S.own p hp) fun h1 r => ?_
      refine ⟨?_, r⟩
      cases q : g.get? p.1 with
      | none => rfl
      | some o => have := k _ _ q; rw [h1] at this; cases this
  nodup := by
    refine List.nodup_cons.mpr ⟨fun hm => ?_, S.nodup⟩
    refine el12 (List.mem_map.mp hm) fun p hp e143_ => ?_; subst e143_
    have := (S.own p hp).1
    rw [this] at ha; cases ha
  gens := S.gens
  os := S.os

set_option maxHeartbeats 4000000 in
theorem law_hc {nm' : Str} {prm : Arguments} {bd : List Stmt} {sc : Scope} {f a pq cs dc c' : Addr} {qual : Str} {its : Array Im} {fl : Nat → Option Nat} {doc pm ctv : Value} {t : Tok} {Q : Value → Shared → Prop}
    (W : Wf w mg mb g) (hD : defAt (bodyOf w 90) 6 = some (nm', prm, bd, sc)) (hf : g.get? f = some (fnMade nm' qual prm bd sc [("_DNC", dc)] doc pm c' ctv)) (hrec : g.CodeRec (.ref c') qual) (hdc : Cellz g dc (.int 4 t))
    (S : St x g ((pq, PqP g its) :: (cs, CsP w fl) :: l) s) (hd : A.depth < 850) (hh : A.handled = none) (H : Wl g a pq) (hcs : cs ≠ sysModules)
    (h : ∀ x' s', x'.os = x.os → (AllBare x.gens → AllBare x'.gens) → St x' g ((pq, PqP g its) :: (cs, CsP w fl) :: l) s' → Q (.bool (its.toList.any (live fl))) s') :
    wpAny (model PP w) A (call (.ref f) [.ref a, .ref cs] []) Q E s := by
  have e0 := @_root_.id ((KK w).lookup 90 = some _) rfl
  have e := @_root_.id (defAt (bodyOf w 90) 6 = some _) (by unfold bodyOf; rw [e0]; exact rfl)
  rw [e] at hD
  cases hD
  clear e e0
  refine callFQ0 (args := ⟨[.ref a, .ref cs], []⟩) (binds := [("wlst", .ref a), ("cstates", .ref cs)]) S hf rfl hrec W.lim (by show A.depth < 1000; walk_at "om") (BindsTo.of_eq rfl) ?_
  intro L s₁ S
  dsimp only
  refine stored_cons (stL S rfl rfl (m := fun _ => none) .head fun s₂ S => ?_)
  refine stored_cons (stL S rfl rfl .head fun s₃ S => ?_)
  refine stored_nil ⟨S.keep, ?_⟩
  generalize hA1 : A.deeper _ = A1
  have hh1 : A1.handled = none := by rw [← hA1]; exact hh
  have hd1 : A1.depth < 900 := by rw [← hA1]; show A.depth + 1 < 900; walk_at "om"
  clear hA1
  refine nameXs ?_; intro ev Ax Ex Qx
  refine wpAny_execs_cons (wpAny_For (callMeth rfl rfl rfl ?_))
  refine ldL S rfl rfl (by k_mem) (by walk_at "lk") ?_
  refine el22 (W.fn 77 rfl rfl) fun o77 fd77 h77 h77d => ?_
  refine (in44 a 77 o77 fd77 rfl h77d (wlMeth W S H (by decide) (by kernel_rfl) (by kernel_rfl)) (wpAny_items_nil ⟨S.keep _ _ h77, ?_⟩))
  refine wpAny_call (law_iter W S hd1 fun Lg ga gs s₄ S4 hb hgo => ?_)
  refine el12 (S4.get (List.mem_cons_self ..)) fun og hog z144_ => ?_; refine el23 z144_ fun nmv qnv hg1 hg2 hg3 => ?_; try clear z144_
  refine wpAny_pyIter_gen (g := x.gens.size) (in34 og nmv qnv hog hg1 hg2 hg3) ?_
  obtain ⟨m0, hm0, hm0c⟩ : ∃ m, St ⟨x.gens.push gs, x.os⟩ g ((pq, PqP g its) :: (ga, GenP x.gens.size) :: (Lg, NsP (upd (fun _ => none) "self" (.ref a))) :: (L, NsP m) :: (cs, CsP w fl) :: l) s₄ ∧ m "cstates" = some (.ref cs) :=
    (in12 _ (S4.perm (((List.Perm.swap _ _ _).cons _).cons _ |>.trans (((List.Perm.swap _ _ _).cons _).trans (List.Perm.swap _ _ _)))) (by walk_at "lk"))
  clear S4 S
  refine el25 (hm0.freeze) fun g1 oq k1 eq1 z145_ n1 S5 => ?_; refine el13 z145_ fun vs hvl hq hI => ?_; try clear z145_
  refine el25 (S5.freeze) fun g2 oga k2 ega z146_ _ S6 => ?_; refine el23 z146_ fun nmg qng hga1 hga2 hga3 => ?_; try clear z146_
  have kk : Le g g2 := fun b o e => k2 _ _ (k1 _ _ e)
  have hpq : g2.get? pq = some oq := k2 _ _ eq1
  have B : GBase w mg mb g2 a pq vs.toList its.toList := ⟨W.le kk, H.le kk, (in13 oq hpq (hvl.1) (hvl.2.2)), (hq.le kk).paired⟩
  have hN : its.toList.length = its.size := by simp
  obtain ⟨D, hDd⟩ : ∃ D : Addr → Prop, D = fun b => (∃ o, g2.get? b = some o) ∨ b ∈ ((L, NsP m0) :: (cs, CsP w fl) :: l).map (·.1) := ⟨_, rfl⟩
  have hDLg : ¬ D Lg := by
    rw [hDd]
    rintro (⟨o, h⟩ | h)
    · rw [S6.out (List.mem_cons_self ..)] at h; cases h
    · exact (List.nodup_cons.mp S6.nodup).1 h
  have hLg2 : g2.get? Lg = none := S6.out (List.mem_cons_self ..)
  refine forTurnCode (fun n s' => ∃ i lo gs1 x1 m, i + n = its.size ∧ St x1 g2 (lo ++ (L, NsP m) :: (cs, CsP w fl) :: l) s' ∧ m "cstates" = some (.ref cs) ∧ x1.os = x.os ∧ (AllBare x.gens → AllBare x1.gens) ∧ x1.gens[x.gens.size]? = some gs1 ∧
    (∀ s'', (∀ p ∈ lo, ∃ o, s''.heap.get? p.1 = some o ∧ p.2 o) → GPre D g2 s''.heap → gs1.Goes (model PP w) A1.in1 (GenR D) (GenY D g2 Lg pq its.toList) n (.send .none) s'') ∧
    (∀ j p, j < i → its.toList[j]? = some p → live fl p = false)) ?_ its.size ?_
  · intro n s' hJ2
    refine nameQ ?_; intro Qy
    refine el58 hJ2 fun i lo gs1 x1 m hin S7 hmc hos hbare hgs1 hgoes hprev => ?_; try clear hJ2
    have hal : ∀ b, D b → ∃ o, s'.heap.get? b = some o := fun b hb => by
      rw [hDd] at hb
      rcases hb with ⟨o, hb⟩ | hb
      · exact ⟨o, S7.keep _ _ hb⟩
      · refine el12 (List.mem_map.mp hb) fun p hp e147_ => ?_; subst e147_
        have hm : ∃ q ∈ (lo ++ (L, NsP m) :: (cs, CsP w fl) :: l), q.1 = p.1 := by
          rcases List.mem_cons.mp hp with rfl | hp
          · exact (in12 (L, NsP m) (by simp) rfl)
          · exact ⟨p, by simp at hp ⊢; exact .inr (.inr hp), rfl⟩
        refine el12 hm fun q hq e => ?_; try clear hm
        refine el02 (S7.own q hq) fun _ z148_ => ?_; refine el12 z148_ fun o h1 _ => ?_; try clear z148_
        exact ⟨o, e ▸ h1⟩
    refine pyNextGen (g := x.gens.size) (n := n) (P := fun n s₀ s₁ => Keeps D s₀ s₁ ∧ n = 0) (Y := GenY D g2 Lg pq its.toList) hh1 (W.lim.keeps fun b o e => S7.keep _ _ (kk _ _ e)) (by show A1.depth < 1000; walk_at "om")
      (in34 oga nmg qng (S7.keep _ _ ega) hga1 hga2 hga3) (by rw [S7.gens]; exact hgs1) (hgoes _ (fun p hp => (S7.own p (List.mem_append_left _ hp)).2) ⟨S7.keep, hal⟩) ?_ ?_
    · intro v s₁ gs' hb' hJ4
      refine nameQ ?_; intro Qz
      refine el02 hJ4 fun z149_ z150_ => ?_; try clear hJ4; refine el03 z149_ fun hk1 hk2 hk3 => ?_; try clear z149_; refine el69 z150_ fun it tt o p u nv e151_ hDt htL htit hot htup hp z152_ z153_ => ?_; try clear z150_; subst e151_; refine el11 z152_ fun tu e154_ => ?_; try clear z152_; subst e154_; refine el05 z153_ fun z155_ hDit hitL z156_ hkap => ?_; try clear z153_; refine el02 z155_ fun hkp z157_ => ?_; try clear z155_; refine el11 z157_ fun tn e158_ => ?_; try clear z157_; subst e158_; refine el24 z156_ fun oi om ho1 ho2 ho3 z159_ => ?_; try clear z156_; refine el11 z159_ fun m4 ho4 => ?_; try clear z159_
      have hg2D : ∀ b o, g2.get? b = some o → s₁.heap.get? b = some o := fun b o e => hk1 b o (by rw [hDd]; exact .inl ⟨o, e⟩) (S7.keep _ _ e)
      have hpre : GPre D g2 s₁.heap := ⟨hg2D, fun b hb => let ⟨o, e⟩ := hal b hb; ⟨o, hk1 b o hb e⟩⟩
      have hnD : ∀ {b}, ¬ D b → g2.get? b = none := fun {b} hb => by
        cases q : g2.get? b with
        | none => rfl
        | some o => exact absurd (by rw [hDd]; exact .inl ⟨o, q⟩) hb
      have hnL : ∀ {b}, ¬ D b → b ∉ ((L, NsP m) :: (cs, CsP w fl) :: l).map (·.1) := fun {b} hb hm => hb (by rw [hDd]; exact .inr hm)
      cases n with
      | zero => exact (hkap s₁ hpre (in24 oi om ho1 ho2 ho3 ⟨m4, ho4⟩)).elim
      | succ n =>
        simp only [Nat.add_sub_cancel] at hp ho2 hkap
        have hnd := (List.nodup_append.mp (by rw [← List.map_append]; exact S7.nodup : (lo.map (·.1) ++ ((L, NsP m) :: (cs, CsP w fl) :: l).map (·.1)).Nodup)).2.1
        have S8 : St ⟨(x1.gens.setIfInBounds x.gens.size .running).setIfInBounds x.gens.size gs', x1.os⟩ g2 ((tt, TupP [.int (-p.1) tu, .bytes (nm p.2) tn]) :: (it, LIterP pq (its.toList.length - n)) :: (Lg, NsA) :: (L, NsP m) :: (cs, CsP w fl) :: l) (s₁.setGen x.gens.size gs') := by
          refine ⟨hg2D, fun q hq => ?_, ?_, ?_, ?_⟩
          · rcases List.mem_cons.mp hq with rfl | hq
            · exact ⟨hnD hDt, (in12 o hot htup)⟩
            rcases List.mem_cons.mp hq with rfl | hq
            · exact ⟨hnD hDit, (in12 oi ho1 ho2)⟩
            rcases List.mem_cons.mp hq with rfl | hq
            · exact ⟨hLg2, (in12 om ho3 ⟨m4, ho4⟩)⟩
            · refine el02 (S7.own q (List.mem_append_right _ hq)) fun z1 z160_ => ?_; refine el12 z160_ fun z2 z3 z4 => ?_; try clear z160_
              exact ⟨z1, (in12 z2 (hk1 _ _ (by rw [hDd]; exact .inr (show q.1 ∈ L :: cs :: l.map (·.1) from List.mem_map_of_mem (f := Prod.fst) hq)) z3) z4)⟩
          · simp only [List.map_cons, List.nodup_cons, List.mem_cons, not_or] at hnd ⊢
            have a1 := hnL hDt
            have a2 := hnL hDit
            have a3 := hnL hDLg
            simp only [List.map_cons, List.mem_cons, not_or] at a1 a2 a3
            exact (in04 (in03 htit htL a1) ⟨hitL, a2⟩ a3 hnd)
          · show s₁.gens.setIfInBounds _ _ = _
            rw [hk2]; show (s'.gens.setIfInBounds _ _).setIfInBounds _ _ = _; rw [S7.gens]
          · show s₁.os = _
            rw [hk3]; exact S7.os
        have hx1 : AllBare x.gens → AllBare ((x1.gens.setIfInBounds x.gens.size .running).setIfInBounds x.gens.size gs') := fun hb0 y hy => by
          rcases Array.mem_or_eq_of_mem_setIfInBounds hy with hy | rfl
          · rcases Array.mem_or_eq_of_mem_setIfInBounds hy with hy | rfl
            · exact hbare hb0 y hy
            · rfl
          · exact hb'
        refine letOwned (S8.keep _ _ ega) hga1 hga2 (by decide) ?_
        refine el12 (S8.get (List.mem_cons_self ..)) fun ot8 hot8 htup8 => ?_
        refine unpack2 S8 (.inl hh1) ⟨ot8, hot8, htup8.1, htup8.2.2⟩ rfl fun s₉ S9 => ?_
        refine wpAny_assign_Name (stL S9 rfl rfl (.tail (.tail (.tail .head))) fun s₁₀ S10 => ?_)
        refine wpAny_assign_Name (stL S10 rfl rfl (.tail (.tail (.tail .head))) fun s₁₁ S11 => ?_)
        refine nameQ ?_; intro Qw
        refine wpAny_execs_cons (wpAny_If (wpAny_isTrue_Compare1 ?_))
        refine ldL S11 rfl rfl (by k_mem) (by walk_at "lk") ?_
        refine ldL S11 rfl rfl (by k_mem) (by walk_at "lk") ?_
        refine el12 (S11.get (a := cs) (P := CsP w fl) (by k_mem)) fun oc hoc z161_ => ?_; refine el12 z161_ fun fv hdn hrel => ?_; try clear z161_
        refine dcIn S11 ⟨oc, hoc, hdn⟩ hcs ⟨hkp, tn, rfl⟩ fun s₁₂ S12 => wpAny_truthy_bool ?_
        have ei : its.toList.length - n = i + 1 := by walk_at "om"
        have ep : its.toList.length - n - 1 = i := by walk_at "om"
        rw [ep] at hp
        rw [ei] at S12 hkap
        have hg' : ∀ s'', (∀ q ∈ [(it, LIterP pq (i + 1)), (Lg, NsA)], ∃ o, s''.heap.get? q.1 = some o ∧ q.2 o) → GPre D g2 s''.heap → gs'.Goes (model PP w) A1.in1 (GenR D) (GenY D g2 Lg pq its.toList) n (.send .none) s'' := fun s'' hlo P => by
          refine el12 (hlo (it, LIterP pq (i + 1)) (by simp)) fun o1 h1 h2 => ?_
          refine el12 (hlo (Lg, NsA) (by simp)) fun o2 h3 h4 => ?_
          exact hkap s'' P (in24 o1 o2 h1 h2 h3 h4)
        have hprev' : live fl p = false → ∀ j q, j < i + 1 → its.toList[j]? = some q → live fl q = false := fun hl j q hj hq => by
          by_cases e : j = i
          · subst e; rw [hp] at hq; cases hq; exact hl
          · exact hprev j q (by walk_at "om") hq
        have hset : ((x1.gens.setIfInBounds x.gens.size .running).setIfInBounds x.gens.size gs')[x.gens.size]? = some gs' := by
          have := (Array.getElem?_eq_some_iff.mp hgs1).1
          simp [this]
        have hr := hrel p.2
        cases hfl : fl p.2 with
        | none =>
          rw [hfl] at hr
          simp only at hr
          rw [hr, if_neg (by simp)]
          refine wpAny_execs_nil (wpAny_execs_nil ?_)
          exact (in12 n (by walk_at "om") (in58 (i + 1) ([(it, LIterP pq (i + 1)), (Lg, NsA)]) gs' _ _ (by walk_at "om") (S12.drop) (by walk_at "lk") hos hx1 hset hg' (hprev' (by unfold live; rw [hfl]))))
        | some fn =>
          rw [hfl] at hr
          refine el11 hr fun tf hr => ?_
          rw [hr, if_pos (by simp)]
          refine wpAny_execs_cons (wpAny_If (wpAny_isTrue_Not (wpAny_isTrue_Compare1 (wpAny_BinOp (subs ?_)))))
          refine ldL S12 rfl rfl (by k_mem) (by walk_at "lk") ?_
          refine ldL S12 rfl rfl (by k_mem) (by walk_at "lk") ?_
          refine el12 (S12.get (a := cs) (P := CsP w fl) (by k_mem)) fun oc' hoc' z162_ => ?_; refine el12 z162_ fun fv' hdn' hrel' => ?_; try clear z162_
          have hr' := hrel' p.2
          rw [hfl] at hr'
          refine el11 hr' fun tf' hr' => ?_
          refine subD S12 ⟨oc', hoc', hdn'⟩ hkp hr' fun s₁₃ S13 => ?_
          refine ldZ S13 (.inr rfl) rfl rfl (hdc.le kk) ?_
          refine oAnd S13 fun t9 s₁₄ S14 => ?_
          refine ldZ S14 (.inr rfl) rfl rfl (hdc.le kk) (oEq (wpAny_truthy_bool ?_))
          cases hl : Builtin.bitAnd (fn : Int) 4 == 4 with
          | true =>
            rw [if_neg (by simp)]
            refine wpAny_execs_nil (wpAny_execs_nil (wpAny_execs_nil ?_))
            exact (in12 n (by walk_at "om") (in58 (i + 1) ([(it, LIterP pq (i + 1)), (Lg, NsA)]) gs' _ _ (by walk_at "om") (S14.drop) (by walk_at "lk") hos hx1 hset hg' (hprev' (by unfold live; rw [hfl]; simp only; rw [hl]; rfl))))
          | false =>
            rw [if_pos (by simp)]
            have hany : its.toList.any (live fl) = true := List.any_eq_true.mpr (in12 p (List.mem_of_getElem? hp) (by unfold live; rw [hfl]; simp only; rw [hl]; rfl))
            rw [hany] at h
            refine wpAny_execs_cons (wpAny_Return_some (cBool ?_))
            exact h ⟨(x1.gens.setIfInBounds x.gens.size .running).setIfInBounds x.gens.size gs', x1.os⟩ _ hos hx1 (St.unfreeze (P := PqP g its) S14.drop.drop.drop.drop kk hpq (in13 vs hvl hq hI) n1)
    · intro s₁ hq_ h' hext
      refine el02 hq_ fun hz_ hn0 => ?_; refine el03 hz_ fun hk1 hk2 hk3 => ?_; clear hq_ hz_
      have hnone : its.toList.any (live fl) = false := by
        rw [List.any_eq_false]
        intro p hp
        refine el11 (List.mem_iff_getElem.mp hp) fun j z163_ => ?_; refine el11 z163_ fun hj e164_ => ?_; try clear z163_; subst e164_
        have := hprev j _ (by simp at hj; walk_at "om") (List.getElem?_eq_getElem hj)
        rw [this]; decide
      rw [hnone] at h
      have hnd := (List.nodup_append.mp (by rw [← List.map_append]; exact S7.nodup : (lo.map (·.1) ++ ((L, NsP m) :: (cs, CsP w fl) :: l).map (·.1)).Nodup)).2.1
      have S8 : St ⟨(x1.gens.setIfInBounds x.gens.size .running).setIfInBounds x.gens.size .finished, x1.os⟩ g2 ((L, NsP m) :: (cs, CsP w fl) :: l) { s₁.setGen x.gens.size .finished with heap := h' } := by
        refine ⟨fun b o e => hext _ _ (hk1 b o (by rw [hDd]; exact .inl ⟨o, e⟩) (S7.keep _ _ e)), fun q hq => ?_, hnd, ?_, ?_⟩
        · refine el02 (S7.own q (List.mem_append_right _ hq)) fun z1 z165_ => ?_; refine el12 z165_ fun z2 z3 z4 => ?_; try clear z165_
          exact ⟨z1, (in12 z2 (hext _ _ (hk1 _ _ (by rw [hDd]; exact .inr (show q.1 ∈ L :: cs :: l.map (·.1) from List.mem_map_of_mem (f := Prod.fst) hq)) z3)) z4)⟩
        · show s₁.gens.setIfInBounds _ _ = _
          rw [hk2]; show (s'.gens.setIfInBounds _ _).setIfInBounds _ _ = _; rw [S7.gens]
        · show s₁.os = _
          rw [hk3]; exact S7.os
      have hx1 : AllBare x.gens → AllBare ((x1.gens.setIfInBounds x.gens.size .running).setIfInBounds x.gens.size .finished) := fun hb0 y hy => by
        rcases Array.mem_or_eq_of_mem_setIfInBounds hy with hy | rfl
        · rcases Array.mem_or_eq_of_mem_setIfInBounds hy with hy | rfl
          · exact hbare hb0 y hy
          · rfl
        · rfl
      refine wpAny_execs_cons (wpAny_Return_some (cBool ?_))
      exact h ⟨(x1.gens.setIfInBounds x.gens.size .running).setIfInBounds x.gens.size .finished, x1.os⟩ _ hos hx1 (St.unfreeze (P := PqP g its) S8.drop kk hpq (in13 vs hvl hq hI) n1)
  · refine (in58 0 ([(Lg, NsP (upd (fun _ => none) "self" (.ref a)))]) gs ⟨x.gens.push gs, x.os⟩ m0 (by walk_at "om") S6 hm0c rfl (fun hb0 => hb0.push hb) (by simp) (fun s'' hlo P => ?_) (fun j p hj => absurd hj (by walk_at "om")))
    refine el12 (hlo _ (List.mem_cons_self ..)) fun om h1 h2 => ?_
    rw [← hN]; exact hgo A1.in1 D g2 pq vs.toList its.toList s'' hh1 (by show A1.depth < 950; walk_at "om") B P hDLg hLg2 (in12 om h1 h2)
end Jr
end
-- JX
section
namespace Jr
open PySem PySem.W PySem.Calls PySem.SeqAt PySem.Builtin PyProof.Rows PySem.Spec
variable {x : Wd} {g : Heap} {l : List Ent} {s : Shared} {E : Value → Shared → Prop} {w : World} {mg mb : Str → Option Value} {A : Around} {env : Env}

/-! try, except KeyError -/
def inHandler (w : World) (A : Around) (env : Env) (e : Addr) (E : Value → Shared → Prop) : Value → Shared → Prop := notedBy (model PP w) (A.mark (some (.ref e))) env (cameBackBy (model PP w) A env E)
theorem rethrow {e T L : Addr} {cls : Value} {pos : Pos} {Q : Flow → Shared → Prop} (S : St x g ((T, TbP .none) :: (e, ExcP cls (.ref T)) :: l) s) (hf : env.frame = some L)
    (h : ∀ s', St x g ((T, TbP (rawInt L)) :: (e, ExcP cls (.ref T)) :: l) s' → E (.ref e) s') : wpAny (model PP w) (A.mark (some (.ref e))) (exec (.Raise none none pos) env) Q (inHandler w A env e E) s := by
  rw [arm_exec_Raise]
  refine wpAny_bind (wpAny_standAt ?_)
  show wpAny _ _ (raiseStmt env none none) _ _ _
  unfold raiseStmt
  refine wpAny_bind (wpAny_handled ?_)
  show wpAny _ _ (rule "raise.bare" >>= fun _ => field (.ref e) 1 >>= fun tb => _) _ _ _
  refine wpAny_bind (wpAny_rule (wpAny_bind (getFd S (.tail _ (.head _)) (fun o ho => excP_tb ho) ?_)))
  rw [if_neg (by simp)]
  refine wpAny_bind (flight (f := env.frame) S fun s' S' => wpAny_throw ?_)
  rw [hf] at S'
  unfold inHandler
  exact notedAgain S' hf (cameBack S' hf h)

theorem sub_key_base : isSubtype (.type "KeyError") (.type "BaseException") = pure true := by rw [isSubtype_type]; kernel_rfl
theorem sub_key_key : isSubtype (.type "KeyError") (.type "KeyError") = pure true := by rw [isSubtype_type]; kernel_rfl
theorem meta_key : isSubtype (.type ((Manifest.find? "KeyError").elim "type" fun x => x.metatype)) (.type "tuple") = pure false := by
  have e : ((Manifest.find? "KeyError").elim "type" fun x => x.metatype) = "type" := by decide +kernel
  rw [e, isSubtype_type]; kernel_rfl

theorem tryKey {body suite : List Stmt} {b₀ : Stmt} {p1 hpos pos : Pos} {L : Addr} {Q : Flow → Shared → Prop} (hfr : ∃ outer, A.frames = some (env :: outer)) (hf : env.frame = some L)
    (hk : env.kindOf "KeyError" = some .globalImplicit) (hkind : env.scope.kind = .function) (hgl : env.globals = mainGlobals) (hbu : env.builtins = builtinsNs)
    (h : wpAny (model PP w) A (execs body env) Q (fun ev s₁ => ∃ e T x₁ g₁ l₁, ev = .ref e ∧ Wf w mg mb g₁ ∧ St x₁ g₁ ((T, TbP .none) :: (e, ExcP (.type "KeyError") (.ref T)) :: l₁) s₁ ∧ FrOk A.frames l₁ ∧
      ∀ T' s₂, St x₁ g₁ ((T', TbP .none) :: (e, ExcP (.type "KeyError") (.ref T')) :: l₁) s₂ → wpAny (model PP w) (A.mark (some (.ref e))) (execs (b₀ :: suite) env) Q (inHandler w A env e E) s₂) s) :
    wpAny (model PP w) A (exec (.Try body [.ExceptHandler (some (.Name "KeyError" p1)) none (b₀ :: suite) hpos] [] [] pos) env) Q E s := by
  refine wpAny_Try_except (wpAny_mono h (fun f s₁ h₁ => ?_) fun ev s₁ h₁ => ?_)
  · cases f <;> first | exact wpAny_execs_nil h₁ | exact h₁
  · refine el55 h₁ fun e T x₁ g₁ l₁ e142_ W S hF hh => ?_; try clear h₁; subst e142_
    refine noteOn S hF hfr hf fun T' s₂ S2 => flight (f := none) S2 fun s₃ S3 => ?_
    refine wpAny_handleBy_builtin (X := "KeyError") (T := "KeyError") (b := true) sub_key_base meta_key sub_key_key ?_
    refine ldBW W S3 hk hkind hgl hbu (by kernel_rfl) (by boot_fast) ?_
    refine el13 (S3.get (a := e) (P := ExcP (.type "KeyError") (.ref T')) (.tail _ (.head _))) fun o ho hc _ => ?_
    refine ⟨rfl, ⟨o, ho, hc⟩, ?_⟩
    rw [if_pos rfl]
    exact flight (f := none) S3 fun s₄ S4 => hh T' s₄ S4
end Jr
end
-- JY
section
namespace Jr
open PySem

/-! the search, without a program -/
abbrev Fl := Nat → Option Nat
def addF (fl : Fl) (k c : Nat) : Fl := fun j => if j = k then some c else fl j
def pstep (tm : Nat → Option Int) (mn : Int) (cf : Nat) (st : Fl × List Im) (p : Nat) : Fl × List Im :=
  if ((st.1 p).getD 0) &&& cf = cf then st else match tm p with
    | none => st
    | some t => if t < mn then st else (addF st.1 p (((st.1 p).getD 0) ||| cf), (-t, p) :: st.2)
def cfOf (f0 : Nat) : Nat := if f0 &&& 7 = 3 then 7 else f0 &&& 7
def isNew (f0 : Nat) : Bool := f0 &&& 7 == 3 && !(f0 &&& 8 == 8)
def markF (fl : Fl) (k f0 : Nat) : Fl := if isNew f0 = true then addF fl k (f0 ||| 8) else fl
def candF (cs : List Im) (t : Int) (k f0 : Nat) : List Im := if isNew f0 = true then cs ++ [(t, k)] else cs
def stepF (pr : Nat → Option (List Nat)) (tm : Nat → Option Int) (mn : Int) (fl : Fl) (q : List Im) (cs : List Im) (p : Im) : Fl × List Im × List Im :=
  let f0 := (fl p.2).getD 0
  let st := ((pr p.2).getD []).foldl (pstep tm mn (cfOf f0)) (markF fl p.2 f0, q)
  (st.1, st.2, candF cs (-p.1) p.2 f0)

/-- what always holds -/
structure Ok (fl : Fl) (q : List Im) : Prop where
  q : ∀ p ∈ q, p.2 < 11 ∧ fl p.2 ≠ none
  b : ∀ k n, fl k = some n → n < 16
  k : ∀ k, 11 ≤ k → fl k = none
structure OkC (fl : Fl) (cs : List Im) : Prop where
  n : (cs.map (·.2)).Nodup
  m : ∀ c ∈ cs, c.2 < 11 ∧ ∃ n, fl c.2 = some n ∧ n &&& 8 = 8
theorem Ok.perm {fl : Fl} {q q' : List Im} (h : Ok fl q) (p : q.Perm q') : Ok fl q' := ⟨fun r hr => h.q r (p.mem_iff.mpr hr), h.b, h.k⟩
theorem lt16 : ∀ a < 16, ∀ b < 16, (a ||| b : Nat) < 16 := by decide +kernel
theorem and7 : ∀ a < 16, cfOf a < 8 := by decide +kernel
theorem or8 : ∀ a < 16, ∀ b < 8, (a ||| b : Nat) &&& 8 = a &&& 8 := by decide +kernel
theorem getD_lt {fl : Fl} (h : ∀ k n, fl k = some n → n < 16) (k : Nat) : (fl k).getD 0 < 16 := by
  cases e : fl k with
  | none => decide
  | some n => exact h k n e

theorem Ok.pstep {tm : Nat → Option Int} {mn : Int} {cf : Nat} {st : Fl × List Im} {p : Nat} (h : Ok st.1 st.2) (hcf : cf < 8) (hp : p < 11) : Ok (pstep tm mn cf st p).1 (pstep tm mn cf st p).2 := by
  unfold Jr.pstep
  split
  · exact h
  · split
    · exact h
    · split
      · exact h
      · refine ⟨fun r hr => ?_, fun k n e => ?_, fun k hk => ?_⟩
        · rcases List.mem_cons.mp hr with rfl | hr
          · exact ⟨hp, by simp [addF]⟩
          · refine ⟨(h.q r hr).1, ?_⟩
            unfold addF
            simp only
            split
            · simp
            · exact (h.q r hr).2
        · unfold addF at e
          simp only at e
          split at e
          · cases e; exact lt16 _ (getD_lt h.b p) _ (by walk_at "om")
          · exact h.b k n e
        · have : k ≠ p := by walk_at "om"
          simp only [addF, if_neg this]; exact h.k k hk

/-! it ends -/
def mb (o : Option Nat) : Nat := 3 - ((o.getD 0) % 2 + (o.getD 0) / 2 % 2 + (o.getD 0) / 4 % 2)
def sumB (fl : Fl) : Nat := ((List.range 11).map fun k => mb (fl k)).sum
def mu (fl : Fl) (q : List Im) : Nat := 2 * sumB fl + q.length
theorem sum_upd (f g : Nat → Nat) (p : Nat) (h : ∀ k, k ≠ p → g k = f k) : ∀ n, p < n → ((List.range n).map g).sum + f p = ((List.range n).map f).sum + g p := by
  intro n
  induction n with
  | zero => exact fun hp => absurd hp (Nat.not_lt_zero _)
  | succ n ih =>
    intro hp
    rw [List.range_succ, List.map_append, List.map_append, List.sum_append, List.sum_append]
    simp only [List.map_cons, List.map_nil, List.sum_cons, List.sum_nil, Nat.add_zero]
    by_cases e : p = n
    · subst e
      have : (List.range p).map g = (List.range p).map f := List.map_congr_left fun k hk => h k (by have := List.mem_range.mp hk; walk_at "om")
      rw [this]; walk_at "om"
    · have := ih (by walk_at "om")
      have := h n (Ne.symm e)
      walk_at "om"
theorem sumB_add {fl : Fl} {k c : Nat} (hk : k < 11) : sumB (addF fl k c) + mb (fl k) = sumB fl + mb (some c) := by
  have := sum_upd (fun j => mb (fl j)) (fun j => mb (addF fl k c j)) k (fun j hj => by simp [addF, hj]) 11 hk
  have e : mb (addF fl k c k) = mb (some c) := by simp [addF]
  rw [e] at this
  exact this
theorem mb_lt : ∀ a < 16, ∀ c < 8, ¬ (a &&& c = c) → mb (some (a ||| c)) + 1 ≤ mb (some a) := by decide +kernel
theorem mb_getD (o : Option Nat) : mb o = mb (some (o.getD 0)) := by cases o <;> rfl
theorem mb_or8 : ∀ a < 16, mb (some (a ||| 8)) = mb (some a) := by decide +kernel
theorem mu_pstep {tm : Nat → Option Int} {mn : Int} {cf : Nat} {st : Fl × List Im} {p : Nat} (h : Ok st.1 st.2) (hcf : cf < 8) (hp : p < 11) : mu (pstep tm mn cf st p).1 (pstep tm mn cf st p).2 ≤ mu st.1 st.2 := by
  unfold Jr.pstep
  split
  · exact Nat.le_refl _
  · rename_i hne
    split
    · exact Nat.le_refl _
    · split
      · exact Nat.le_refl _
      · unfold mu
        have h1 := sumB_add (fl := st.1) (k := p) (c := ((st.1 p).getD 0) ||| cf) hp
        have h2 := mb_lt _ (getD_lt h.b p) cf hcf hne
        rw [mb_getD (st.1 p)] at h1
        simp only [List.length_cons]
        walk_at "om"
theorem foldl_ok {tm : Nat → Option Int} {mn : Int} {cf : Nat} (hcf : cf < 8) : ∀ (ps : List Nat) (st : Fl × List Im), (∀ p ∈ ps, p < 11) → Ok st.1 st.2 →
    Ok (ps.foldl (pstep tm mn cf) st).1 (ps.foldl (pstep tm mn cf) st).2 ∧ mu (ps.foldl (pstep tm mn cf) st).1 (ps.foldl (pstep tm mn cf) st).2 ≤ mu st.1 st.2
  | [], st, _, h => ⟨h, Nat.le_refl _⟩
  | p :: ps, st, hp, h => by
    have h1 := h.pstep (tm := tm) (mn := mn) hcf (hp p (List.mem_cons_self ..))
    have h2 := mu_pstep (tm := tm) (mn := mn) h hcf (hp p (List.mem_cons_self ..))
    obtain ⟨a, b⟩ := foldl_ok hcf ps (pstep tm mn cf st p) (fun r hr => hp r (List.mem_cons_of_mem _ hr)) h1
    exact ⟨a, Nat.le_trans b h2⟩
theorem Ok.mark {fl : Fl} {q : List Im} {k : Nat} (h : Ok fl q) (hk : k < 11) : Ok (markF fl k ((fl k).getD 0)) q ∧ mu (markF fl k ((fl k).getD 0)) q = mu fl q := by
  unfold markF
  split
  · refine ⟨⟨fun r hr => ⟨(h.q r hr).1, ?_⟩, fun j n e => ?_, fun j hj => ?_⟩, ?_⟩
    · unfold addF; split
      · simp
      · exact (h.q r hr).2
    · unfold addF at e
      split at e
      · cases e; exact lt16 _ (getD_lt h.b k) _ (by decide)
      · exact h.b j n e
    · have : j ≠ k := by walk_at "om"
      simp only [addF, if_neg this]; exact h.k j hj
    · unfold mu
      have h1 := sumB_add (fl := fl) (k := k) (c := ((fl k).getD 0) ||| 8) hk
      rw [mb_or8 _ (getD_lt h.b k), ← mb_getD] at h1
      walk_at "om"
  · exact ⟨h, rfl⟩
theorem step_ok {pr : Nat → Option (List Nat)} {tm : Nat → Option Int} {mn : Int} {fl : Fl} {q cs : List Im} {p : Im} (h : Ok fl (p :: q)) (hpr : ∀ k ps, pr k = some ps → ∀ r ∈ ps, r < 11) :
    Ok (stepF pr tm mn fl q cs p).1 (stepF pr tm mn fl q cs p).2.1 ∧ mu (stepF pr tm mn fl q cs p).1 (stepF pr tm mn fl q cs p).2.1 < mu fl (p :: q) := by
  have hq : Ok fl q := ⟨fun r hr => h.q r (List.mem_cons_of_mem _ hr), h.b, h.k⟩
  have hp := h.q p (List.mem_cons_self ..)
  refine el02 (hq.mark hp.1) fun h1 h2 => ?_
  have hps : ∀ r ∈ (pr p.2).getD [], r < 11 := fun r hr => by
    cases e : pr p.2 with
    | none => rw [e] at hr; simp at hr
    | some ps => rw [e] at hr; exact hpr _ _ e r hr
  refine el02 (foldl_ok (tm := tm) (mn := mn) (and7 _ (getD_lt h.b p.2)) _ (markF fl p.2 ((fl p.2).getD 0), q) hps h1) fun a b => ?_
  refine ⟨a, Nat.lt_of_le_of_lt b ?_⟩
  rw [h2]; unfold mu; simp only [List.length_cons]; walk_at "om"

theorem or8' : ∀ a < 16, (a ||| 8 : Nat) &&& 8 = 8 := by decide +kernel
theorem OkC.addF {fl : Fl} {cs : List Im} {k c : Nat} (h : OkC fl cs) (hc : (fl k).getD 0 &&& 8 = 8 → c &&& 8 = 8) : OkC (addF fl k c) cs where
  n := h.n
  m := fun r hr => by
    refine el02 (h.m r hr) fun a z166_ => ?_; refine el12 z166_ fun n e b => ?_; try clear z166_
    refine ⟨a, ?_⟩
    unfold Jr.addF
    by_cases q : r.2 = k
    · rw [if_pos q]; exact ⟨c, rfl, hc (by rw [← q, e]; exact b)⟩
    · rw [if_neg q]; exact ⟨n, e, b⟩
theorem OkC.pstep {tm : Nat → Option Int} {mn : Int} {cf : Nat} {st : Fl × List Im} {p : Nat} {cs : List Im} (h : OkC st.1 cs) (hb : ∀ k n, st.1 k = some n → n < 16) (hcf : cf < 8) : OkC (pstep tm mn cf st p).1 cs := by
  unfold Jr.pstep
  split
  · exact h
  · split
    · exact h
    · split
      · exact h
      · exact h.addF fun e => by rw [or8 _ (getD_lt hb p) _ hcf]; exact e
theorem OkC.foldl {tm : Nat → Option Int} {mn : Int} {cf : Nat} {cs : List Im} (hcf : cf < 8) : ∀ (ps : List Nat) (st : Fl × List Im), (∀ p ∈ ps, p < 11) → Ok st.1 st.2 → OkC st.1 cs → OkC (ps.foldl (Jr.pstep tm mn cf) st).1 cs := by
  intro ps
  induction ps with
  | nil => exact fun _ _ _ h => h
  | cons p ps ih => exact fun st hp hk h => ih _ (fun r hr => hp r (List.mem_cons_of_mem _ hr)) (hk.pstep hcf (hp p (List.mem_cons_self ..))) (h.pstep hk.b hcf)
theorem OkC.step {pr : Nat → Option (List Nat)} {tm : Nat → Option Int} {mn : Int} {fl : Fl} {q cs : List Im} {p : Im} (h : Ok fl (p :: q)) (hc : OkC fl cs) (hpr : ∀ k ps, pr k = some ps → ∀ r ∈ ps, r < 11) :
    OkC (stepF pr tm mn fl q cs p).1 (stepF pr tm mn fl q cs p).2.2 := by
  have hq : Ok fl q := ⟨fun r hr => h.q r (List.mem_cons_of_mem _ hr), h.b, h.k⟩
  have hp := h.q p (List.mem_cons_self ..)
  refine el02 (hq.mark hp.1) fun h1 h2 => ?_
  have hps : ∀ r ∈ (pr p.2).getD [], r < 11 := fun r hr => by
    cases e : pr p.2 with
    | none => rw [e] at hr; simp at hr
    | some ps => rw [e] at hr; exact hpr _ _ e r hr
  refine OkC.foldl (and7 _ (getD_lt h.b p.2)) _ _ hps h1 ?_
  show OkC (markF fl p.2 ((fl p.2).getD 0)) (candF cs (-p.1) p.2 ((fl p.2).getD 0))
  unfold markF candF
  by_cases hn : isNew ((fl p.2).getD 0) = true
  · rw [if_pos hn, if_pos hn]
    have h8 : ¬ ((fl p.2).getD 0 &&& 8 = 8) := by
      unfold isNew at hn; simp at hn; exact hn.2
    have ha := hc.addF (k := p.2) (c := (fl p.2).getD 0 ||| 8) fun _ => or8' _ (getD_lt h.b p.2)
    refine ⟨?_, fun r hr => ?_⟩
    · rw [List.map_append, List.nodup_append]
      refine ⟨hc.n, by simp, fun a ha' b hb' => ?_⟩
      simp at hb'
      subst hb'
      intro e
      subst e
      refine el12 (List.mem_map.mp ha') fun r hr e => ?_
      refine el02 (hc.m r hr) fun _ z167_ => ?_; refine el12 z167_ fun n e2 e3 => ?_; try clear z167_
      rw [e] at e2
      rw [e2] at h8
      exact h8 e3
    · rcases List.mem_append.mp hr with hr | hr
      · exact ha.m r hr
      · simp at hr; subst hr
        exact ⟨hp.1, _, by simp [Jr.addF], or8' _ (getD_lt h.b p.2)⟩
  · rw [if_neg hn, if_neg hn]; exact hc
end Jr
end
-- JZ
section
namespace Jr
open PySem PySem.W PySem.Calls PySem.SeqAt PySem.Builtin PyProof.Rows PySem.Spec
variable {x : Wd} {g : Heap} {l : List Ent} {s : Shared} {E : Value → Shared → Prop} {w : World} {mg mb : Str → Option Value} {A : Around} {env : Env}


theorem whileX {prog : Program} {test : PySem.Expr} {body : List Stmt} {env : Env} {pos : Pos} {Q : Flow → Shared → Prop} (J : Nat → Wd → Heap → List Ent → Prop) {n : Nat}
    (S : St x g l s) (hE : Pass (model prog w) A env E) (h0 : J n x g l)
    (turn : ∀ n x' g' l' s', Le g g' → J n x' g' l' → St x' g' l' s' → wpAny (model prog w) A (isTrue test env (eval test env)) (fun b s₂ =>
      if b then wpAny (model prog w) A (execs body env) (fun f s₃ => match f with
        | .next | .cont => ∃ m x'' g'' l'', m < n ∧ Le g' g'' ∧ St x'' g'' l'' s₃ ∧ J m x'' g'' l''
        | .brk => Q .next s₃
        | .ret v => Q (.ret v) s₃) E s₂
      else Q .next s₂) E s') : wpAny (model prog w) A (exec (.While test body [] pos) env) Q E s := by
  refine wpAny_While (codeAny_whileLoop (fun k s' => ∃ x' g' l', Le g g' ∧ J k x' g' l' ∧ St x' g' l' s') ?_ n (in33 x g l (Le.refl _) h0 S))
  intro k s' hR2
  obtain ⟨x', g', l', hg, hJ, S'⟩ := hR2
  refine wpAny_mono (turn k x' g' l' s' hg hJ S') (fun b s₂ h₂ => ?_) fun e s h => hE e s h
  cases b with
  | false => exact wpAny_execs_nil h₂
  | true =>
    refine wpAny_mono h₂ (fun f s₃ h₃ => ?_) fun e s h => hE e s h
    have step : (∃ m x'' g'' l'', m < k ∧ Le g' g'' ∧ St x'' g'' l'' s₃ ∧ J m x'' g'' l'') → ∃ m, m < k ∧ ∃ x'' g'' l'', Le g g'' ∧ J m x'' g'' l'' ∧ St x'' g'' l'' s₃ :=
      fun hq_ => el44 hq_ fun m x'' g'' l'' k1 k2 k3 k4 => (in12 m k1 (in33 x'' g'' l'' (hg.trans k2) k4 k3))
    cases f with
    | next => exact step h₃
    | cont => exact step h₃
    | brk => exact h₃
    | ret v => exact h₃

/-! the callables that are handed in -/
def Miss (x : Wd) (g : Heap) (l : List Ent) (E : Value → Shared → Prop) : Prop := ∀ e T s', St x g ((T, TbP .none) :: (e, ExcP (.type "KeyError") (.ref T)) :: l) s' → E (.ref e) s'
structure LkF (w : World) (g : Heap) (fa : Addr) (V : Heap → Nat → Option (Value → Prop)) : Prop where
  obj : ∃ o fd, g.get? fa = some o ∧ o.data = .func fd
  run : ∀ {x : Wd} {g' : Heap} {l : List Ent} {s : Shared} {A : Around} {E : Value → Shared → Prop} {Q : Value → Shared → Prop} {k : Nat} {v : Value}, Le g g' → St x g' l s → A.depth < 900 → A.handled = none → FrOk A.frames l → NmV k v →
    (∀ P z s', V g' k = some P → P z → St x g' l s' → Q z s') → (V g' k = none → Miss x g' l E) → wpAny (model PP w) A (call (.ref fa) [v] []) Q E s
def TmF (tm : Nat → Option Int) (_ : Heap) (k : Nat) : Option (Value → Prop) := (tm k).map fun t v => TmV t v
def PrF (pr : Nat → Option (List Nat)) (g : Heap) (k : Nat) : Option (Value → Prop) := (pr k).map fun ps v => ∃ a vs, v = .ref a ∧ g.IsList a vs.toArray ∧ Paired NmV ps vs
/-- the row of marks -/
structure ShOk (w : World) (g : Heap) (sh : Value) (b : Bool) : Prop where
  none : sh = .none → b = false
  run : sh ≠ .none → ∀ {x : Wd} {g' : Heap} {l : List Ent} {s : Shared} {A : Around} {E : Value → Shared → Prop} {Q : Bool → Shared → Prop}, Le g g' → St x g' l s → (∀ s', St x g' l s' → Q b s') → wpAny (model PP w) A (truthy sh) Q E s
theorem LkF.le {g g' : Heap} {fa : Addr} {V : Heap → Nat → Option (Value → Prop)} (h : LkF w g fa V) (k : Le g g') : LkF w g' fa V :=
  ⟨let ⟨o, fd, a, b⟩ := h.obj; ⟨o, fd, k _ _ a, b⟩, fun k' S => h.run (k.trans k') S⟩
theorem ShOk.le {g g' : Heap} {sh : Value} {b : Bool} (h : ShOk w g sh b) (k : Le g g') : ShOk w g' sh b := ⟨h.none, fun hn _ _ _ _ _ _ _ k' S => h.run hn (k.trans k') S⟩

/-- an exception on its way through the frame L -/
def Thrown (P : Wd → Heap → Array Value → Prop) (tab L : Addr) (l : List Ent) (ev : Value) (s : Shared) : Prop :=
  ∃ x g e T fl own ps, ev = .ref e ∧ (fl = .none ∨ fl = rawInt L) ∧ St x g ((T, TbP fl) :: (e, ExcP (.type "KeyError") (.ref T)) :: (own ++ (tab, (· = tabObj ps)) :: l)) s ∧ (∃ m, (L, NsP m) ∈ own) ∧ P x g ps
structure FrL (A : Around) (env : Env) (L : Addr) (l : List Ent) : Prop where
  top : ∃ outer, A.frames = some (env :: outer)
  at_ : env.frame = some L
  ok : ∀ l' : List Ent, (∃ m, (L, NsP m) ∈ l') → (∀ p ∈ l, p ∈ l') → FrOk A.frames l'
theorem FrL.deeper {env : Env} {L : Addr} (hF : FrOk A.frames l) (hk : env.scope.kind = .function) (hL : env.frame = some L) : FrL (A.deeper env) env L l :=
  ⟨by obtain ⟨fs, e, _⟩ := hF; exact ⟨fs, by show A.frames.map _ = _; rw [e]; rfl⟩, hL, fun l' hq_ k => el11 hq_ fun m hm => FrOk.deeper hF hk hL hm k⟩
theorem Thrown.pass {prog : Program} {P : Wd → Heap → Array Value → Prop} {tab L : Addr} (F : FrL A env L l) : Pass (model prog w) A env (Thrown P tab L l) := by
  intro ev s hR2
  refine el75 hR2 fun x g e T fl own ps e168_ hfl S z169_ hP => ?_; try clear hR2; subst e168_; refine el11 z169_ fun m hm => ?_; try clear z169_
  rcases hfl with rfl | rfl
  · refine notedOn S (F.ok _ ⟨m, List.mem_append_left _ hm⟩ fun p hp => List.mem_append_right _ (List.mem_cons_of_mem _ hp)) F.top F.at_ fun T' s' S' => cameBack S' F.at_ fun s'' S'' => ?_
    exact (in75 x g e T' _ own ps rfl (.inr rfl) S'' ⟨m, hm⟩ hP)
  · refine notedAgain S F.at_ (cameBack S F.at_ fun s'' S'' => ?_)
    exact (in75 x g e T _ own ps rfl (.inr rfl) S'' ⟨m, hm⟩ hP)
theorem Thrown.leave {M : Model} {P : Wd → Heap → Array Value → Prop} {tab L : Addr} {ev : Value} {Q : Unit → Shared → Prop} (F : FrL A env L l) (h : Thrown P tab L l ev s)
    (k : ∀ x g e T ps s', ev = .ref e → St x g ((T, TbP .none) :: (e, ExcP (.type "KeyError") (.ref T)) :: (tab, (· = tabObj ps)) :: l) s' → P x g ps → Q () s') : wpAny M A (leaving env ev) Q E s := by
  refine el75 h fun x g e T fl own ps e170_ hfl S z171_ hP => ?_; try clear h; subst e170_; refine el11 z171_ fun m hm => ?_; try clear z171_
  have sb : ∀ {T : Addr}, List.Sublist ((T, TbP .none) :: (e, ExcP (.type "KeyError") (.ref T)) :: (tab, (· = tabObj ps)) :: l) ((T, TbP .none) :: (e, ExcP (.type "KeyError") (.ref T)) :: (own ++ (tab, (· = tabObj ps)) :: l)) :=
    fun {T} => ((List.sublist_append_right own _).cons_cons _).cons_cons _
  rcases hfl with rfl | rfl
  · refine leaveOn S (F.ok _ ⟨m, List.mem_append_left _ hm⟩ fun p hp => List.mem_append_right _ (List.mem_cons_of_mem _ hp)) F.top F.at_ fun T' s' S' => ?_
    exact k x g e T' ps s' rfl (S'.sub sb) hP
  · exact leaveHeld S F.at_ fun s' S' => k x g e T ps s' rfl (S'.sub sb) hP

/-- shallows is None or not shallows; shallows is not None and shallows -/
theorem noneOrNot {p1 p2 p3 p4 p5 p6 : Pos} {k : Nat} {sh : Value} {b : Bool} {m : Str → Option Value} {y : Str} {Q : Bool → Shared → Prop} (H : ShOk w g sh b) (S : St x g l s) (hk : env.kindOf y = some .local) (hf : env.scope.kind = .function) (hm : (env.locals, NsP m) ∈ l) (hv : m y = some sh)
    (h : ∀ s', St x g l s' → Q (!b) s') (hd : (y == ("__debug__" : Str)) = false := by decide) :
    wpAny (model PP w) A (isTrue (.BoolOp .Or [.Compare (.Name y p1) [.Is] [.Constant .none k p2] p3, .UnaryOp .Not (.Name y p4) p5] p6) env (eval (.BoolOp .Or [.Compare (.Name y p1) [.Is] [.Constant .none k p2] p3, .UnaryOp .Not (.Name y p4) p5] p6) env)) Q E s := by
  refine wpAny_isTrue_BoolOp (wpAny_allTrue_Or_cons (wpAny_isTrue_Compare1 ?_))
  refine ldL S hk hf hm hv (wpAny_Constant_none (is_none_gen (wpAny_truthy_bool ?_))) hd
  by_cases e : sh = .none
  · rw [if_pos (by rw [e]; rfl)]
    rw [H.none e] at h
    exact h _ S
  · rw [if_neg (by simpa using e)]
    refine wpAny_allTrue_Or_cons (wpAny_isTrue_Not (wpAny_isTrue_value ?_))
    refine ldL S hk hf hm hv (H.run e (Le.refl _) S fun s' S' => ?_) hd
    cases b with
    | true => exact wpAny_allTrue_Or_nil (h _ S')
    | false => exact h _ S'
theorem notNoneAnd {p1 p2 p3 p4 p6 : Pos} {k : Nat} {sh : Value} {b : Bool} {m : Str → Option Value} {y : Str} {Q : Bool → Shared → Prop} (H : ShOk w g sh b) (S : St x g l s) (hk : env.kindOf y = some .local) (hf : env.scope.kind = .function) (hm : (env.locals, NsP m) ∈ l) (hv : m y = some sh)
    (h : ∀ s', St x g l s' → Q b s') (hd : (y == ("__debug__" : Str)) = false := by decide) :
    wpAny (model PP w) A (isTrue (.BoolOp .And [.Compare (.Name y p1) [.IsNot] [.Constant .none k p2] p3, .Name y p4] p6) env (eval (.BoolOp .And [.Compare (.Name y p1) [.IsNot] [.Constant .none k p2] p3, .Name y p4] p6) env)) Q E s := by
  refine wpAny_isTrue_BoolOp (wpAny_allTrue_And_cons (wpAny_isTrue_Compare1 ?_))
  refine ldL S hk hf hm hv (wpAny_Constant_none (isnot_none_gen (wpAny_truthy_bool ?_))) hd
  by_cases e : sh = .none
  · rw [if_neg (by rw [e]; decide)]
    rw [H.none e] at h
    exact h _ S
  · rw [if_pos (by simpa using e)]
    refine wpAny_allTrue_And_cons (wpAny_isTrue_value ?_)
    refine ldL S hk hf hm hv (H.run e (Le.refl _) S fun s' S' => ?_) hd
    cases b with
    | true => exact wpAny_allTrue_And_nil (h _ S')
    | false => exact h _ S'
end Jr
end
-- JM
section
namespace Jr
open PySem PySem.W PySem.Calls PyProof.Rows
variable {x : Wd} {g : Heap} {l : List Ent} {s : Shared} {A : Around} {E : Value → Shared → Prop} {w : World} {mg mb : Str → Option Value}

local macro_rules | `(tactic| walk_at "sub") => `(tactic| first | exact List.Sublist.refl _ | (apply List.Sublist.cons_cons; walk_at "sub") | (apply List.Sublist.cons; walk_at "sub"))

theorem pairAppend {α β : Type} {F : α → β → Prop} : ∀ {l₁ l₁' : List α} {l₂ l₂' : List β}, Paired F l₁ l₂ → Paired F l₁' l₂' → Paired F (l₁ ++ l₁') (l₂ ++ l₂') := by
  intro l₁ l₁' l₂ l₂' h h'
  induction h with
  | nil => exact h'
  | cons a _ ih => exact .cons a ih
theorem pairMap' {α β γ : Type} {F : γ → β → Prop} {f : α → γ} : ∀ {l₁ : List α} {l₂ : List β}, Paired (fun a b => F (f a) b) l₁ l₂ → Paired F (l₁.map f) l₂ := by
  intro l₁ l₂ h
  induction h with
  | nil => exact .nil
  | cons a _ ih => exact .cons a ih
theorem filter_true {α : Type} (l : List α) : l.filter (fun _ => true) = l := by simp
theorem cut {α : Type} {M : Model} {A : Around} {E : Value → Shared → Prop} {s : Shared} {t : Sem α} {Q : α → Shared → Prop} (Mid : α → Shared → Prop) (h : wpAny M A t Mid E s) (k : ∀ v s', Mid v s' → Q v s') : wpAny M A t Q E s :=
  wpAny_mono h k fun _ _ e => e
theorem fmodP {a b : Int} (h : 0 < b) : a.fmod b = a % b := Int.fmod_eq_emod_of_nonneg _ (by walk_at "om")
theorem fdivP {a b : Int} (h : 0 < b) : a.fdiv b = a / b := Int.fdiv_eq_ediv_of_nonneg _ (by walk_at "om")

structure Gr (ps : List (List Int)) (ts : List Int) : Prop where
  len : ts.length = ps.length
  low : ∀ (k : Nat) (row : List Int) (p : Int), ps[k]? = some row → p ∈ row → 0 ≤ p ∧ p < k ∧ ∃ tp tk, ts[p.toNat]? = some tp ∧ ts[k]? = some tk ∧ tp < tk
  row : ∀ row ∈ ps, row.length ≤ 100
  pos : ∀ t ∈ ts, 1 ≤ t

theorem Gr.nil : Gr [] [] := ⟨rfl, fun k row p h => by simp at h, fun _ h => by simp at h, fun _ h => by simp at h⟩
theorem Gr.snoc {ps : List (List Int)} {ts row : List Int} {t : Int} (G : Gr ps ts) (h1 : ∀ p ∈ row, 0 ≤ p ∧ p < ps.length) (hr : row.length ≤ 100) (ht : 1 ≤ t) (h2 : ∀ p ∈ row, ∀ tp, ts[p.toNat]? = some tp → tp < t) : Gr (ps ++ [row]) (ts ++ [t]) where
  len := by simp [G.len]
  low := by
    intro k r p hk hp
    by_cases hlt : k < ps.length
    · rw [List.getElem?_append_left hlt] at hk
      refine el03 (G.low k r p hk hp) fun a b z1_ => ?_; refine el23 z1_ fun tp tk c d e => ?_; try clear z1_
      have hk' : k < ts.length := by rw [G.len]; exact hlt
      refine (in03 a b (in23 tp tk ?_ ?_ e))
      · rw [List.getElem?_append_left (by walk_at "om")]; exact c
      · rw [List.getElem?_append_left hk']; exact d
    · have hk1 : k = ps.length := by
        have := (List.getElem?_eq_some_iff.mp hk).1
        simp at this; walk_at "om"
      subst hk1
      simp at hk
      subst hk
      refine el02 (h1 p hp) fun a b => ?_
      have hp' : p.toNat < ts.length := by rw [G.len]; walk_at "om"
      refine (in03 a b (in23 (ts[p.toNat]) t ?_ ?_ (h2 p hp _ (by simp [hp']))))
      · rw [List.getElem?_append_left hp']; simp [hp']
      · rw [← G.len]; simp
  row := by
    intro r h
    rcases List.mem_append.mp h with h | h
    · exact G.row r h
    · simp at h; subst h; exact hr
  pos := by
    intro r h
    rcases List.mem_append.mp h with h | h
    · exact G.pos r h
    · simp at h; subst h; exact ht

set_option pp.maxSteps 4000
set_option maxHeartbeats 4000000 in
theorem law_graph {ns : List Int} {sv : Value} {Q : Value → Shared → Prop} (W : Wf w mg mb g) (S : St x g l s) (hd : A.depth < 900) (hu : A.units < 900) (hh : A.handled = none) (hs : IntL g ns sv) (hn : ns.length ≤ 63)
    (h : ∀ a pv tv ps ts g' s', Le g g' → St x g' ((a, TupP [pv, tv]) :: l) s' → IntLL g' ps pv → IntL g' ts tv → Gr ps ts → 2 ≤ ps.length → ps.length ≤ 10 → Q (.ref a) s') : wpAny (model PP w) A (call (.ref 109) [sv] []) Q E s := by
  refine callFQc (args := ⟨[sv], []⟩) (binds := [("script", sv)]) ["stamps"] S (W.K 109 _ rfl) rfl (codeRec_of W.K (by kernel_rfl)) W.lim (by show A.depth < 1000; walk_at "om") (BindsTo.of_eq rfl) ?_
  intro L bs s hb S
  refine el11 (len1 hb) fun bt e2_ => ?_; subst e2_
  dsimp only [List.zip, List.zipWith, List.nil_append, List.cons_append, List.map] at S ⊢
  refine stored_cons (stL S rfl rfl (.tail .head) fun s S => stored_nil ⟨S.keep, ?_⟩)
  refine nameXs ?_; intro ev Ax Ex Qx
  refine wpAny_execs_cons (wpAny_Assign_Name (List_ (wpAny_items_nil ?_)))
  refine nwList S (by size_fits) fun pl s S => ?_
  refine stL S rfl rfl (.tail (.tail .head)) fun s S => ?_
  refine wpAny_execs_cons (wpAny_Assign_Name (List_ (wpAny_items_nil ?_)))
  refine nwList S (by size_fits) fun tl s S => ?_
  refine stC S rfl rfl rfl (.tail (.tail .head)) fun s S => ?_
  refine el23 (id hs) fun sa svs e3_ hsl hsp => ?_; subst e3_
  have hslen := pairLen hsp
  refine wpAny_execs_cons (wpAny_For (callTy ?_))
  refine ldBW W S rfl rfl rfl rfl (by kernel_rfl) (by boot_fast) (in12 _ rfl ?_)
  refine wpAny_items_cons (wpAny_BinOp ?_)
  refine cInt S fun t1 s S => cut (fun v s' => ∃ c t, v = .int c t ∧ 0 ≤ c ∧ c < 9 ∧ St x g ((tl, ListP []) :: (pl, ListP []) :: (bt, CellP (some (.ref tl))) :: (L, NsP (upd (upd (fun _ => none) "script" (.ref sa)) "parents" (.ref pl))) :: l) s') (wpAny_IfExp (wpAny_isTrue_value ?_)) ?_
  · refine nameQ ?_; intro Qx
    refine ldL S rfl rfl (by k_mem) (by walk_at "lk") ?_
    refine truthyL S (isList_le hsl S.keep) (by walk_at "om") fun s S => ?_
    cases hsv : svs.isEmpty
    · refine wpAny_BinOp (callBi ?_)
      refine ldBW W S rfl rfl rfl rfl (by kernel_rfl) (by boot_fast) (in12 _ rfl ?_)
      refine wpAny_items_cons (subs ?_)
      refine ldL S rfl rfl (by k_mem) (by walk_at "lk") (cInt S fun t2 s S => ?_)
      have h0 : ∃ n0, ns[0]? = some n0 := by
        have : 0 < ns.length := by rw [hslen]; cases svs <;> simp_all
        exact ⟨_, List.getElem?_eq_getElem this⟩
      refine el11 h0 fun n0 hn0 => ?_; try clear h0
      refine idxI hs S.keep (by decide) (by decide) hn0 fun t3 => wpAny_items_nil ?_
      refine oAbs S fun t4 s S => cInt S fun t5 s S => oMod S (by decide) fun t6 s S => ?_
      refine (in24 _ _ rfl ?_ ?_ S)
      · rw [fmodP (by decide)]; walk_at "om"
      · rw [fmodP (by decide)]; walk_at "om"
    · exact cInt S fun t2 s S => ⟨_, _, rfl, by decide, by decide, S⟩
  intro _ s hR2
  refine el24 hR2 fun c t2 e4_ hc0 hc9 S => ?_; try clear hR2; subst e4_
  refine oAdd S fun t3 s S => wpAny_items_nil ?_
  refine callRange S fun r s S => iterRange S (by walk_at "om") (by walk_at "om") fun it s S I => ?_
  refine forIt (fun i g' l' => ∃ ps ts pvs tvs m, l' = (tl, ListP tvs) :: (pl, ListP pvs) :: (bt, CellP (some (.ref tl))) :: (L, NsP m) :: l ∧ m "script" = some (.ref sa) ∧ m "parents" = some (.ref pl) ∧
    Paired (IntL g') ps pvs ∧ Paired IntV ts tvs ∧ ps.length = i ∧ Gr ps ts) S I hh Pass.never (in57 ([]) ([]) ([]) ([]) _ rfl (by walk_at "lk") (by walk_at "lk") (.nil) (.nil) rfl (Gr.nil)) ?_ ?_
  · intro i v g' l' s hi hJ6 hg hJ8 S
    refine nameQ ?_; intro Qx
    refine el11 hJ6 fun tk e5_ => ?_; try clear hJ6; subst e5_
    refine el57 hJ8 fun ps ts pvs tvs m e6_ hm1 hm2 hP hT hpl hG => ?_; try clear hJ8; subst e6_
    rw [Int.zero_add] at *
    have W' := W.le hg
    refine wpAny_assign_Name (stL S rfl rfl (by walk_at "up") fun s S => ?_)
    refine nameQ ?_; intro Qy
    have hi10 : i < 11 := by walk_at "om"
    refine wpAny_execs_cons (wpAny_Assign_Name (cut (fun v s' => ∃ num t, v = .int num t ∧ 0 ≤ num ∧ St x g' ((it, RIterP 0 (2 + c).toNat (i + 1)) :: (tl, ListP tvs) :: (pl, ListP pvs) :: (bt, CellP (some (.ref tl))) :: (L, NsP (upd m "k" (.int i tk))) :: l) s') (wpAny_IfExp (wpAny_isTrue_Compare1 (wpAny_BinOp ?_))) ?_))
    · refine nameQ ?_; intro Qx
      refine cInt S fun t4 s S => ldL S rfl rfl (by k_mem) upd_same (oAdd S fun t5 s S => callBi ?_)
      refine ldBW W' S rfl rfl rfl rfl (by kernel_rfl) (by boot_fast) (in12 _ rfl ?_)
      refine wpAny_items_cons (ldL S rfl rfl (by k_mem) (by walk_at "lk") (wpAny_items_nil ?_))
      refine lenL S (isList_le hsl (hg.trans S.keep)) (by walk_at "om") fun t6 s S => oLt (wpAny_truthy_bool ?_)
      by_cases hlt : (1 : Int) + i < svs.length
      · rw [if_pos (by simpa using hlt)]
        refine callBi ?_
        refine ldBW W' S rfl rfl rfl rfl (by kernel_rfl) (by boot_fast) (in12 _ rfl ?_)
        refine wpAny_items_cons (subs ?_)
        refine ldL S rfl rfl (by k_mem) (by walk_at "lk") (wpAny_BinOp ?_)
        refine cInt S fun t4 s S => ldL S rfl rfl (by k_mem) upd_same (oAdd S fun t5 s S => ?_)
        have hlt' : 1 + i < ns.length := by walk_at "om"
        have hn0 : ns[((1 : Int) + i).toNat]? = some ns[1 + i] := by
          rw [show ((1 : Int) + i).toNat = 1 + i by walk_at "om"]; simp [hlt']
        refine idxI hs (hg.trans S.keep) (by walk_at "om") (by walk_at "om") hn0 fun t3 => wpAny_items_nil ?_
        refine oAbs S fun t4 s S => (in23 _ _ rfl ?_ S)
        split <;> walk_at "om"
      · rw [if_neg (by simpa using hlt)]
        refine wpAny_BinOp (wpAny_BinOp ?_)
        refine cInt S fun t4 s S => ldL S rfl rfl (by k_mem) upd_same (oMul S (by decide) fun t5 s S => ?_)
        exact cInt S fun t6 s S => oAdd S fun t7 s S => ⟨_, _, rfl, by walk_at "om", S⟩
    intro _ s hR2
    refine el23 hR2 fun num t4 e7_ hnum S => ?_; try clear hR2; subst e7_
    refine stL S rfl rfl (by walk_at "up") fun s S => ?_
    refine wpAny_execs_cons (wpAny_Assign_Name (List_ (wpAny_items_nil ?_)))
    refine nwList S (by size_fits) fun ra s S => ?_
    refine stL S rfl rfl (by walk_at "up") fun s S => ?_
    refine wpAny_execs_cons (cut (fun f s' => f = .next ∧ ∃ g1 row rvs m', Le g' g1 ∧ St x g1 ((ra, ListP rvs) :: (it, RIterP 0 (2 + c).toNat (i + 1)) :: (tl, ListP tvs) :: (pl, ListP pvs) :: (bt, CellP (some (.ref tl))) :: (L, NsP m') :: l) s' ∧
      m' "script" = some (.ref sa) ∧ m' "parents" = some (.ref pl) ∧ m' "row" = some (.ref ra) ∧ m' "number" = some (.int num t4) ∧ Paired IntV row rvs ∧ (∀ p ∈ row, 0 ≤ p ∧ p < i) ∧ row.length ≤ 100) (wpAny_If (wpAny_isTrue_BoolOp (wpAny_allTrue_And_cons (wpAny_isTrue_Compare1 ?_)))) ?_)
    · refine nameQ ?_; intro Qx
      refine ldL S rfl rfl (by k_mem) (by walk_at "lk") (cInt S fun t5 s S => oGt (wpAny_truthy_bool ?_))
      by_cases hk0 : (0 : Int) < i
      · rw [if_pos (by simpa using hk0)]
        refine wpAny_allTrue_And_cons (wpAny_isTrue_Compare1 (wpAny_BinOp ?_))
        refine ldL S rfl rfl (by k_mem) (by walk_at "lk") (cInt S fun t5 s S => oMod S (by decide) fun t6 s S => cInt S fun t7 s S => oGt (wpAny_truthy_bool ?_))
        by_cases hn5 : (0 : Int) < num.fmod 5
        · rw [if_pos (by simpa using hn5)]
          refine wpAny_allTrue_And_nil ?_
          rw [if_pos rfl]
          refine wpAny_execs_cons (wpAny_For (callTy ?_))
          refine ldBW W' S rfl rfl rfl rfl (by kernel_rfl) (by boot_fast) (in12 _ rfl ?_)
          refine wpAny_items_cons (wpAny_BinOp ?_)
          refine cInt S fun t8 s S => wpAny_BinOp (wpAny_BinOp ?_)
          refine ldL S rfl rfl (by k_mem) (by walk_at "lk") (cInt S fun t9 s S => oDiv S (by decide) (by decide) fun t10 s S => cInt S fun t11 s S => oMod S (by decide) fun t12 s S => oAdd S fun t13 s S => wpAny_items_nil ?_)
          have hjn : 0 ≤ (num.fdiv 5).fmod 3 ∧ (num.fdiv 5).fmod 3 < 3 := by rw [fmodP (by decide)]; walk_at "om"
          refine callRange S fun r s S => iterRange S (by walk_at "om") (by walk_at "om") fun it2 s S I2 => ?_
          refine forIt (fun j g3 l' => ∃ row rvs m', l' = (ra, ListP rvs) :: (it, RIterP 0 (2 + c).toNat (i + 1)) :: (tl, ListP tvs) :: (pl, ListP pvs) :: (bt, CellP (some (.ref tl))) :: (L, NsP m') :: l ∧
            m' "script" = some (.ref sa) ∧ m' "parents" = some (.ref pl) ∧ m' "row" = some (.ref ra) ∧ m' "number" = some (.int num t4) ∧ (∃ t, m' "k" = some (.int i t)) ∧ Paired IntV row rvs ∧ (∀ p ∈ row, 0 ≤ p ∧ p < i) ∧ row.length ≤ j) S I2 hh Pass.never
            (in39 ([]) ([]) _ rfl (by walk_at "lk") (by walk_at "lk") (by walk_at "lk") (by walk_at "lk") ⟨_, by walk_at "lk"⟩ (.nil) (fun _ h => by simp at h) (Nat.le_refl _)) ?_ ?_
          · intro j v g3 l' s hj hJ6 hg3 hJ8 S
            refine nameQ ?_; intro Qx
            refine el11 hJ6 fun tj e8_ => ?_; try clear hJ6; subst e8_
            refine el39 hJ8 fun row rvs m' e9_ k1 k2 k3 k4 z10_ k6 k7 k8 => ?_; try clear hJ8; subst e9_; refine el11 z10_ fun tk5 k5 => ?_; try clear z10_
            rw [Int.zero_add] at *
            have W3 := W'.le hg3
            refine wpAny_assign_Name (stL S rfl rfl (by walk_at "up") fun s S => ?_)
            refine nameQ ?_; intro Qy
            refine wpAny_execs_cons (wpAny_Assign_Name (wpAny_BinOp (wpAny_BinOp ?_)))
            refine ldL S rfl rfl (by k_mem) (by walk_at "lk") (cInt S fun t14 s S => oSub S fun t15 s S => wpAny_BinOp (wpAny_BinOp (wpAny_BinOp ?_)))
            refine ldL S rfl rfl (by k_mem) (by walk_at "lk") (cInt S fun t16 s S => oDiv S (by decide) (by decide) fun t17 s S => wpAny_BinOp ?_)
            refine cInt S fun t18 s S => ldL S rfl rfl (by k_mem) upd_same (oPow S (by walk_at "om") (by walk_at "om") (by decide) fun t19 s S => ?_)
            have hj3 : j < 3 := by walk_at "om"
            have hp5 : (5 : Int) ^ ((j : Int)).toNat = 1 ∨ (5 : Int) ^ ((j : Int)).toNat = 5 ∨ (5 : Int) ^ ((j : Int)).toNat = 25 := by
              rw [Int.toNat_natCast]
              rcases j with _ | _ | _ | j
              · exact .inl rfl
              · exact .inr (.inl rfl)
              · exact .inr (.inr rfl)
              · walk_at "om"
            refine oDiv S (by walk_at "om") (by walk_at "om") fun t20 s S => callBi ?_
            refine ldBW W3 S rfl rfl rfl rfl (by kernel_rfl) (by boot_fast) (in12 _ rfl ?_)
            refine wpAny_items_cons (ldL S rfl rfl (by k_mem) (by walk_at "lk") (wpAny_items_cons (cInt S fun t21 s S => wpAny_items_nil ?_)))
            refine min2 S hh fun t22 s S => ?_
            have hmn : 0 < (if (5 : Int) < i then (5 : Int) else i) ∧ (if (5 : Int) < i then (5 : Int) else i) ≤ i := by split <;> walk_at "om"
            refine oMod S (by walk_at "om") fun t23 s S => oSub S fun t24 s S => ?_
            refine stL S rfl rfl (by walk_at "up") fun s S => ?_
            have hq : 0 ≤ (i : Int) - 1 - (((num.fdiv 15).fdiv (5 ^ ((j : Int)).toNat)).fmod (if (5 : Int) < i then (5 : Int) else i)) ∧ (i : Int) - 1 - (((num.fdiv 15).fdiv (5 ^ ((j : Int)).toNat)).fmod (if (5 : Int) < i then (5 : Int) else i)) < i := by
              rw [fmodP hmn.1]
              have h1 := Int.emod_nonneg ((num.fdiv 15).fdiv (5 ^ ((j : Int)).toNat)) (show (if (5 : Int) < i then (5 : Int) else i) ≠ 0 by walk_at "om")
              have h2 := Int.emod_lt_of_pos ((num.fdiv 15).fdiv (5 ^ ((j : Int)).toNat)) hmn.1
              walk_at "om"
            generalize (i : Int) - 1 - (((num.fdiv 15).fdiv (5 ^ ((j : Int)).toNat)).fmod (if (5 : Int) < i then (5 : Int) else i)) = q at hq S
            refine wpAny_execs_cons (wpAny_If (wpAny_isTrue_Compare1 ?_))
            refine ldL S rfl rfl (by k_mem) upd_same (ldL S rfl rfl (by k_mem) (by walk_at "lk") ?_)
            refine notInL (isI q) (S.list (by k_mem)) (eqI k6 q _) (wpAny_truthy_bool ?_)
            rw [any_isI k6]
            cases hc : row.contains q
            · rw [if_pos (by rfl)]
              refine wpAny_execs_cons (wpAny_Expr (callAppend ?_))
              refine ldL S rfl rfl (by k_mem) (by walk_at "lk") (in23 ra rvs rfl (S.get (by k_mem)) ?_)
              refine ldL S rfl rfl (by k_mem) upd_same ?_
              have hrv := pairLen k6
              refine appendL S (by walk_at "up") (by rw [sizeLine_eq]; walk_at "om") fun s S => ?_
              refine wpAny_execs_nil (wpAny_execs_nil (in23 g3 _ (Le.refl _) S (in39 (row ++ [q]) _ _ rfl (by walk_at "lk") (by walk_at "lk") (by walk_at "lk") (by walk_at "lk") ⟨_, by walk_at "lk"⟩ (k6.snoc ⟨_, rfl⟩) ?_ (by simp; walk_at "om"))))
              intro p hp
              rcases List.mem_append.mp hp with hp | hp
              · exact k7 p hp
              · simp at hp; subst hp; exact hq
            · rw [if_neg (by simp)]
              exact wpAny_execs_nil (wpAny_execs_nil (in23 g3 _ (Le.refl _) S (in39 row _ _ rfl (by walk_at "lk") (by walk_at "lk") (by walk_at "lk") (by walk_at "lk") ⟨_, by walk_at "lk"⟩ k6 k7 (by walk_at "om"))))
          · intro g3 l' s hg3 hR4 S
            refine el39 hR4 fun row rvs m' e11_ k1 k2 k3 k4 k5 k6 k7 k8 => ?_; try clear hR4; subst e11_
            exact wpAny_execs_nil ⟨rfl, (in49 g3 row rvs m' hg3 S k1 k2 k3 k4 k6 k7 (by walk_at "om"))⟩
        · rw [if_neg (by simpa using hn5), if_neg (by decide)]
          exact wpAny_execs_nil ⟨rfl, (in49 g' ([]) ([]) _ (Le.refl _) S (by walk_at "lk") (by walk_at "lk") (by walk_at "lk") (by walk_at "lk") (.nil) (fun _ h => by simp at h) (by decide))⟩
      · rw [if_neg (by simpa using hk0), if_neg (by decide)]
        exact wpAny_execs_nil ⟨rfl, g', [], [], _, Le.refl _, S, by walk_at "lk", by walk_at "lk", by walk_at "lk", by walk_at "lk", .nil, fun _ h => by simp at h, by decide⟩
    intro _ s hR2
    refine el02 hR2 fun e12_ z13_ => ?_; try clear hR2; subst e12_; refine el49 z13_ fun g1 row rvs m' hg1 S hm3 hm4 hm5 hm6 hrow hrlt hrl => ?_; try clear z13_
    refine el25 (S.freeze) fun g2 ao hg2 hao hao2 _ S => ?_
    replace hg2 := hg1.trans hg2
    refine wpAny_execs_cons (wpAny_Expr (callAppend ?_))
    refine ldL S rfl rfl (by k_mem) hm4 (in23 pl pvs rfl (S.get (by k_mem)) ?_)
    refine ldL S rfl rfl (by k_mem) hm5 ?_
    have hpvs := pairLen hP
    refine appendL S (by walk_at "up") (by rw [sizeLine_eq]; walk_at "om") fun s S => ?_
    refine wpAny_execs_cons (wpAny_Expr (callAppend ?_))
    refine ldC S rfl rfl rfl (by k_mem) (in23 tl tvs rfl (S.get (by k_mem)) ?_)
    refine wpAny_BinOp (wpAny_BinOp ?_)
    refine cInt S fun t5 s S => wpAny_BinOp (wpAny_BinOp ?_)
    refine ldL S rfl rfl (by k_mem) hm6 (cInt S fun t6 s S => oDiv S (by decide) (by decide) fun t7 s S => cInt S fun t8 s S => oMod S (by decide) fun t9 s S => oAdd S fun t10 s S => callBi ?_)
    refine ldBW (W'.le hg2) S rfl rfl rfl rfl (by kernel_rfl) (by boot_fast) (in12 _ rfl ?_)
    refine wpAny_items_cons (wpAny_BinOp (List_ (wpAny_items_cons ?_)))
    refine cInt S fun t11 s S => wpAny_items_nil (nwList S (by size_fits) fun za s S => ?_)
    refine compL (x := x) (g := g2) (y := "parent") rfl rfl (by decide) rfl rfl hh (fun _ => rfl) ?_
    refine ldL S rfl rfl (by k_mem) hm5 ?_
    have hrvl := pairLen hrow
    have hra : g2.IsList ra rvs.toArray := ⟨ao, hao, hao2.1, hao2.2.2⟩
    refine itsList S hra fun i3 s hI => ?_
    refine (in44 g2 _ _ _ (Le.refl _) hI (by walk_at "om") (in24 (fun _ => true) (fun g k v => IntV (ts.getD (row.getD k 0).toNat 0) v) (fun _ _ _ _ _ q => q) ?_ ?_ ?_))
    · rintro C n v g3 m3 r3 s hn hv hg3 hr3 hm3 S
      exact wpAny_tests_nil ⟨rfl, (in12 g3 (Le.refl _) S)⟩
    · rintro C n v g3 m3 r3 s hn hv _ hg3 hr3 hm3 S
      refine el12 (pairGet' hrow hv) fun pp hpp z14_ => ?_; refine el11 z14_ fun t12 e15_ => ?_; try clear z14_; subst e15_
      have hb := hrlt pp (List.mem_of_getElem? hpp)
      refine subs (ldC S rfl rfl rfl (.tail _ (hr3 _ (by k_mem))) ?_)
      refine ldL S rfl rfl (by k_mem) hm3 ?_
      have htl := pairLen hT
      have hgl := hG.len
      have h1 : ts[pp.toNat]? = some (ts.getD pp.toNat 0) := by simp [show pp.toNat < ts.length by walk_at "om"]
      refine el12 (pairGet hT h1) fun tv htv z16_ => ?_; refine el11 z16_ fun t13 e17_ => ?_; try clear z16_; subst e17_
      refine idxL (S.list (.tail _ (hr3 _ (by k_mem)))) (by walk_at "om") (by walk_at "om") htv (in13 g3 (Le.refl _) S ?_)
      have e : row.getD n 0 = pp := by rw [List.getD_eq_getElem?_getD, hpp]; rfl
      exact ⟨_, by rw [e]⟩
    · intro acc g3 ys s hg3 hP3 S
      rw [filter_true] at hP3
      have hP4 := pairMap' (f := fun k => ts.getD (row.getD k 0).toNat 0) hP3
      have hyl := pairLen hP3
      simp only [List.length_range] at hyl
      refine addLL S (S.list (by k_mem)) (S.list (by k_mem)) (by rw [sizeLine_eq, List.length_singleton]; walk_at "om") fun ca s S => wpAny_items_nil ?_
      refine maxL S hh (S.list (by k_mem)) (is := [0] ++ (List.range rvs.length).map (fun k => ts.getD (row.getD k 0).toNat 0)) (pairAppend (.cons ⟨_, rfl⟩ .nil) hP4) (by simp) fun mx t14 s S hmx hmx2 => ?_
      refine oAdd S fun t15 s S => ?_
      have htl := pairLen hT
      have hgl := hG.len
      refine appendL S (by walk_at "up") (by rw [sizeLine_eq]; walk_at "om") fun s S => ?_
      have h0 : 0 ≤ (num.fdiv 1875).fmod 3 := by rw [fmodP (by decide)]; walk_at "om"
      have hmx0 : 0 ≤ mx := hmx2 0 (by simp)
      refine wpAny_execs_nil (in23 g3 _ (hg2.trans hg3) (S.sub (by walk_at "sub")) (in57 (ps ++ [row]) (ts ++ [1 + (num.fdiv 1875).fmod 3 + mx]) _ _ m' rfl hm3 hm4 ?_ ?_ (by simp [hpl]) ?_))
      · exact (pairMono (fun _ _ z => IntL.le z (hg2.trans hg3)) hP).snoc (in23 ra rvs rfl (isList_le hra hg3) hrow)
      · exact hT.snoc ⟨_, rfl⟩
      · refine hG.snoc (fun p hp => by have := hrlt p hp; walk_at "om") hrl (by walk_at "om") fun p hp tp htp => ?_
        refine el11 (List.mem_iff_getElem.mp hp) fun n z18_ => ?_; refine el11 z18_ fun hn hn2 => ?_; try clear z18_
        have := hmx2 (ts.getD p.toNat 0) (by
          refine List.mem_append_right _ (List.mem_map.mpr (in12 n (List.mem_range.mpr (by walk_at "om")) ?_))
          simp [hn, hn2])
        rw [List.getD_eq_getElem?_getD, htp] at this
        simp at this
        walk_at "om"
  · intro g' l' s hg hR4 S
    refine el57 hR4 fun ps ts pvs tvs m e19_ hm1 hm2 hP hT hpl hG => ?_; try clear hR4; subst e19_
    refine wpAny_execs_cons (wpAny_Return_some (Tuple_ (wpAny_items_cons ?_)))
    refine ldL S rfl rfl (by k_mem) (by walk_at "lk") (wpAny_items_cons ?_)
    refine ldC S rfl rfl rfl (by k_mem) (wpAny_items_nil ?_)
    refine nwTuple S (by size_fits) fun a s S => ?_
    have S1 := S.perm (l' := (tl, ListP tvs) :: (pl, ListP pvs) :: (a, TupP [.ref pl, .ref tl]) :: (bt, CellP (some (.ref tl))) :: (L, NsP m) :: l)
      (List.Perm.trans (List.Perm.swap ..) ((List.Perm.swap ..).cons _))
    refine el25 (S1.freeze) fun g2 to hg2 hto hto2 _ S => ?_
    refine el25 (S.freeze) fun g3 po hg3 hpo hpo2 _ S => ?_
    refine h a _ _ ps ts g3 s (hg.trans (hg2.trans hg3)) (S.sub (by walk_at "sub")) (in23 pl pvs rfl (in13 po hpo (hpo2.1) (hpo2.2.2)) (pairMono (fun _ _ z => IntL.le z (hg2.trans hg3)) hP))
      (in23 tl tvs rfl (in13 to (hg3 _ _ hto) (hto2.1) (hto2.2.2)) hT) hG (by walk_at "om") (by walk_at "om")
end Jr
end
-- KA
section
namespace Jr
open PySem PySem.W PySem.Calls PySem.SeqAt PySem.Builtin PyProof.Rows PySem.Spec
variable {x : Wd} {g : Heap} {l : List Ent} {s : Shared} {E : Value → Shared → Prop} {w : World} {mg mb : Str → Option Value} {A : Around} {env : Env}


noncomputable def scopeOf (w : World) (a : Addr) : Option Scope := match (KK w).lookup a with
  | some o => (match o.data with | .func fd => some fd.scope | _ => none)
  | none => none

inductive Run (pr : Nat → Option (List Nat)) (tm : Nat → Option Int) (mn : Int) (fl0 : Fl) (q0 : List Im) : Fl → List Im → List Im → Prop
  | start : Run pr tm mn fl0 q0 fl0 q0 []
  | perm {fl q q' cs} : Run pr tm mn fl0 q0 fl q cs → q.Perm q' → Run pr tm mn fl0 q0 fl q' cs
  | step {fl q cs p} : Run pr tm mn fl0 q0 fl (p :: q) cs → (∀ r ∈ q, key p ≤ key r) → (p :: q).any (live fl) = true →
      Run pr tm mn fl0 q0 (stepF pr tm mn fl q cs p).1 (stepF pr tm mn fl q cs p).2.1 (stepF pr tm mn fl q cs p).2.2

/-- what the frame of _find_lcas holds throughout -/
structure FM (lp ls cn cs f a : Addr) (mn : Int) (sh : Value) (m : Str → Option Value) : Prop where
  lp : m "lookup_parents" = some (.ref lp)
  ls : m "lookup_stamp" = some (.ref ls)
  mn : ∃ t, m "min_stamp" = some (.int mn t)
  sh : m "shallows" = some sh
  cn : m "cands" = some (.ref cn)
  cs : m "cstates" = some (.ref cs)
  a1 : ∃ t, m "_ANC_OF_1" = some (.int 1 t)
  a2 : ∃ t, m "_ANC_OF_2" = some (.int 2 t)
  lca : ∃ t, m "_LCA" = some (.int 8 t)
  hc : m "_has_candidates" = some (.ref f)
  wl : m "wlst" = some (.ref a)
theorem FM.upd {lp ls cn cs f a : Addr} {mn : Int} {sh : Value} {m : Str → Option Value} (H : FM lp ls cn cs f a mn sh m) {y : Str} {v : Value}
    (hy : (["lookup_parents", "lookup_stamp", "min_stamp", "shallows", "cands", "cstates", "_ANC_OF_1", "_ANC_OF_2", "_LCA", "_has_candidates", "wlst"] : List Str).contains y = false) : FM lp ls cn cs f a mn sh (Jr.upd m y v) := by
  have ne : ∀ z ∈ (["lookup_parents", "lookup_stamp", "min_stamp", "shallows", "cands", "cstates", "_ANC_OF_1", "_ANC_OF_2", "_LCA", "_has_candidates", "wlst"] : List Str), z ≠ y := fun z hz e => by
    subst e
    have := List.contains_iff_mem.mpr hz
    rw [hy] at this; cases this
  have go : ∀ z ∈ (["lookup_parents", "lookup_stamp", "min_stamp", "shallows", "cands", "cstates", "_ANC_OF_1", "_ANC_OF_2", "_LCA", "_has_candidates", "wlst"] : List Str), Jr.upd m y v z = m z := fun z hz => by
    unfold Jr.upd; rw [if_neg (ne z hz)]
  exact ⟨(go _ (by simp)).trans H.lp, (go _ (by simp)).trans H.ls, by rw [go _ (by simp)]; exact H.mn, (go _ (by simp)).trans H.sh, (go _ (by simp)).trans H.cn, (go _ (by simp)).trans H.cs,
    by rw [go _ (by simp)]; exact H.a1, by rw [go _ (by simp)]; exact H.a2, by rw [go _ (by simp)]; exact H.lca, (go _ (by simp)).trans H.hc, (go _ (by simp)).trans H.wl⟩
theorem bAnd : ∀ a < 16, ∀ b < 16, Builtin.bitAnd (a : Nat) (b : Nat) = ((a &&& b : Nat) : Int) := by decide +kernel
theorem bOr : ∀ a < 16, ∀ b < 16, Builtin.bitOr (a : Nat) (b : Nat) = ((a ||| b : Nat) : Int) := by decide +kernel

/-- what is frozen throughout -/
structure LG (w : World) (mg mb : Str → Option Value) (g : Heap) (lp ls f a pq bd : Addr) (sh : Value) (b : Bool) (pr : Nat → Option (List Nat)) (tm : Nat → Option Int) : Prop where
  W : Wf w mg mb g
  wl : Wl g a pq
  hc : ∃ nm' prm bd' sc' qual doc pm c' ctv, defAt (bodyOf w 90) 6 = some (nm', prm, bd', sc') ∧ g.get? f = some (fnMade nm' qual prm bd' sc' [("_DNC", bd)] doc pm c' ctv) ∧ g.CodeRec (.ref c') qual
  dnc : ∃ t, Cellz g bd (.int 4 t)
  lp : LkF w g lp (PrF pr)
  ls : LkF w g ls (TmF tm)
  sh : ShOk w g sh b
theorem LG.le {g g' : Heap} {lp ls f a pq bd : Addr} {sh : Value} {b : Bool} {pr : Nat → Option (List Nat)} {tm : Nat → Option Int} (H : LG w mg mb g lp ls f a pq bd sh b pr tm) (k : Le g g') : LG w mg mb g' lp ls f a pq bd sh b pr tm where
  W := H.W.le k
  wl := H.wl.le k
  hc := by obtain ⟨a1, a2, a3, a4, a5, a6, a7, a8, a9, h1, h2, h3⟩ := H.hc; exact (in93 a1 a2 a3 a4 a5 a6 a7 a8 a9 h1 (k _ _ h2) (codeRec_le h3 k))
  dnc := by obtain ⟨t, h⟩ := H.dnc; exact ⟨t, h.le k⟩
  lp := H.lp.le k
  ls := H.ls.le k
  sh := H.sh.le k
def Side (x0 x : Wd) : Prop := x.os = x0.os ∧ (AllBare x0.gens → AllBare x.gens)
/-- the ledger of the frame -/
def lcL (w : World) (cn pq csd L : Addr) (cvs : List Value) (g : Heap) (its : Array Im) (fl : Fl) (ps : Array Value) (m : Str → Option Value) (l : List Ent) : List Ent :=
  (cn, ListP cvs) :: (pq, PqP g its) :: (csd, CsP w fl) :: (L, NsP m) :: (87, (· = tabObj ps)) :: l
def ThP (x0 : Wd) (g0 : Heap) (Qn : Int → Int → Str) (b : Bool) (Dom : Nat → Prop) (pr : Nat → Option (List Nat)) (tm : Nat → Option Int) : Wd → Heap → Array Value → Prop := fun x g ps =>
  Side x0 x ∧ Le g0 g ∧ TabOk g Qn ps ∧ b = false ∧ ∃ k, Dom k ∧ (tm k = none ∨ pr k = none)

theorem subFl {value slice : PySem.Expr} {d : Addr} {fl : Fl} {k n : Nat} {t : Tok} {Q : Value → Shared → Prop} (S : St x g l s) (hd : (d, CsP w fl) ∈ l) (hk : k < 11) (hv : fl k = some n)
    (h : ∀ t' s', St x g l s' → Q (.int n t') s')
    (hs : subscripted slice false (.ref d) (.bytes (nm k) t) = operate [.ref d, .bytes (nm k) t] (getItem (.ref d) (.bytes (nm k) t)) := by with_unfolding_all rfl) : wpAny (model PP w) A (subscriptTail value slice (.ref d) (.bytes (nm k) t)) Q E s := by
  refine el12 (S.get hd) fun o ho z20_ => ?_; refine el12 z20_ fun f h1 h2 => ?_; try clear z20_
  have h3 := h2 k
  rw [hv] at h3
  refine el11 h3 fun t' h3 => ?_
  exact subD S (in12 o ho h1) hk h3 (h t') hs
theorem setFl {d : Addr} {fl : Fl} {k c : Nat} {t u : Tok} {Q : Unit → Shared → Prop} (S : St x g ((d, CsP w fl) :: l) s) (hk : k < 11)
    (h : ∀ s', St x g ((d, CsP w (addF fl k c)) :: l) s' → Q () s') : wpAny (model PP w) A (setItem (.ref d) (.bytes (nm k) t) (.int c u)) Q E s := by
  refine el12 (S.get (List.mem_cons_self ..)) fun o ho z21_ => ?_; refine el12 z21_ fun f h1 h2 => ?_; try clear z21_
  refine dcSet (S.narrow ho h1) .head ⟨hk, t, rfl⟩ fun s' S' => h s' (S'.weak fun o' ho' => (in12 _ ho' (fun j => ?_)))
  unfold addF fset
  by_cases e : j = k
  · rw [if_pos e, if_pos e]; exact ⟨u, rfl⟩
  · rw [if_neg e, if_neg e]; exact h2 j
theorem getFl {d : Addr} {fl : Fl} {k : Nat} {t u : Tok} {Q : Value → Shared → Prop} (S : St x g l s) (hd : (d, CsP w fl) ∈ l) (hs : d ≠ sysModules) (hk : k < 11)
    (h : ∀ t' s', St x g l s' → Q (.int ((fl k).getD 0) t') s') : wpAny (model PP w) A (call (.builtin "dict.get") [.ref d, .bytes (nm k) t, .int 0 u] []) Q E s := by
  obtain ⟨o, ho, f, h1, h2⟩ := S.get hd
  have h3 := h2 k
  refine dcGetD S ⟨o, ho, h1⟩ hs ⟨hk, t, rfl⟩ fun s' S' => ?_
  cases e : fl k with
  | none => rw [e] at h3 h; simp only at h3; rw [h3]; exact h u s' S'
  | some n => rw [e] at h3 h; obtain ⟨t', h3⟩ := h3; rw [h3]; exact h t' s' S'

/-- y.get(a, b) -/
theorem callGet {y : Str} {p1 p2 pos : Pos} {a1 a2 : PySem.Expr} {Q : Value → Shared → Prop}
    (h : wpAny (model PP w) A (eval (.Name y p1) env) (fun ov s₁ => ∃ d, ov = .ref d ∧ (∃ o, s₁.heap.get? d = some o ∧ o.cls = .type "dict" ∧ o.dict = none) ∧
      wpAny (model PP w) A (eval a1 env) (fun v s₂ => wpAny (model PP w) A (eval a2 env) (fun u s₃ => wpAny (model PP w) A (call (.builtin "dict.get") [.ref d, v, u] []) Q E s₃) E s₂) E s₁) E s)
    (hst : (starEach [a1, a2] env).all (fun y => !y.1) = true := by rfl) (hs : starEach [a1, a2] env = [(false, eval a1 env), (false, eval a2 env)] := by rfl) (hline : (p2.endLine == pos.line) = true := by rfl) :
    wpAny (model PP w) A (eval (.Call (.Attribute (.Name y p1) "get" p2) [a1, a2] [] pos) env) Q E s := by
  refine wpAny_Call_method (T := "dict") (id := "dict.get") rfl (by rw [hs]; rfl) hline PySem.F.plainAttrs_dict PySem.F.slot_dict_get PySem.F.type_dict_get (wpAny_mono h (fun ov s₁ h₁ => ?_) fun _ _ e => e)
  refine el13 h₁ fun d e23_ z24_ h₂ => ?_; try clear h₁; subst e23_; refine el13 z24_ fun o ho hc hd => ?_; try clear z24_
  refine (in03 ⟨o, ho, hc⟩ (fun b e => by cases e; exact (in12 o ho hd)) ?_)
  refine callWith_builtin (by rw [hs]; rfl) (argsOf hst ?_)
  rw [hs]
  exact spliced_cons (wpAny_mono h₂ (fun v s₂ h₃ => spliced_cons (wpAny_mono h₃ (fun u s₃ h₄ => spliced_nil h₄) fun _ _ e => e)) fun _ _ e => e)
theorem CsP.exact {fl : Fl} {o : Obj} (h : CsP w fl o) : o.cls = .type "dict" ∧ o.dict = none := by
  refine el12 h fun f z25_ _ => ?_; try clear h; refine el12 z25_ fun kvs z26_ _ => ?_; try clear z25_; refine el22 z26_ fun es ep hx _ => ?_; try clear z26_
  exact ⟨hx.1, hx.2.1⟩

set_option maxHeartbeats 4000000 in
theorem lcas_while {st : Stmt} {sc : Scope} {lp ls cn csd f a pq bd L : Addr} {mn : Int} {sh : Value} {b : Bool} {pr : Nat → Option (List Nat)} {tm : Nat → Option Int} {Dom : Nat → Prop} {Qn : Int → Int → Str} {fl0 : Fl} {q0 : List Im}
    {its : Array Im} {m : Str → Option Value} {ps : Array Value} {Q : Flow → Shared → Prop} {x0 : Wd} {g0 : Heap}
    (hst : (bodyOf w 90)[11]? = some st) (hsc : scopeOf w 90 = some sc) (G : LG w mg mb g lp ls f a pq bd sh b pr tm) (S : St x g (lcL w cn pq csd L [] g its fl0 ps m l) s) (hd : A.depth < 800) (hu : A.units < 3000) (hh : A.handled = none) (hcs : csd ≠ sysModules)
    (hF : FrL A { scope := sc, locals := L, globals := mainGlobals, cells := [("_DNC", bd)], qual := "_find_lcas.<locals>.", func := some 90, code := .ref 89, frame := some L, builtins := builtinsNs } L l)
    (hm : FM lp ls cn csd f a mn sh m) (T : TabOk g Qn ps) (hx : Side x0 x) (hg0 : Le g0 g) (hq0 : its.toList.Perm q0) (hok : Ok fl0 q0) (hmu : mu fl0 q0 ≤ 100)
    (hD1 : ∀ p ∈ q0, Dom p.2) (hD2 : ∀ k ps, Dom k → pr k = some ps → ∀ r ∈ ps, Dom r) (hD3 : ∀ k, Dom k → k < 11) (hlen : ∀ k ps, pr k = some ps → ps.length ≤ 100) (hpr11 : ∀ k ps, pr k = some ps → ∀ r ∈ ps, r < 11)
    (h : ∀ x' g' its' fl' cs' cvs m' ps' s', Le g g' → St x' g' (lcL w cn pq csd L cvs g' its' fl' ps' m' l) s' → Side x0 x' → TabOk g' Qn ps' → FM lp ls cn csd f a mn sh m' →
      Run pr tm mn fl0 q0 fl' its'.toList cs' → its'.toList.any (live fl') = false → Ok fl' its'.toList → OkC fl' cs' → Paired (fun c v => PrV g' c.1 c.2 v) cs' cvs → Q .next s') :
    wpAny (model PP w) A (exec st { scope := sc, locals := L, globals := mainGlobals, cells := [("_DNC", bd)], qual := "_find_lcas.<locals>.", func := some 90, code := .ref 89, frame := some L, builtins := builtinsNs }) Q (Thrown (ThP x0 g0 Qn b Dom pr tm) 87 L l) s := by
  have e0 := @_root_.id ((KK w).lookup 90 = some _) rfl
  have e := @_root_.id ((bodyOf w 90)[11]? = some _) (by unfold bodyOf; rw [e0]; exact rfl)
  rw [e] at hst
  cases hst
  have e2 := @_root_.id (scopeOf w 90 = some _) (by unfold scopeOf; rw [e0])
  rw [e2] at hsc
  cases hsc
  clear e e0 e2
  refine nameX ?_; intro ev Ex
  refine whileX (n := mu fl0 q0) (fun n x' g' l' => ∃ its' fl' cs' cvs m' ps', l' = lcL w cn pq csd L cvs g' its' fl' ps' m' l ∧ Side x0 x' ∧ TabOk g' Qn ps' ∧ FM lp ls cn csd f a mn sh m' ∧
      Run pr tm mn fl0 q0 fl' its'.toList cs' ∧ Ok fl' its'.toList ∧ OkC fl' cs' ∧ Paired (fun c v => PrV g' c.1 c.2 v) cs' cvs ∧ mu fl' its'.toList = n ∧ n ≤ 100 ∧ (∀ p ∈ its'.toList, Dom p.2)) S (Thrown.pass hF)
    (in611 its fl0 ([]) ([]) m ps rfl hx T hm (.perm .start hq0.symm) (hok.perm hq0.symm) ⟨List.nodup_nil, fun _ h => nomatch h⟩ (.nil) (by unfold mu; rw [hq0.length_eq]) hmu (fun p hp => hD1 p (hq0.mem_iff.mp hp))) ?_
  intro n x' g' l9 s' hg hJ S'
  refine nameQ ?_; intro Qx
  refine el69 hJ fun its' fl cs cvs m' ps' e27_ hx' T' hm' hrun hok' hokc hcv z28_ => ?_; try clear hJ; subst e27_; refine el03 z28_ fun hmn hn hdom => ?_; try clear z28_
  have G' := G.le hg
  unfold lcL at S'
  refine el71 (G'.hc) fun a1 a2 a3 a4 a5 a6 a7 z29_ => ?_; refine el23 z29_ fun a8 a9 hc1 hc2 hc3 => ?_; try clear z29_
  refine el11 (G'.dnc) fun tdn hdnc => ?_
  refine wpAny_isTrue_value (callFn ?_)
  obtain ⟨of, hof, fdf, hfd⟩ : ∃ o, g'.get? f = some o ∧ ∃ fd, o.data = .func fd := (in12 _ hc2 ⟨_, rfl⟩)
  refine ldL S' rfl rfl (by k_mem) hm'.hc (in33 f of fdf rfl hfd ?_)
  refine wpAny_items_cons (ldL S' rfl rfl (by k_mem) hm'.wl (wpAny_items_cons (ldL S' rfl rfl (by k_mem) hm'.cs (wpAny_items_nil ⟨S'.keep _ _ hof, ?_⟩))))
  have p3 : ∀ {x y z : Ent} {r : List Ent}, (x :: y :: z :: r).Perm (y :: z :: x :: r) := fun {x y z r} => (List.Perm.swap ..).trans ((List.Perm.swap ..).cons _)
  refine law_hc G'.W hc1 hc2 hc3 hdnc (S'.perm p3) (by show A.depth < 850; walk_at "om") hh G'.wl hcs fun x1 s1 hos hbare S1 => ?_
  have hx1 : Side x0 x1 := ⟨hos.trans hx'.1, fun h => hbare (hx'.2 h)⟩
  have S2 := S1.perm p3.symm
  refine wpAny_truthy_bool ?_
  unfold Qx
  cases hlive : its'.toList.any (live fl) with
  | false =>
    rw [if_neg (by decide)]
    exact h x1 g' its' fl cs cvs m' ps' s1 hg S2 hx1 T' hm' hrun hlive hok' hokc hcv
  | true =>
    rw [if_pos rfl]
    refine nameQ ?_; intro Qx
    have hne : 0 < its'.size := by
      rcases Nat.eq_zero_or_pos its'.size with e | e
      · have : its' = #[] := Array.eq_empty_of_size_eq_zero e
        rw [this] at hlive; simp at hlive
      · exact e
    have hsz : its'.size < 10000 := by
      have : its'.toList.length ≤ mu fl its'.toList := by unfold mu; walk_at "om"
      simp at this; walk_at "om"
    refine el22 (G'.W.fn 70 rfl rfl) fun o70 fd70 h70 h70d => ?_
    refine wpAny_execs_cons (wpAny_Assign_Name (callMeth rfl rfl rfl ?_))
    refine ldL S2 rfl rfl (by k_mem) hm'.wl (in44 a 70 o70 fd70 rfl h70d (wlMeth G'.W S2 G'.wl (by decide) (by kernel_rfl) (by kernel_rfl)) (wpAny_items_nil ⟨S2.keep _ _ h70, ?_⟩))
    refine law_get G'.W (S2.perm (.swap ..)) (by show A.depth < 900; walk_at "om") (by show A.units < 5000; walk_at "om") (.inl hh) G'.wl hsz hne fun g2 p v its2 s2 k2 hv S3 hperm hmin => ?_
    have G2 := G'.le k2
    have hcv2 : Paired (fun c v => PrV g2 c.1 c.2 v) cs cvs := pairMono (fun _ _ h => h.le k2) hcv
    have S4 := S3.perm (.swap ..)
    refine stL S4 rfl rfl (.tail (.tail (.tail .head))) fun s3 S5 => ?_
    have hm2 := hm'.upd (y := "result") (v := v) (by decide)
    refine el46 hv fun av ov uv nv e30_ hva hvt z31_ hk z32_ => ?_; try clear hv; subst e30_; refine el11 z31_ fun tv e33_ => ?_; try clear z31_; subst e33_; refine el11 z32_ fun tn e34_ => ?_; try clear z32_; subst e34_
    refine wpAny_execs_cons (wpAny_If (wpAny_isTrue_Compare1 ?_))
    refine ldL S5 rfl rfl (by k_mem) upd_same (wpAny_Constant_none (is_none_gen (wpAny_truthy_bool ?_)))
    rw [if_neg (by simp)]
    refine wpAny_execs_nil (wpAny_execs_cons (assignTup ?_))
    refine ldL S5 rfl rfl (by k_mem) upd_same ?_
    refine unpack2 S5 (.inl hh) (S5.isTup (in12 ov hva hvt)) rfl fun s4 S6 => ?_
    refine wpAny_assign_Name (stL S6 rfl rfl (.tail (.tail (.tail .head))) fun s5 S7 => ?_)
    refine wpAny_assign_Name (stL S7 rfl rfl (.tail (.tail (.tail .head))) fun s6 S8 => ?_)
    have hm3 := (hm2.upd (y := "dt") (v := .int (-p.1) tv) (by decide)).upd (y := "cmt") (v := .bytes (nm p.2) tn) (by decide)
    have hpq : p ∈ its'.toList := by
      have := (Array.perm_iff_toList_perm.mp hperm).mem_iff (a := p)
      rw [Array.toList_push] at this
      exact this.mpr (by simp)
    refine el02 (hok'.q p hpq) fun hk11 hfl0 => ?_
    refine el11 (Option.ne_none_iff_exists'.mp hfl0) fun f0 hf0 => ?_
    have hf16 := hok'.b _ _ hf0
    have hgd : (fl p.2).getD 0 = f0 := by rw [hf0]; rfl
    refine el11 (hm3.a1) fun ta1 ha1 => ?_
    refine el11 (hm3.a2) fun ta2 ha2 => ?_
    refine el11 (hm3.lca) fun tl8 hl8 => ?_
    refine el11 (G2.dnc) fun tdn2 hdnc2 => ?_
    have n3 : ∀ {y z v : Ent} {r : List Ent}, (y :: z :: v :: r).Perm (v :: y :: z :: r) := fun {y z v r} => ((List.Perm.swap ..).cons _).trans (.swap ..)
    -- cflags
    refine wpAny_execs_cons (wpAny_Assign_Name (wpAny_BinOp (subs ?_)))
    refine ldL S8 rfl rfl (by k_mem) hm3.cs ?_
    refine ldL S8 rfl rfl (by k_mem) upd_same ?_
    refine subFl S8 (by k_mem) hk11 hf0 fun t1 s7 S9 => wpAny_BinOp (wpAny_BinOp ?_)
    refine ldL S9 rfl rfl (by k_mem) ha1 (ldL S9 rfl rfl (by k_mem) ha2 (oOr S9 fun t2 s8 S10 => ?_))
    refine ldZ S10 (.inl rfl) rfl rfl hdnc2 (oOr S10 fun t3 s9 S11 => ?_)
    have o12 : Builtin.bitOr (Builtin.bitOr 1 2) 4 = ((7 : Nat) : Int) := by decide +kernel
    rw [o12]
    refine oAnd S11 fun t4 s10 S12 => ?_
    rw [bAnd f0 hf16 7 (by decide)]
    refine stL S12 rfl rfl (.tail (.tail (.tail .head))) fun s11 S13 => ?_
    have hm4 := hm3.upd (y := "cflags") (v := .int ((f0 &&& 7 : Nat) : Int) t4) (by decide)
    have hdt4 : upd (upd (upd (upd m' "result" (.ref av)) "dt" (.int (-p.1) tv)) "cmt" (.bytes (nm p.2) tn)) "cflags" (.int ((f0 &&& 7 : Nat) : Int) t4) "dt" = some (.int (-p.1) tv) := by walk_at "lk"
    have hcm4 : upd (upd (upd (upd m' "result" (.ref av)) "dt" (.int (-p.1) tv)) "cmt" (.bytes (nm p.2) tn)) "cflags" (.int ((f0 &&& 7 : Nat) : Int) t4) "cmt" = some (.bytes (nm p.2) tn) := by walk_at "lk"
    have hcf4 : upd (upd (upd (upd m' "result" (.ref av)) "dt" (.int (-p.1) tv)) "cmt" (.bytes (nm p.2) tn)) "cflags" (.int ((f0 &&& 7 : Nat) : Int) t4) "cflags" = some (.int ((f0 &&& 7 : Nat) : Int) t4) := upd_same
    generalize upd (upd (upd (upd m' "result" (.ref av)) "dt" (.int (-p.1) tv)) "cmt" (.bytes (nm p.2) tn)) "cflags" (.int ((f0 &&& 7 : Nat) : Int) t4) = m4 at *
    refine el11 (hm4.a1) fun tb1 hb1 => ?_
    refine el11 (hm4.a2) fun tb2 hb2 => ?_
    refine el11 (hm4.lca) fun tb8 hb8 => ?_
    refine wpAny_execs_cons (cut (fun r s' => r = .next ∧ ∃ g3 cvs3 m5 t5, Le g2 g3 ∧ St x1 g3 (lcL w cn pq csd L cvs3 g3 its2 (markF fl p.2 f0) ps' m5 l) s' ∧ FM lp ls cn csd f a mn sh m5 ∧ m5 "cflags" = some (.int (cfOf f0 : Nat) t5) ∧
      m5 "cmt" = some (.bytes (nm p.2) tn) ∧ Paired (fun c v => PrV g3 c.1 c.2 v) (candF cs (-p.1) p.2 f0) cvs3) (wpAny_If (wpAny_isTrue_Compare1 ?_)) ?_)
    · refine nameQ ?_; intro Qx
      refine ldL S13 rfl rfl (by k_mem) hcf4 (wpAny_BinOp (ldL S13 rfl rfl (by k_mem) hb1 (ldL S13 rfl rfl (by k_mem) hb2 (oOr S13 fun t5 s12 S14 => ?_))))
      have o12' : Builtin.bitOr 1 2 = ((3 : Nat) : Int) := by decide +kernel
      rw [o12']
      refine oEq (wpAny_truthy_bool ?_)
      by_cases h3 : f0 &&& 7 = 3
      · rw [if_pos (by rw [h3]; decide)]
        have hcf : cfOf f0 = 7 := by unfold cfOf; rw [if_pos h3]
        refine wpAny_execs_cons (cut (fun r s' => r = .next ∧ ∃ g3 cvs3, Le g2 g3 ∧ St x1 g3 (lcL w cn pq csd L cvs3 g3 its2 (markF fl p.2 f0) ps' m4 l) s' ∧ Paired (fun c v => PrV g3 c.1 c.2 v) (candF cs (-p.1) p.2 f0) cvs3)
          (wpAny_If (wpAny_isTrue_Not (wpAny_isTrue_Compare1 (wpAny_BinOp (subs ?_))))) ?_)
        · refine nameQ ?_; intro Qx
          refine ldL S14 rfl rfl (by k_mem) hm4.cs (ldL S14 rfl rfl (by k_mem) hcm4 ?_)
          refine subFl S14 (by k_mem) hk11 hf0 fun t6 s13 S15 => ldL S15 rfl rfl (by k_mem) hb8 (oAnd S15 fun t7 s14 S16 => ldL S16 rfl rfl (by k_mem) hb8 (oEq (wpAny_truthy_bool ?_)))
          rw [show (8 : Int) = ((8 : Nat) : Int) from rfl, bAnd f0 hf16 8 (by decide)]
          by_cases h8 : f0 &&& 8 = 8
          · rw [if_neg (by rw [h8]; decide)]
            have hn : isNew f0 = false := by unfold isNew; simp [h8]
            refine wpAny_execs_nil ⟨rfl, (in23 g2 cvs (Le.refl _) ?_ ?_)⟩
            · unfold markF; rw [hn]; exact S16
            · unfold candF; rw [hn]; exact hcv2
          · rw [if_pos (by simpa using fun e => h8 (by exact_mod_cast e))]
            have hn : isNew f0 = true := by unfold isNew; simp [h3, h8]
            refine wpAny_execs_cons (wpAny_Assign_Subscript (wpAny_BinOp (subs ?_)))
            refine ldL S16 rfl rfl (by k_mem) hm4.cs (ldL S16 rfl rfl (by k_mem) hcm4 ?_)
            refine subFl S16 (by k_mem) hk11 hf0 fun t8 s15 S17 => ldL S17 rfl rfl (by k_mem) hb8 (oOr S17 fun t9 s16 S18 => ?_)
            refine ldL S18 rfl rfl (by k_mem) hm4.cs (ldL S18 rfl rfl (by k_mem) hcm4 ?_)
            rw [show (8 : Int) = ((8 : Nat) : Int) from rfl, bOr f0 hf16 8 (by decide)]
            refine setFl (S18.perm n3) hk11 fun s17 S19 => ?_
            have S20 := S19.perm n3.symm
            refine wpAny_execs_cons (wpAny_Expr (callAppend ?_))
            refine ldL S20 rfl rfl (by k_mem) hm4.cn (in23 cn cvs rfl (S20.get (by k_mem)) (Tuple_ (wpAny_items_cons ?_)))
            refine ldL S20 rfl rfl (by k_mem) hdt4 (wpAny_items_cons (ldL S20 rfl rfl (by k_mem) hcm4 (wpAny_items_nil ?_)))
            refine nwTuple S20 (by size_fits) fun tp s18 S21 => ?_
            obtain ⟨g3, otp, k3, etp, ptp, _, S22⟩ := S21.freeze
            have hcl : cvs.length ≤ 11 := by
              have := pairLen hcv2
              have h2 := nodup_lt 11 _ hokc.n (fun y hy => by obtain ⟨c, hc, rfl⟩ := List.mem_map.mp hy; exact (hokc.m c hc).1)
              simp at h2; walk_at "om"
            refine appendL S22 .head (by rw [sizeLine_eq]; walk_at "om") fun s19 S23 => ?_
            refine wpAny_execs_nil ⟨rfl, (in23 g3 (cvs ++ [.ref tp]) k3 ?_ ?_)⟩
            · unfold markF; rw [if_pos hn]
              have S24 := ((S23.perm (.swap ..)).weak (P' := PqP g3 its2) fun o h => pqLe k3 h).perm (.swap ..)
              exact S24
            · unfold candF; rw [if_pos hn]
              exact (pairMono (fun _ _ h => h.le k3) hcv2).snoc (in46 tp otp _ _ rfl etp ptp ⟨_, rfl⟩ hk11 ⟨_, rfl⟩)
        · intro _ s13 hR2
          refine el02 hR2 fun e35_ z36_ => ?_; try clear hR2; subst e35_; refine el23 z36_ fun g3 cvs3 k3 S15 hcv3 => ?_; try clear z36_
          refine el11 ((G2.le k3).dnc) fun tdn3 hdnc3 => ?_
          unfold lcL at S15
          refine wpAny_execs_cons (wpAny_Assign_Name (wpAny_BinOp ?_))
          refine ldL S15 rfl rfl (by k_mem) hcf4 (ldZ S15 (.inl rfl) rfl rfl hdnc3 (oOr S15 fun t6 s14 S16 => ?_))
          rw [show (4 : Int) = ((4 : Nat) : Int) from rfl, bOr _ (by walk_at "om") 4 (by decide), h3]
          refine stL S16 rfl rfl (.tail (.tail (.tail .head))) fun s15 S17 => ?_
          refine wpAny_execs_nil ⟨rfl, (in46 g3 cvs3 _ _ k3 S17 (hm4.upd (by decide)) (by rw [hcf]; exact upd_same) (by walk_at "lk") hcv3)⟩
      · rw [if_neg (by simpa using fun e => h3 (by exact_mod_cast e))]
        refine wpAny_execs_nil ⟨rfl, (in46 g2 cvs m4 t4 (Le.refl _) ?_ hm4 ?_ hcm4 ?_)⟩
        · have : markF fl p.2 f0 = fl := by unfold markF isNew; simp [h3]
          rw [this]; exact S14
        · rw [hcf4]; unfold cfOf; rw [if_neg h3]
        · have : candF cs (-p.1) p.2 f0 = cs := by unfold candF isNew; simp [h3]
          rw [this]; exact hcv2
    · intro _ s12 hR2
      refine el02 hR2 fun e37_ z38_ => ?_; try clear hR2; subst e37_; refine el46 z38_ fun g3 cvs3 m5 t5 k3 S14 hm5 hcf5 hcm5 hcv3 => ?_; try clear z38_
      have G3 := G2.le k3
      have hg3 : Le g g3 := hg.trans (k2.trans k3)
      have T3 : TabOk g3 Qn ps' := T'.le (k2.trans k3)
      unfold lcL at S14
      clear S13 S12 S11 S10 S9 S8 S7 S6 S5 S4 S3
      refine el22 (G3.lp.obj) fun olp fdlp holp hfdlp => ?_
      -- after the lookup: the parents, or none
      refine wpAny_execs_cons (cut (fun r s' => (r = .cont ∧ pr p.2 = none ∧ b = true ∧ St x1 g3 (lcL w cn pq csd L cvs3 g3 its2 (markF fl p.2 f0) ps' m5 l) s') ∨
        (r = .next ∧ ∃ ps pa pvs, pr p.2 = some ps ∧ g3.IsList pa pvs.toArray ∧ Paired NmV ps pvs ∧ St x1 g3 (lcL w cn pq csd L cvs3 g3 its2 (markF fl p.2 f0) ps' (upd m5 "parents" (.ref pa)) l) s')) (tryKey (mg := mg) (mb := mb) (L := L) hF.top rfl rfl rfl rfl rfl ?_) ?_)
      · refine nameQ ?_; intro Qx
        refine wpAny_execs_cons (wpAny_Assign_Name (callFn ?_))
        refine ldL S14 rfl rfl (by k_mem) hm5.lp (in33 lp olp fdlp rfl hfdlp (wpAny_items_cons (ldL S14 rfl rfl (by k_mem) hcm5 (wpAny_items_nil ⟨S14.keep _ _ holp, ?_⟩))))
        refine G3.lp.run (k := p.2) (Le.refl _) S14 (by walk_at "om") hh (hF.ok _ ⟨m5, by k_mem⟩ fun q hq => by simp [hq]) ⟨hk11, ⟨tn, rfl⟩⟩ (fun P z s13 hP hz S15 => ?_) (fun hP e T s13 S15 => ?_)
        · unfold PrF at hP
          cases hpr : pr p.2 with
          | none => rw [hpr] at hP; cases hP
          | some ps2 =>
            rw [hpr] at hP; cases hP
            refine el23 hz fun pa pvs e39_ hpl hpp => ?_; try clear hz; subst e39_
            refine stL S15 rfl rfl (.tail (.tail (.tail .head))) fun s14 S16 => wpAny_execs_nil ?_
            exact .inr ⟨rfl, (in34 ps2 pa pvs hpr hpl hpp S16)⟩
        · have hpr : pr p.2 = none := by
            unfold PrF at hP
            cases e : pr p.2 with
            | none => rfl
            | some _ => rw [e] at hP; cases hP
          refine (in55 e T x1 g3 _ rfl (G3.W) S15 (hF.ok _ ⟨m5, by k_mem⟩ fun q hq => by simp [hq]) (fun T' s14 S16 => ?_))
          refine wpAny_execs_cons (wpAny_If (notNoneAnd G3.sh S16 rfl rfl (by k_mem) hm5.sh fun s15 S17 => ?_))
          cases b with
          | true =>
            rw [if_pos rfl]
            exact wpAny_execs_cons (wpAny_Continue (.inl (in04 rfl hpr rfl (S17.drop.drop))))
          | false =>
            rw [if_neg (by decide)]
            refine wpAny_execs_nil (wpAny_execs_cons (rethrow S17 rfl fun s16 S18 => ?_))
            exact (in79 x1 g3 e T' _ ([(cn, ListP cvs3), (pq, PqP g3 its2), (csd, CsP w (markF fl p.2 f0)), (L, NsP m5)]) ps' rfl (.inr rfl) S18 ⟨m5, by k_mem⟩ hx1 (hg0.trans hg3) T3 rfl (in12 (p.2) (hdom p hpq) (.inr hpr)))
      · have hP : its'.toList.Perm (p :: its2.toList) := by
          have := Array.perm_iff_toList_perm.mp hperm
          rw [Array.toList_push] at this
          exact this.trans (List.perm_append_comm (l₁ := its2.toList) (l₂ := [p]))
        have hokp := hok'.perm hP
        have fin : ∀ g4 its4 fl4 cvs4 m6 s', Le g3 g4 → St x1 g4 (lcL w cn pq csd L cvs4 g4 its4 fl4 ps' m6 l) s' → FM lp ls cn csd f a mn sh m6 → fl4 = (stepF pr tm mn fl its2.toList cs p).1 → (stepF pr tm mn fl its2.toList cs p).2.1.Perm its4.toList →
            Paired (fun c v => PrV g4 c.1 c.2 v) (candF cs (-p.1) p.2 f0) cvs4 → (∀ q ∈ its4.toList, Dom q.2) →
            ∃ m x'' g'' l'', m < n ∧ Le g' g'' ∧ St x'' g'' l'' s' ∧ ∃ its' fl' cs' cvs m' ps', l'' = lcL w cn pq csd L cvs g'' its' fl' ps' m' l ∧ Side x0 x'' ∧ TabOk g'' Qn ps' ∧ FM lp ls cn csd f a mn sh m' ∧
      Run pr tm mn fl0 q0 fl' its'.toList cs' ∧ Ok fl' its'.toList ∧ OkC fl' cs' ∧ Paired (fun c v => PrV g'' c.1 c.2 v) cs' cvs ∧ mu fl' its'.toList = m ∧ m ≤ 100 ∧ (∀ p ∈ its'.toList, Dom p.2) := by
          intro g4 its4 fl4 cvs4 m6 s' k4 S4 hm6 hfl hq hcv4 hdom4
          subst hfl
          have h1 := step_ok (tm := tm) (mn := mn) (cs := cs) hokp hpr11
          have h2 := OkC.step (tm := tm) (mn := mn) hokp hokc hpr11
          have e3 : (stepF pr tm mn fl its2.toList cs p).2.2 = candF cs (-p.1) p.2 f0 := by unfold stepF; rw [hgd]
          have hmn2 : mu (stepF pr tm mn fl its2.toList cs p).1 its4.toList < n := by
            have e1 : mu (stepF pr tm mn fl its2.toList cs p).1 its4.toList = mu (stepF pr tm mn fl its2.toList cs p).1 (stepF pr tm mn fl its2.toList cs p).2.1 := by unfold mu; rw [hq.length_eq]
            have e2 : mu fl (p :: its2.toList) = n := by rw [← hmn]; unfold mu; rw [hP.length_eq]
            rw [e1]; have := h1.2; walk_at "om"
          refine (in44 (mu (stepF pr tm mn fl its2.toList cs p).1 its4.toList) x1 g4 _ hmn2 (k2.trans (k3.trans k4)) S4 (in611 its4 _ ((stepF pr tm mn fl its2.toList cs p).2.2) cvs4 m6 ps' rfl hx1 (T3.le k4) hm6 (
            .perm (.step (hrun.perm hP) (fun r hr => hmin r ?_) ?_) hq) (h1.1.perm hq) h2 (by rw [e3]; exact hcv4) rfl (by walk_at "om") hdom4))
          · have := hP.mem_iff (a := r)
            simpa using this.mpr (List.mem_cons_of_mem _ hr)
          · rw [← hP.any_eq]; exact hlive
        rintro r s13 (⟨rfl, hpr, rfl, S15⟩ | ⟨rfl, ps2, pa, pvs, hpr, hpl, hpp, S15⟩)
        · refine fin g3 its2 _ cvs3 m5 s13 (Le.refl _) S15 hm5 ?_ ?_ hcv3 ?_
          · unfold stepF; rw [hpr, hgd]; rfl
          · unfold stepF; rw [hpr]; exact List.Perm.refl _
          · exact fun q hq => hdom q (hP.mem_iff.mpr (List.mem_cons_of_mem _ hq))
        · have hplen := pairLen hpp
          have hl100 := hlen _ _ hpr
          unfold lcL at S15
          refine wpAny_execs_cons (wpAny_If (wpAny_isTrue_value ?_))
          refine ldL S15 rfl rfl (by k_mem) upd_same (truthyL S15 (isList_le hpl S15.keep) (by walk_at "om") fun s14 S16 => ?_)
          cases hem : pvs.isEmpty with
          | true =>
            have hnil : ps2 = [] := by
              have : pvs = [] := List.isEmpty_iff.mp hem
              rw [this] at hplen; exact List.length_eq_zero_iff.mp hplen
            rw [if_neg (by simp)]
            refine wpAny_execs_nil (wpAny_execs_nil ?_)
            refine fin g3 its2 _ cvs3 _ s14 (Le.refl _) S16 (hm5.upd (by decide)) ?_ ?_ hcv3 ?_
            · unfold stepF; rw [hpr, hnil, hgd]; rfl
            · unfold stepF; rw [hpr, hnil]; exact List.Perm.refl _
            · exact fun q hq => hdom q (hP.mem_iff.mpr (List.mem_cons_of_mem _ hq))
          | false =>
            rw [if_pos (by simp)]
            refine wpAny_execs_cons (wpAny_For ?_)
            refine ldL S16 rfl rfl (by k_mem) upd_same (iterList S16 hpl fun it s15 S17 I => ?_)
            have hm6 := hm5.upd (y := "parents") (v := .ref pa) (by decide)
            have hcf6 : upd m5 "parents" (.ref pa) "cflags" = some (.int (cfOf f0 : Nat) t5) := by walk_at "lk"
            generalize upd m5 "parents" (.ref pa) = m6 at *
            have hcf8 : cfOf f0 < 8 := and7 _ hf16
            refine forIt (fun i g4 l4 => ∃ its3 fl3 m7, l4 = lcL w cn pq csd L cvs3 g4 its3 fl3 ps' m7 l ∧ Le g3 g4 ∧ FM lp ls cn csd f a mn sh m7 ∧ m7 "cflags" = some (.int (cfOf f0 : Nat) t5) ∧
              fl3 = ((ps2.take i).foldl (pstep tm mn (cfOf f0)) (markF fl p.2 f0, its2.toList)).1 ∧ ((ps2.take i).foldl (pstep tm mn (cfOf f0)) (markF fl p.2 f0, its2.toList)).2.Perm its3.toList ∧ (∀ q ∈ its3.toList, Dom q.2)) S17 I hh (Thrown.pass hF)
              (in37 its2 _ m6 rfl (Le.refl _) hm6 hcf6 (by simp) (by simp) (fun q hq => hdom q (hP.mem_iff.mpr (List.mem_cons_of_mem _ hq)))) ?_ ?_
            · intro i v g4 l9 s16 hi hv hg4 hJ S18
              refine nameQ ?_; intro Qx
              refine el37 hJ fun its3 fl3 m7 e40_ _ hm7 hcf7 hfl3 hq3 hdom3 => ?_; try clear hJ; subst e40_
              unfold lcL at S18
              have G4 := G3.le hg4
              refine el12 (pairGet' hpp hv) fun k hk hkv => ?_
              refine el02 hkv fun hk11' z41_ => ?_; try clear hkv; refine el11 z41_ fun tk e42_ => ?_; try clear z41_; subst e42_
              have hDk : Dom k := hD2 _ _ (hdom p hpq) hpr k (List.mem_of_getElem? hk)
              have htake : ps2.take (i + 1) = ps2.take i ++ [k] := by
                refine el11 (List.getElem?_eq_some_iff.mp hk) fun h1 h2 => ?_
                rw [← h2, List.take_succ_eq_append_getElem h1]
              obtain ⟨hokf, hmuf⟩ := foldl_ok (tm := tm) (mn := mn) hcf8 (ps2.take i) (markF fl p.2 f0, its2.toList) (fun r hr => hpr11 _ _ hpr r (List.mem_of_mem_take hr))
                (by
                  have hq : Ok fl its2.toList := ⟨fun r hr => hokp.q r (List.mem_cons_of_mem _ hr), hokp.b, hokp.k⟩
                  have := (hq.mark hk11).1
                  rwa [hgd] at this)
              have hok3 : Ok fl3 its3.toList := by rw [hfl3]; exact hokf.perm hq3
              generalize hz : (ps2.take i).foldl (pstep tm mn (cfOf f0)) (markF fl p.2 f0, its2.toList) = z at hfl3 hq3
              have hfold : (ps2.take (i + 1)).foldl (pstep tm mn (cfOf f0)) (markF fl p.2 f0, its2.toList) = pstep tm mn (cfOf f0) z k := by
                rw [htake, List.foldl_append, hz]; rfl
              have hpf16 := getD_lt hok3.b k
              -- nothing is done with this parent
              have same : ∀ m8 s', pstep tm mn (cfOf f0) z k = z → FM lp ls cn csd f a mn sh m8 → m8 "cflags" = some (.int (cfOf f0 : Nat) t5) → St x1 g4 ((it, LIterP pa (i + 1)) :: lcL w cn pq csd L cvs3 g4 its3 fl3 ps' m8 l) s' →
                  ∃ g'' l'', Le g4 g'' ∧ St x1 g'' ((it, LIterP pa (i + 1)) :: l'') s' ∧ ∃ its3 fl3 m7, l'' = lcL w cn pq csd L cvs3 g'' its3 fl3 ps' m7 l ∧ Le g3 g'' ∧ FM lp ls cn csd f a mn sh m7 ∧ m7 "cflags" = some (.int (cfOf f0 : Nat) t5) ∧
                    fl3 = ((ps2.take (i + 1)).foldl (pstep tm mn (cfOf f0)) (markF fl p.2 f0, its2.toList)).1 ∧ ((ps2.take (i + 1)).foldl (pstep tm mn (cfOf f0)) (markF fl p.2 f0, its2.toList)).2.Perm its3.toList ∧ (∀ q ∈ its3.toList, Dom q.2) :=
                fun m8 s' e h1 h2 h3 => (in23 g4 _ (Le.refl _) h3 (in37 its3 fl3 m8 rfl hg4 h1 h2 (by rw [hfold, e]; exact hfl3) (by rw [hfold, e]; exact hq3) hdom3))
              refine wpAny_assign_Name (stL S18 rfl rfl (.tail (.tail (.tail (.tail .head)))) fun s17 S19 => ?_)
              refine nameQ ?_; intro Qy
              refine wpAny_execs_cons (wpAny_Assign_Name (callGet ?_))
              refine ldL S19 rfl rfl (by k_mem) (by have := hm7.cs; walk_at "lk") (in13 csd rfl ?_ ?_)
              · refine el12 (S19.get (a := csd) (P := CsP w fl3) (by k_mem)) fun o ho hc => ?_
                exact (in12 o ho (hc.exact))
              refine ldL S19 rfl rfl (by k_mem) upd_same (cInt S19 fun t6 s18 S20 => getFl S20 (by k_mem) hcs hk11' fun t7 s19 S21 => ?_)
              refine stL S21 rfl rfl (.tail (.tail (.tail (.tail .head)))) fun s20 S22 => ?_
              have hm8 := (hm7.upd (y := "pcmt") (v := .bytes (nm k) tk) (by decide)).upd (y := "pflags") (v := .int ((fl3 k).getD 0 : Nat) t7) (by decide)
              have hcf8' : upd (upd m7 "pcmt" (.bytes (nm k) tk)) "pflags" (.int ((fl3 k).getD 0 : Nat) t7) "cflags" = some (.int (cfOf f0 : Nat) t5) := by walk_at "lk"
              have hpc8 : upd (upd m7 "pcmt" (.bytes (nm k) tk)) "pflags" (.int ((fl3 k).getD 0 : Nat) t7) "pcmt" = some (.bytes (nm k) tk) := by walk_at "lk"
              have hpf8 : upd (upd m7 "pcmt" (.bytes (nm k) tk)) "pflags" (.int ((fl3 k).getD 0 : Nat) t7) "pflags" = some (.int ((fl3 k).getD 0 : Nat) t7) := by walk_at "lk"
              generalize upd (upd m7 "pcmt" (.bytes (nm k) tk)) "pflags" (.int ((fl3 k).getD 0 : Nat) t7) = m8 at *
              refine wpAny_execs_cons (wpAny_If (wpAny_isTrue_Compare1 (wpAny_BinOp ?_)))
              refine ldL S22 rfl rfl (by k_mem) hpf8 (ldL S22 rfl rfl (by k_mem) hcf8' (oAnd S22 fun t8 s21 S23 => ldL S23 rfl rfl (by k_mem) hcf8' (oEq (wpAny_truthy_bool ?_))))
              rw [bAnd _ hpf16 _ (by walk_at "om")]
              by_cases hc : (fl3 k).getD 0 &&& cfOf f0 = cfOf f0
              · rw [if_pos (by rw [hc]; simp)]
                refine wpAny_execs_cons (wpAny_Continue ?_)
                exact same m8 _ (by unfold pstep; rw [← hfl3, if_pos hc]) hm8 hcf8' S23
              · rw [if_neg (by simpa using fun e => hc (by exact_mod_cast e))]
                refine wpAny_execs_nil ?_
                refine el22 (G4.ls.obj) fun ols fdls hols hfdls => ?_
                refine wpAny_execs_cons (cut (fun r s' => (r = .cont ∧ tm k = none ∧ St x1 g4 ((it, LIterP pa (i + 1)) :: lcL w cn pq csd L cvs3 g4 its3 fl3 ps' m8 l) s') ∨
                  (r = .next ∧ ∃ t tt, tm k = some t ∧ St x1 g4 ((it, LIterP pa (i + 1)) :: lcL w cn pq csd L cvs3 g4 its3 fl3 ps' (upd m8 "pdt" (.int t tt)) l) s')) (tryKey (mg := mg) (mb := mb) (L := L) hF.top rfl rfl rfl rfl rfl ?_) ?_)
                · refine wpAny_execs_cons (wpAny_Assign_Name (callFn ?_))
                  refine ldL S23 rfl rfl (by k_mem) hm8.ls (in33 ls ols fdls rfl hfdls (wpAny_items_cons (ldL S23 rfl rfl (by k_mem) hpc8 (wpAny_items_nil ⟨S23.keep _ _ hols, ?_⟩))))
                  refine G4.ls.run (k := k) (Le.refl _) S23 (by walk_at "om") hh (hF.ok _ ⟨m8, by k_mem⟩ fun q hq => by simp [hq]) ⟨hk11', ⟨tk, rfl⟩⟩ (fun P z' s22 hP' hz' S24 => ?_) (fun hP' e T s22 S24 => ?_)
                  · unfold TmF at hP'
                    cases htm : tm k with
                    | none => rw [htm] at hP'; cases hP'
                    | some t =>
                      rw [htm] at hP'; cases hP'
                      refine el11 hz' fun tt e43_ => ?_; try clear hz'; subst e43_
                      refine stL S24 rfl rfl (.tail (.tail (.tail (.tail .head)))) fun s23 S25 => wpAny_execs_nil ?_
                      exact .inr ⟨rfl, (in22 t tt rfl S25)⟩
                  · have htm : tm k = none := by
                      unfold TmF at hP'
                      cases e : tm k with
                      | none => rfl
                      | some _ => rw [e] at hP'; cases hP'
                    refine (in55 e T x1 g4 _ rfl (G4.W) S24 (hF.ok _ ⟨m8, by k_mem⟩ fun q hq => by simp [hq]) (fun T' s23 S25 => ?_))
                    refine wpAny_execs_cons (wpAny_If (notNoneAnd G4.sh S25 rfl rfl (by k_mem) hm8.sh fun s24 S26 => ?_))
                    cases b with
                    | true =>
                      rw [if_pos rfl]
                      exact wpAny_execs_cons (wpAny_Continue (.inl (in03 rfl htm (S26.drop.drop))))
                    | false =>
                      rw [if_neg (by decide)]
                      refine wpAny_execs_nil (wpAny_execs_cons (rethrow S26 rfl fun s25 S27 => ?_))
                      exact (in79 x1 g4 e T' _ ([(it, LIterP pa (i + 1)), (cn, ListP cvs3), (pq, PqP g4 its3), (csd, CsP w fl3), (L, NsP m8)]) ps' rfl (.inr rfl) S27 ⟨m8, by k_mem⟩ hx1 (hg0.trans (hg3.trans hg4)) (T3.le hg4) rfl (in12 k hDk (.inl htm)))
                · rintro r s22 (⟨rfl, htm, S24⟩ | ⟨rfl, t, tt, htm, S24⟩)
                  · exact same m8 _ (by unfold pstep; rw [← hfl3, if_neg hc, htm]) hm8 hcf8' S24
                  · have hm9 := hm8.upd (y := "pdt") (v := .int t tt) (by decide)
                    have hcf9 : upd m8 "pdt" (.int t tt) "cflags" = some (.int (cfOf f0 : Nat) t5) := by walk_at "lk"
                    have hpc9 : upd m8 "pdt" (.int t tt) "pcmt" = some (.bytes (nm k) tk) := by walk_at "lk"
                    have hpf9 : upd m8 "pdt" (.int t tt) "pflags" = some (.int ((fl3 k).getD 0 : Nat) t7) := by walk_at "lk"
                    have hpd9 : upd m8 "pdt" (.int t tt) "pdt" = some (.int t tt) := upd_same
                    generalize upd m8 "pdt" (.int t tt) = m9 at *
                    refine el11 (hm9.mn) fun tmn hmnv => ?_
                    unfold lcL at S24
                    refine wpAny_execs_cons (wpAny_If (wpAny_isTrue_Compare1 ?_))
                    refine ldL S24 rfl rfl (by k_mem) hpd9 (ldL S24 rfl rfl (by k_mem) hmnv (oLt (wpAny_truthy_bool ?_)))
                    by_cases hlt : t < mn
                    · rw [if_pos (by simpa using hlt)]
                      refine wpAny_execs_cons (wpAny_Continue ?_)
                      exact same m9 _ (by unfold pstep; rw [← hfl3, if_neg hc, htm]; simp [hlt]) hm9 hcf9 S24
                    · rw [if_neg (by simpa using hlt)]
                      refine wpAny_execs_nil (wpAny_execs_cons (wpAny_Assign_Subscript (wpAny_BinOp ?_)))
                      refine ldL S24 rfl rfl (by k_mem) hpf9 (ldL S24 rfl rfl (by k_mem) hcf9 (oOr S24 fun t9 s23 S25 => ?_))
                      refine ldL S25 rfl rfl (by k_mem) hm9.cs (ldL S25 rfl rfl (by k_mem) hpc9 ?_)
                      rw [bOr _ hpf16 _ (by walk_at "om")]
                      have n4 : ∀ {y z v u : Ent} {r : List Ent}, (y :: z :: v :: u :: r).Perm (u :: y :: z :: v :: r) := fun {y z v u r} => (((List.Perm.swap ..).cons _).cons _).trans n3
                      refine setFl (S25.perm n4) hk11' fun s24 S26 => ?_
                      have S27 := S26.perm n4.symm
                      refine el22 (G4.W.fn 63 rfl rfl) fun o63 fd63 h63 h63d => ?_
                      refine wpAny_execs_cons (wpAny_Expr (callMeth rfl rfl rfl ?_) rfl rfl)
                      refine ldL S27 rfl rfl (by k_mem) hm9.wl (in44 a 63 o63 fd63 rfl h63d (wlMeth G4.W S27 G4.wl (by decide) (by kernel_rfl) (by kernel_rfl)) (wpAny_items_cons (Tuple_ (wpAny_items_cons ?_))))
                      refine ldL S27 rfl rfl (by k_mem) hpd9 (wpAny_items_cons (ldL S27 rfl rfl (by k_mem) hpc9 (wpAny_items_nil ?_)))
                      refine nwTuple S27 (by size_fits) fun tp s25 S28 => ?_
                      refine el25 (S28.freeze) fun g5 otp k5 etp ptp _ S29 => ?_
                      have G5 := G4.le k5
                      refine wpAny_items_nil ⟨S29.keep _ _ (k5 _ _ h63), ?_⟩
                      have p5 : ∀ {y z v : Ent} {r : List Ent}, (y :: z :: v :: r).Perm (v :: y :: z :: r) := fun {y z v r} => ((List.Perm.swap ..).cons _).trans (.swap ..)
                      have S30 := (S29.perm p5).weak (P' := PqP g5 its3) fun o h => pqLe k5 h
                      have hsz3 : its3.size < 10000 := by
                        have e1 := hq3.length_eq
                        have e2 : z.2.length ≤ mu z.1 z.2 := by unfold mu; walk_at "om"
                        have e3 : mu (markF fl p.2 f0) its2.toList = mu fl its2.toList := by
                          have hq : Ok fl its2.toList := ⟨fun r hr => hokp.q r (List.mem_cons_of_mem _ hr), hokp.b, hokp.k⟩
                          have := (hq.mark hk11).2
                          rwa [hgd] at this
                        have e4 : mu fl its2.toList ≤ mu fl its'.toList := by unfold mu; rw [hP.length_eq]; simp only [List.length_cons]; walk_at "om"
                        rw [hz] at hmuf
                        simp only at hmuf
                        simp at e1; walk_at "om"
                      refine law_add (l' := []) G5.W S30 (by show A.depth < 900; walk_at "om") (by show A.units < 5000; walk_at "om") (.inl hh) G5.wl ⟨otp, etp, ptp⟩ ⟨_, rfl⟩ ⟨hk11', _, rfl⟩ hsz3 fun g6 its4 s26 k6 S31 hp4 => ?_
                      have S32 := S31.perm p5.symm
                      have hst : pstep tm mn (cfOf f0) z k = (addF z.1 k (((z.1 k).getD 0) ||| cfOf f0), (-t, k) :: z.2) := by
                        unfold pstep; rw [← hfl3, if_neg hc, htm]; simp [hlt]
                      have hp4' : its4.toList.Perm ((-t, k) :: its3.toList) := by
                        have := Array.perm_iff_toList_perm.mp hp4
                        rw [Array.toList_push] at this
                        exact this.trans (List.perm_append_comm (l₁ := its3.toList) (l₂ := [(-t, k)]))
                      refine wpAny_execs_nil (in23 g6 _ (k5.trans k6) S32 (in37 its4 (addF fl3 k ((fl3 k).getD 0 ||| cfOf f0)) m9 rfl (hg4.trans (k5.trans k6)) hm9 hcf9 ?_ ?_ ?_))
                      · rw [hfold, hst, hfl3]
                      · rw [hfold, hst]; exact (hq3.cons _).trans hp4'.symm
                      · intro q hq
                        rcases List.mem_cons.mp (hp4'.mem_iff.mp hq) with rfl | hq
                        · exact hDk
                        · exact hdom3 q hq
            · intro g4 _ s16 hg4 hR4 S18
              refine el37 hR4 fun its3 fl3 m7 e44_ _ hm7 hcf7 hfl3 hq3 hdom3 => ?_; try clear hR4; subst e44_
              have htk : ps2.take pvs.length = ps2 := by rw [← hplen]; exact List.take_length
              rw [htk] at hfl3 hq3
              refine wpAny_execs_nil (wpAny_execs_nil ?_)
              refine fin g4 its3 fl3 cvs3 m7 s16 hg4 S18 hm7 ?_ ?_ (pairMono (fun _ _ h => h.le hg4) hcv3) hdom3
              · rw [hfl3]; unfold stepF; rw [hpr, hgd]; rfl
              · unfold stepF; rw [hpr, hgd]; exact hq3
end Jr
end
-- KB
section
namespace Jr
open PySem PySem.W PySem.Calls PySem.SeqAt PySem.Builtin PyProof.Rows PySem.Spec
variable {x : Wd} {g : Heap} {l : List Ent} {s : Shared} {E : Value → Shared → Prop} {w : World} {mg mb : Str → Option Value} {A : Around} {env : Env}


theorem tupEq {a1 a2 : Addr} {t1 t2 : Int} {k1 k2 : Nat} {u1 u2 n1 n2 : Value} {o1 o2 : Obj} (h1 : s.heap.get? a1 = some o1) (p1 : TupP [u1, n1] o1) (h2 : s.heap.get? a2 = some o2) (p2 : TupP [u2, n2] o2) (q1 : TmV t1 u1) (q2 : TmV t2 u2) (r1 : NmV k1 n1) (r2 : NmV k2 n2)
    (hne : a1 ≠ a2) (hu : A.units < cLine) : EqAt A s (.ref a1) (.ref a2) (decide (t1 = t2) && decide (k1 = k2)) := by
  refine el11 q1 fun tt1 e184_ => ?_; try clear q1; subst e184_
  refine el11 q2 fun tt2 e185_ => ?_; try clear q2; subst e185_
  refine el02 r1 fun hk1 z186_ => ?_; try clear r1; refine el11 z186_ fun tn1 e187_ => ?_; try clear z186_; subst e187_
  obtain ⟨hk2, tn2, rfl⟩ := r2
  refine EqAt.of_refs hne ?_
  have := RcAt.tuples (A := A) (s := s) (l := a1) (b := a2) (items := #[.int t1 tt1, .bytes (nm k1) tn1]) (items2 := #[.int t2 tt2, .bytes (nm k2) tn2]) (e := fun j => if j = 0 then decide (t1 = t2) else decide (k1 = k2))
    (in13 o1 h1 (p1.1) (p1.2.2)) (in13 o2 h2 (p2.1) (p2.2.2)) hu (fun j hj1 hj2 => by
      have hj : j < 2 := hj1
      match j, hj with
      | 0, _ =>
        have := EqAt.int_int t1 tt1 t2 tt2 (A := A.in1) (s := s)
        have e : (t1 == t2) = decide (t1 = t2) := by
          by_cases h : t1 = t2
          · simp [h]
          · rw [decide_eq_false h]; exact beq_eq_false_iff_ne.mpr h
        rw [e] at this
        simpa using this
      | 1, _ =>
        have := eqAtBytes (A := A.in1) (s := s) (nm k1) (nm k2) tn1 tn2
        rw [nm_eq _ hk1 _ hk2] at this
        simpa using this)
  simpa [List.range_succ] using this

def notDnc (fl : Fl) (c : Im) : Bool := !(((fl c.2).getD 0) &&& 4 == 4)
set_option maxHeartbeats 4000000 in
theorem lcas_res {st : Stmt} {sc : Scope} {lp ls cn csd f a pq bd L ra : Addr} {mn : Int} {sh : Value} {fl : Fl} {q cs : List Im} {its : Array Im} {m : Str → Option Value} {ps : Array Value} {cvs : List Value} {tdn : Tok} {Q : Flow → Shared → Prop}
    (hst : (bodyOf w 90)[13]? = some st) (hsc : scopeOf w 90 = some sc) (S : St x g ((ra, ListP []) :: (pq, PqP g its) :: (csd, CsP w fl) :: (L, NsP m) :: (87, (· = tabObj ps)) :: l) s) (hu : A.units < 3000) (hh : A.handled = none)
    (hm : FM lp ls cn csd f a mn sh m) (hr : m "results" = some (.ref ra)) (hdnc : Cellz g bd (.int 4 tdn)) (hcn : g.IsList cn cvs.toArray) (hcv : Paired (fun c v => PrV g c.1 c.2 v) cs cvs) (hok : Ok fl q) (hc : OkC fl cs)
    (h : ∀ g' rvs m' s', Le g g' → St x g' ((ra, ListP rvs) :: (pq, PqP g' its) :: (csd, CsP w fl) :: (L, NsP m') :: (87, (· = tabObj ps)) :: l) s' → FM lp ls cn csd f a mn sh m' → m' "results" = some (.ref ra) →
      Paired (fun c v => PrV g' c.1 c.2 v) (cs.filter (notDnc fl)) rvs → Q .next s') :
    wpAny (model PP w) A (exec st { scope := sc, locals := L, globals := mainGlobals, cells := [("_DNC", bd)], qual := "_find_lcas.<locals>.", func := some 90, code := .ref 89, frame := some L, builtins := builtinsNs }) Q (fun _ _ => False) s := by
  have e0 := @_root_.id ((KK w).lookup 90 = some _) rfl
  have e := @_root_.id ((bodyOf w 90)[13]? = some _) (by unfold bodyOf; rw [e0]; exact rfl)
  rw [e] at hst
  cases hst
  have e2 := @_root_.id (scopeOf w 90 = some _) (by unfold scopeOf; rw [e0])
  rw [e2] at hsc
  cases hsc
  clear e e0 e2
  refine nameX ?_; intro ev Ex
  have hlen := pairLen hcv
  have hcl : cs.length ≤ 11 := by
    have h2 := nodup_lt 11 _ hc.n (fun y hy => by obtain ⟨c, hc', rfl⟩ := List.mem_map.mp hy; exact (hc.m c hc').1)
    simpa using h2
  refine wpAny_For ?_
  refine ldL S rfl rfl (by k_mem) hm.cn (iterList S hcn fun it s₁ S1 I => ?_)
  refine forIt (fun i g' l' => ∃ rvs m', l' = (ra, ListP rvs) :: (pq, PqP g' its) :: (csd, CsP w fl) :: (L, NsP m') :: (87, (· = tabObj ps)) :: l ∧ FM lp ls cn csd f a mn sh m' ∧ m' "results" = some (.ref ra) ∧
    Paired (fun c v => PrV g' c.1 c.2 v) ((cs.take i).filter (notDnc fl)) rvs) S1 I hh Pass.never (in24 ([]) m rfl hm hr (by simp; exact .nil)) ?_ ?_
  · intro i v g1 _ s₂ hi hv hg hJ8 S2
    refine nameQ ?_; intro Qx
    refine el24 hJ8 fun rvs m1 e190_ hm1 hr1 hrv => ?_; try clear hJ8; subst e190_
    refine el12 (pairGet' hcv hv) fun c hci hcp => ?_
    refine el11 (List.getElem?_eq_some_iff.mp hci) fun hi1 hi2 => ?_
    have htake : cs.take (i + 1) = cs.take i ++ [c] := by rw [← hi2, List.take_succ_eq_append_getElem hi1]
    refine el02 (hc.m c (List.mem_of_getElem? hci)) fun hc11 z191_ => ?_; refine el12 z191_ fun nf hnf hn8 => ?_; try clear z191_
    have hnf16 := hok.b _ _ hnf
    refine el46 (hcp.le hg) fun av ov uv nv e192_ hva hvt z193_ hk z194_ => ?_; subst e192_; refine el11 z193_ fun tv e195_ => ?_; try clear z193_; subst e195_; refine el11 z194_ fun tn e196_ => ?_; try clear z194_; subst e196_
    refine unpack2 S2 (.inl hh) (S2.isTup (in12 ov hva hvt)) rfl fun s₃ S3 => ?_
    refine wpAny_assign_Name (stL S3 rfl rfl (.tail (.tail (.tail (.tail .head)))) fun s₄ S4 => ?_)
    refine wpAny_assign_Name (stL S4 rfl rfl (.tail (.tail (.tail (.tail .head)))) fun s₅ S5 => ?_)
    refine nameQ ?_; intro Qy
    have hm2 := (hm1.upd (y := "dt") (v := .int c.1 tv) (by decide)).upd (y := "cmt") (v := .bytes (nm c.2) tn) (by decide)
    have hr2 : upd (upd m1 "dt" (.int c.1 tv)) "cmt" (.bytes (nm c.2) tn) "results" = some (.ref ra) := by walk_at "lk"
    have hd2 : upd (upd m1 "dt" (.int c.1 tv)) "cmt" (.bytes (nm c.2) tn) "dt" = some (.int c.1 tv) := by walk_at "lk"
    have hc2 : upd (upd m1 "dt" (.int c.1 tv)) "cmt" (.bytes (nm c.2) tn) "cmt" = some (.bytes (nm c.2) tn) := upd_same
    generalize upd (upd m1 "dt" (.int c.1 tv)) "cmt" (.bytes (nm c.2) tn) = m2 at *
    refine wpAny_execs_cons (wpAny_If (wpAny_isTrue_BoolOp (wpAny_allTrue_And_cons (wpAny_isTrue_Not (wpAny_isTrue_Compare1 (wpAny_BinOp (subs ?_)))))))
    refine ldL S5 rfl rfl (by k_mem) hm2.cs (ldL S5 rfl rfl (by k_mem) hc2 ?_)
    refine subFl S5 (by k_mem) hc11 hnf fun t1 s₆ S6 => ldZ S6 (.inl rfl) rfl rfl (hdnc.le hg) (oAnd S6 fun t2 s₇ S7 => ldZ S7 (.inl rfl) rfl rfl (hdnc.le hg) (oEq (wpAny_truthy_bool ?_)))
    rw [show (4 : Int) = ((4 : Nat) : Int) from rfl, bAnd _ hnf16 4 (by decide)]
    have hgdn : (fl c.2).getD 0 = nf := by rw [hnf]; rfl
    by_cases h4 : nf &&& 4 = 4
    · rw [if_neg (by rw [h4]; simp)]
      rw [if_neg (by decide)]
      refine wpAny_execs_nil (wpAny_execs_nil (in23 g1 _ (Le.refl _) S7 (in24 rvs m2 rfl hm2 hr2 ?_)))
      rw [htake, List.filter_append]
      have : [c].filter (notDnc fl) = [] := by simp [notDnc, hgdn, h4]
      rw [this, List.append_nil]; exact hrv
    · rw [if_pos (by simpa using fun e => h4 (by exact_mod_cast e))]
      refine wpAny_allTrue_And_cons (wpAny_isTrue_Compare1 (Tuple_ (wpAny_items_cons ?_)))
      refine ldL S7 rfl rfl (by k_mem) hd2 (wpAny_items_cons (ldL S7 rfl rfl (by k_mem) hc2 (wpAny_items_nil ?_)))
      refine nwTuple S7 (by size_fits) fun tp s₈ S8 => ?_
      refine ldL S8 rfl rfl (by k_mem) hr2 ?_
      have hnone : ∀ y ∈ rvs, EqAt A.in1 s₈ y (.ref tp) false := fun y hy => by
        refine el12 (S8.get (List.mem_cons_self ..)) fun otp hotp htp => ?_
        refine el11 (List.mem_iff_getElem.mp hy) fun j z197_ => ?_; refine el11 z197_ fun hj e198_ => ?_; try clear z197_; subst e198_
        refine el12 (pairGet' hrv (List.getElem?_eq_getElem hj)) fun c2' hc2' z199_ => ?_; refine el45 z199_ fun ay oy uy ny ey hy1 hy2 hy3 hy4 => ?_; try clear z199_
        have hmem : c2' ∈ cs.take i := (List.mem_filter.mp (List.mem_of_getElem? hc2')).1
        have hne : ay ≠ tp := fun e => by
          have := S8.out (List.mem_cons_self ..)
          rw [← e, hy1] at this; cases this
        have hk2 : c2'.2 ≠ c.2 := fun e => by
          have hnd := hc.n
          refine el11 (List.mem_iff_getElem.mp hmem) fun j2 z200_ => ?_; refine el11 z200_ fun hj2 ej2 => ?_; try clear z200_
          simp at hj2
          have e1 : (cs.map (·.2))[j2]'(by simp; walk_at "om") = (cs.map (·.2))[i]'(by simp; walk_at "om") := by
            simp only [List.getElem_map]
            rw [List.getElem_take] at ej2
            rw [ej2, hi2, e]
          have := (List.getElem_inj hnd).mp e1
          walk_at "om"
        rw [ey]
        have := tupEq (A := A.in1) (S8.keep _ _ hy1) hy2 hotp htp hy3 ⟨_, rfl⟩ hy4 ⟨hc11, ⟨_, rfl⟩⟩ hne (by show A.units + 1 < 9900; walk_at "om")
        rw [decide_eq_false hk2, Bool.and_false] at this
        exact this
      refine notInL (fun _ => false) (S8.list (by k_mem)) hnone (wpAny_truthy_bool ?_)
      rw [if_pos (by simp)]
      refine wpAny_allTrue_And_nil ?_
      rw [if_pos rfl]
      refine wpAny_execs_cons (wpAny_Expr (callAppend ?_))
      refine ldL S8.drop rfl rfl (by k_mem) hr2 (in23 ra rvs rfl (S8.drop.get (by k_mem)) (Tuple_ (wpAny_items_cons ?_)))
      refine ldL S8.drop rfl rfl (by k_mem) hd2 (wpAny_items_cons (ldL S8.drop rfl rfl (by k_mem) hc2 (wpAny_items_nil ?_)))
      refine nwTuple S8.drop (by size_fits) fun tp2 s₉ S9 => ?_
      refine el25 (S9.freeze) fun g2 otp k2 etp ptp _ S10 => ?_
      have hrl := pairLen hrv
      have hrl2 : rvs.length ≤ 11 := by
        rw [← hrl]
        exact Nat.le_trans (List.length_filter_le _ _) (by simp; walk_at "om")
      refine appendL S10 (.tail .head) (by rw [sizeLine_eq]; walk_at "om") fun s₁₀ S11 => ?_
      have n3 : ∀ {a b d : Ent} {r : List Ent}, (a :: b :: d :: r).Perm (d :: a :: b :: r) := fun {a b d r} => ((List.Perm.swap ..).cons _).trans (.swap ..)
      have S12 := ((S11.perm n3).weak (P' := PqP g2 its) fun o h => pqLe k2 h).perm n3.symm
      refine wpAny_execs_nil (wpAny_execs_nil (in23 g2 _ k2 S12 (in24 (rvs ++ [.ref tp2]) m2 rfl hm2 hr2 ?_)))
      rw [htake, List.filter_append]
      have : [c].filter (notDnc fl) = [c] := by simp [notDnc, hgdn, h4]
      rw [this]
      exact (pairMono (fun _ _ h => h.le k2) hrv).snoc (in46 tp2 otp _ _ rfl etp ptp ⟨_, rfl⟩ hc11 ⟨_, rfl⟩)
  · intro g1 _ s₂ hg hR4 S2
    refine el24 hR4 fun rvs m1 e201_ hm1 hr1 hrv => ?_; try clear hR4; subst e201_
    have htk : cs.take cvs.length = cs := by rw [← hlen]; exact List.take_length
    rw [htk] at hrv
    exact h g1 rvs m1 s₂ hg S2 hm1 hr1 hrv
end Jr
end
-- KC
section
namespace Jr
open PySem PySem.W PySem.Calls PySem.SeqAt PySem.Builtin PyProof.Rows PySem.Spec
variable {prog : Program} {w : World} {A : Around} {E : Value → Shared → Prop} {s : Shared} {a₀ : Array Keyed}

/-! the sort keeps the order of equal keys, where the keys fall -/
structure DInv (a₀ xs : Array Keyed) (b x : Nat) (p : Nat → Nat) : Prop where
  at_ : ∀ i, xs[i]? = a₀[p i]?
  id : ∀ i, b ≤ i → p i = i
  ord : ∀ i j, i < j → j < b → K xs j < K xs i ∨ (K xs j = K xs i ∧ p j < p i)
  cross : ∀ i j, i < b → b ≤ j → j < a₀.size → K xs j < K xs i
  block : ∀ i, b ≤ i → i < x → K xs i = K xs b
def revP (p : Nat → Nat) (i j : Nat) : Nat → Nat := fun k => if i ≤ k ∧ k < j then p (i + j - 1 - k) else p k
theorem at_rev {a₀ xs : Array Keyed} {p : Nat → Nat} (h : ∀ i, xs[i]? = a₀[p i]?) {i j : Nat} (hj : j ≤ xs.size) : ∀ k, (mirror xs i j ((j - i) / 2))[k]? = a₀[revP p i j k]? := fun k => by
  rw [getElem?_mirror_all hj]
  unfold revP
  split
  · exact h _
  · exact h _
theorem K_at {a₀ xs : Array Keyed} {p : Nat → Nat} (h : ∀ i, xs[i]? = a₀[p i]?) (i : Nat) : K xs i = K a₀ (p i) := K_congr (h i)

theorem DInv.close {xs : Array Keyed} {b x : Nat} {p : Nat → Nat} (h : DInv a₀ xs b x p) (hN : NonInc a₀ a₀.size) (hbx : b ≤ x) (hx : x ≤ a₀.size) (hs : xs.size = a₀.size) (hlt : x < a₀.size → K a₀ x < K xs b) (hb : b < x) :
    DInv a₀ (mirror xs b x ((x - b) / 2)) x (x + 1) (revP p b x) where
  at_ := at_rev h.at_ (by walk_at "om")
  id := fun i hi => by unfold revP; rw [if_neg (by walk_at "om")]; exact h.id i (by walk_at "om")
  ord := by
    intro i j hij hj
    have Kr : ∀ k, K (mirror xs b x ((x - b) / 2)) k = if b ≤ k ∧ k < x then K xs (b + x - 1 - k) else K xs k := K_mirror (by walk_at "om")
    by_cases hi : b ≤ i
    · rw [Kr i, Kr j, if_pos (show b ≤ i ∧ i < x by walk_at "om"), if_pos (show b ≤ j ∧ j < x by walk_at "om")]
      refine .inr ⟨?_, ?_⟩
      · rw [h.block (b + x - 1 - j) (by walk_at "om") (by walk_at "om"), h.block (b + x - 1 - i) (by walk_at "om") (by walk_at "om")]
      · unfold revP
        rw [if_pos (show b ≤ i ∧ i < x by walk_at "om"), if_pos (show b ≤ j ∧ j < x by walk_at "om"), h.id (b + x - 1 - j) (by walk_at "om"), h.id (b + x - 1 - i) (by walk_at "om")]; walk_at "om"
    · by_cases hjb : b ≤ j
      · rw [Kr i, Kr j, if_neg (show ¬ (b ≤ i ∧ i < x) by walk_at "om"), if_pos (show b ≤ j ∧ j < x by walk_at "om")]
        exact .inl (h.cross i _ (by walk_at "om") (by walk_at "om") (by walk_at "om"))
      · rw [Kr i, Kr j, if_neg (show ¬ (b ≤ i ∧ i < x) by walk_at "om"), if_neg (show ¬ (b ≤ j ∧ j < x) by walk_at "om")]
        unfold revP
        rw [if_neg (show ¬ (b ≤ i ∧ i < x) by walk_at "om"), if_neg (show ¬ (b ≤ j ∧ j < x) by walk_at "om")]
        exact h.ord i j hij (by walk_at "om")
  cross := by
    intro i j hi hj hjs
    have Kr : ∀ k, K (mirror xs b x ((x - b) / 2)) k = if b ≤ k ∧ k < x then K xs (b + x - 1 - k) else K xs k := K_mirror (by walk_at "om")
    have ej : K xs j = K a₀ j := by rw [K_at h.at_, h.id j (by walk_at "om")]
    have hj1 : K a₀ j ≤ K a₀ x := hN x j (by walk_at "om") hjs
    have hl := hlt (by walk_at "om")
    by_cases hib : b ≤ i
    · rw [Kr i, Kr j, if_pos (show b ≤ i ∧ i < x by walk_at "om"), if_neg (show ¬ (b ≤ j ∧ j < x) by walk_at "om"), h.block (b + x - 1 - i) (by walk_at "om") (by walk_at "om"), ej]; walk_at "om"
    · rw [Kr i, Kr j, if_neg (show ¬ (b ≤ i ∧ i < x) by walk_at "om"), if_neg (show ¬ (b ≤ j ∧ j < x) by walk_at "om"), ej]
      have := h.cross i b (by walk_at "om") (Nat.le_refl _) (by walk_at "om")
      walk_at "om"
  block := by
    intro i h1 h2
    have : i = x := by walk_at "om"
    subst this; rfl
theorem DInv.grow {xs : Array Keyed} {b x : Nat} {p : Nat → Nat} (h : DInv a₀ xs b x p) (hbx : b ≤ x) (he : K xs x = K xs b) : DInv a₀ xs b (x + 1) p :=
  ⟨h.at_, h.id, h.ord, h.cross, fun i h1 h2 => by
    by_cases e : i = x
    · subst e; exact he
    · exact h.block i h1 (by walk_at "om")⟩

theorem mirror_zero (xs : Array Keyed) (i j : Nat) : mirror xs i j 0 = xs := rfl
theorem wpS_descD {st : SortSt} {n : Nat} {p : Nat → Nat} {Q : DescSt → SortSt → Prop} (h0 : IntKeys a₀) (hN : NonInc a₀ a₀.size) (h1 : 1 ≤ n) (hnn : n ≤ a₀.size) (hB : SBase a₀ st) (hD : DInv a₀ (arrOf st) (n - 1) n p)
    (h : ∀ neq st' p, SBase a₀ st' → neq + 1 ≤ a₀.size → DInv a₀ (arrOf st') (a₀.size - (neq + 1)) a₀.size p → Q (none, a₀.size, neq) st') : wpS (model prog w) A E s (descLoop n a₀.size) Q st := by
  unfold descLoop
  refine wpS_forRange (I := fun x c st' => ∃ neq p, c = (none, x, neq) ∧ SBase a₀ st' ∧ neq + 1 ≤ x ∧ DInv a₀ (arrOf st') (x - (neq + 1)) x p) ?step ?fin ⟨0, p, rfl, hB, by walk_at "om", hD⟩
  case fin =>
    intro c st' hR2
    refine el24 hR2 fun neq p e172_ hB' hq hD' => ?_; try clear hR2; subst e172_
    rw [show max n a₀.size = a₀.size by walk_at "om"] at hq hD' ⊢
    exact h neq st' p hB' hq hD'
  case step =>
    intro x c st' hax hxn hR5
    refine el24 hR5 fun neq p e173_ hB' hq hD' => ?_; try clear hR5; subst e173_
    dsimp only
    have hsz := hB'.size
    have kx : K (arrOf st') x = K a₀ x := by rw [K_at hD'.at_, hD'.id x (by walk_at "om")]
    have kb : K (arrOf st') (x - 1) = K (arrOf st') (x - (neq + 1)) := hD'.block _ (by walk_at "om") (by walk_at "om")
    have kb2 : K (arrOf st') (x - (neq + 1)) = K a₀ (x - (neq + 1)) := by rw [K_at hD'.at_, hD'.id _ (by walk_at "om")]
    have hle : K a₀ x ≤ K a₀ (x - (neq + 1)) := hN _ _ (by walk_at "om") hxn
    refine wpS_bind (wpS_ltK hB' h0 (by walk_at "om") (by walk_at "om") ?_)
    by_cases hless : K (arrOf st') x < K (arrOf st') (x - 1)
    · simp only [hless, decide_true, if_true]
      have hc := hD'.close hN (by walk_at "om") (by walk_at "om") hsz (fun _ => by rw [← kb, ← kx]; exact hless) (by walk_at "om")
      by_cases hneq : neq > 0
      · rw [if_pos hneq]
        refine wpS_bind (wpS_reverse (wpS_pure (in24 0 (revP p (x - (neq + 1)) x) rfl (hB'.setArr (mirror_perm _ _ _ _)) (by walk_at "om") ?_)))
        rw [show x + 1 - (0 + 1) = x by walk_at "om"]
        exact hc
      · rw [if_neg hneq]
        have e0 : neq = 0 := by walk_at "om"
        subst e0
        rw [show (x - (x - (0 + 1))) / 2 = 0 by walk_at "om", mirror_zero] at hc
        refine wpS_pure (in24 0 (revP p (x - (0 + 1)) x) rfl hB' (by walk_at "om") ?_)
        rw [show x + 1 - (0 + 1) = x by walk_at "om"]
        exact hc
    · simp only [hless, decide_false, Bool.false_eq_true, if_false]
      refine wpS_bind (wpS_ltK hB' h0 (by walk_at "om") (by walk_at "om") ?_)
      have hnl : ¬ K (arrOf st') (x - 1) < K (arrOf st') x := by walk_at "om"
      simp only [hnl, decide_false, Bool.false_eq_true, if_false]
      refine wpS_pure (in24 (neq + 1) p rfl hB' (by walk_at "om") ?_)
      rw [show x + 1 - (neq + 1 + 1) = x - (neq + 1) by walk_at "om"]
      exact hD'.grow (by walk_at "om") (by walk_at "om")

/-- rising keys, and equal ones in the order of the input -/
def StabTo (a₀ xs : Array Keyed) : Prop := ∃ p : Nat → Nat, (∀ i, xs[i]? = a₀[p i]?) ∧ ∀ i j, i < j → j < a₀.size → K xs i < K xs j ∨ (K xs i = K xs j ∧ p i < p j)

theorem wpS_tailD {st : SortSt} {p : Nat → Nat} {Q : Option Nat → SortSt → Prop} (h0 : IntKeys a₀) (h1 : 1 ≤ a₀.size) (hB : SBase a₀ st) (hat : ∀ i, (arrOf st)[i]? = a₀[p i]?)
    (ho : ∀ i j, i < j → j < a₀.size → K (arrOf st) j < K (arrOf st) i ∨ (K (arrOf st) j = K (arrOf st) i ∧ p j < p i)) (h : ∀ st', SBase a₀ st' → StabTo a₀ (arrOf st') → Q (some a₀.size) st') :
    wpS (model prog w) A E s (tail3 a₀.size a₀.size) Q st := by
  unfold tail3
  have hsz : a₀.size ≤ (arrOf st).size := by rw [hB.size]; walk_at "om"
  refine wpS_bind (wpS_reverse ?_)
  have hB' : SBase a₀ (setArr st (mirror (arrOf st) 0 a₀.size ((a₀.size - 0) / 2))) := hB.setArr (mirror_perm _ _ _ _)
  have Kr : ∀ k, K (mirror (arrOf st) 0 a₀.size ((a₀.size - 0) / 2)) k = if 0 ≤ k ∧ k < a₀.size then K (arrOf st) (0 + a₀.size - 1 - k) else K (arrOf st) k := K_mirror hsz
  have hst : StabTo a₀ (mirror (arrOf st) 0 a₀.size ((a₀.size - 0) / 2)) := by
    refine (in12 (revP p 0 a₀.size) (at_rev hat hsz) (fun i j hij hj => ?_))
    rw [Kr i, Kr j, if_pos (show 0 ≤ i ∧ i < a₀.size by walk_at "om"), if_pos (show 0 ≤ j ∧ j < a₀.size by walk_at "om")]
    have := ho (0 + a₀.size - 1 - j) (0 + a₀.size - 1 - i) (by walk_at "om") (by walk_at "om")
    unfold revP
    rw [if_pos (show 0 ≤ i ∧ i < a₀.size by walk_at "om"), if_pos (show 0 ≤ j ∧ j < a₀.size by walk_at "om")]
    exact this
  refine wpS_bind (wpS_ascLoop h0 (Nat.le_refl _) h1 (Nat.le_refl _) hB' ?_ fun m hm1 hm2 hsm _ => ?_)
  · intro i j hij hj
    by_cases e : i = j
    · subst e; exact Int.le_refl _
    · refine el12 hst fun q _ hq => ?_; try clear hst
      rcases hq i j (by walk_at "om") hj with h | h
      · exact Int.le_of_lt h
      · exact Int.le_of_eq h.1
  · have : m = a₀.size := by walk_at "om"
    subst this
    exact wpS_pure (h _ hB' hst)

theorem wpS_partD {st : SortSt} {n : Nat} {p : Nat → Nat} {Q : Option Nat → SortSt → Prop} (h0 : IntKeys a₀) (hN : NonInc a₀ a₀.size) (hnn : n + 1 ≤ a₀.size) (hB : SBase a₀ st) (hD : DInv a₀ (arrOf st) n (n + 1) p)
    (h : ∀ st', SBase a₀ st' → StabTo a₀ (arrOf st') → Q (some a₀.size) st') : wpS (model prog w) A E s (descPart n a₀.size) Q st := by
  unfold descPart
  refine wpS_bind (wpS_lift (wpAny_rule ⟨rfl, ?_⟩))
  refine wpS_bind (wpS_descD h0 hN (by walk_at "om") hnn hB (by rw [show n + 1 - 1 = n by walk_at "om"]; exact hD) fun neq st' p hB' hq hD' => ?_)
  dsimp only
  have hc := hD'.close hN (by walk_at "om") (Nat.le_refl _) hB'.size (fun h => absurd h (Nat.lt_irrefl _)) (by walk_at "om")
  by_cases hneq : neq > 0
  · rw [if_pos hneq]
    exact wpS_bind (wpS_reverse (wpS_tailD h0 (by walk_at "om") (hB'.setArr (mirror_perm _ _ _ _)) hc.at_ hc.ord h))
  · rw [if_neg hneq]
    have e0 : neq = 0 := by walk_at "om"
    subst e0
    rw [show (a₀.size - (a₀.size - (0 + 1))) / 2 = 0 by walk_at "om", mirror_zero] at hc
    exact wpS_tailD h0 (by walk_at "om") hB' hc.at_ hc.ord h

theorem wpS_countD {st : SortSt} {Q : Option Nat → SortSt → Prop} (h0 : IntKeys a₀) (hN : NonInc a₀ a₀.size) (h1 : 1 ≤ a₀.size) (hB : SBase a₀ st) (ha : arrOf st = a₀)
    (h : ∀ st', SBase a₀ st' → StabTo a₀ (arrOf st') → Q (some a₀.size) st') : wpS (model prog w) A E s (countRun' 0 a₀.size) Q st := by
  rw [countRun0_eq]
  refine wpS_bind (wpS_ascLoop h0 (Nat.le_refl _) (Nat.le_refl 1) h1 hB (fun i j hij hj => by have : i = j := by walk_at "om"
                                                                                              subst this; exact Int.le_refl _) fun n hn1 hn2 hsn hor => ?_)
  dsimp only
  have heq : ∀ i j, i < n → j < n → K (arrOf st) i = K (arrOf st) j := by
    have key : ∀ i j, i ≤ j → j < n → K (arrOf st) i = K (arrOf st) j := fun i j hij hj => by
      have a1 := hsn i j hij hj
      rw [ha] at a1 ⊢
      have a2 := hN i j hij (by walk_at "om")
      walk_at "om"
    intro i j hi hj
    rcases Nat.le_total i j with hij | hij
    · exact key i j hij hj
    · exact (key j i hij hi).symm
  by_cases hnn : n = a₀.size
  · rw [if_pos (by simpa using hnn)]
    subst hnn
    exact wpS_pure (h st hB (in12 (fun i => i) (fun i => by rw [ha]) (fun i j hij hj => .inr ⟨heq i j (by walk_at "om") hj, hij⟩)))
  · rw [if_neg (by simpa using hnn)]
    have hlt : K (arrOf st) n < K (arrOf st) (n - 1) := hor.resolve_left hnn
    have hsz := hB.size
    have hD0 : DInv a₀ (arrOf st) 0 n (fun i => i) := ⟨fun i => by rw [ha], fun _ _ => rfl, fun i j _ hj => absurd hj (Nat.not_lt_zero _), fun i j hi => absurd hi (Nat.not_lt_zero _), fun i _ hi => heq i 0 hi (by walk_at "om")⟩
    have hc := hD0.close hN (by walk_at "om") hn2 hsz (fun _ => by rw [← ha, heq 0 (n - 1) (by walk_at "om") (by walk_at "om")]; exact hlt) (by walk_at "om")
    by_cases hgt : n > 1
    · rw [if_pos hgt]
      refine wpS_bind (wpS_ltK hB h0 (by walk_at "om") (by walk_at "om") ?_)
      have hr : ¬ K (arrOf st) 0 < K (arrOf st) (n - 1) := by rw [heq 0 (n - 1) (by walk_at "om") (by walk_at "om")]; exact Int.lt_irrefl _
      simp only [hr, decide_false, Bool.false_eq_true, if_false]
      exact wpS_bind (wpS_reverse (wpS_partD h0 hN (by walk_at "om") (hB.setArr (mirror_perm _ _ _ _)) hc h))
    · rw [if_neg hgt]
      have hn1' : n = 1 := by walk_at "om"
      subst hn1'
      rw [show (1 - 0) / 2 = 0 by walk_at "om", mirror_zero] at hc
      exact wpS_partD h0 hN (by walk_at "om") hB hc h

theorem wpS_runsD {st : SortSt} {Q : Unit → SortSt → Prop} (h0 : IntKeys a₀) (hN : NonInc a₀ a₀.size) (hB : SBase a₀ st) (ha : arrOf st = a₀) (h2 : 2 ≤ a₀.size) (h64 : a₀.size < 64)
    (h : ∀ st', (arrOf st').Perm a₀ → failedOf st' = none → StabTo a₀ (arrOf st') → Q () st') : wpS (model prog w) A E s sortRuns' Q st := by
  rw [sortRuns'_eq]
  refine wpS_bind (wpS_get ?_)
  dsimp only
  have hmr : minRun' a₀.size a₀.size 0 = a₀.size := by
    obtain ⟨f, hf⟩ : ∃ f, a₀.size = f + 1 := ⟨a₀.size - 1, by walk_at "om"⟩
    have : minRun' (f + 1) a₀.size 0 = a₀.size := by rw [minRun'_succ, if_pos h64]; rfl
    rwa [← hf] at this
  simp only [hB.size, hmr]
  refine wpS_bind (wpS_mono (wpS_forRange
    (I := fun x c st' => (x = 0 ∧ c = (none, 0) ∧ st' = st) ∨ (1 ≤ x ∧ c = (none, a₀.size) ∧ (arrOf st').Perm a₀ ∧ failedOf st' = none ∧ pendingOf st' = #[(0, a₀.size, 0)] ∧ StabTo a₀ (arrOf st')))
    (Q := fun c st' => c = (none, a₀.size) ∧ (arrOf st').Perm a₀ ∧ failedOf st' = none ∧ pendingOf st' = #[(0, a₀.size, 0)] ∧ StabTo a₀ (arrOf st')) ?step ?fin (.inl (in03 rfl rfl rfl))) ?post)
  case fin =>
    rintro c st' (⟨hx, _, _⟩ | ⟨_, hc, hD⟩)
    · walk_at "om"
    · exact ⟨hc, hD⟩
  case step =>
    rintro x c st' _ hx (⟨rfl, rfl, rfl⟩ | ⟨hx1, rfl, hD⟩)
    · dsimp only
      rw [if_neg (by walk_at "om")]
      simp only [Nat.sub_zero, Nat.min_self, Nat.zero_add]
      refine wpS_bind (wpS_countD h0 hN (by walk_at "om") hB ha fun st2 hB2 hs2 => ?_)
      dsimp only
      rw [if_neg (Nat.lt_irrefl _)]
      refine wpS_bind (wpS_get ?_)
      have hb : (pendingOf st2).back? = none := by rw [hB2.pend]; rfl
      rw [hb]
      dsimp only
      refine wpS_bind (wpS_modify (wpS_pure (.inr (in06 (by walk_at "om") rfl (hB2.perm) (hB2.failed) ?_ hs2))))
      show (pendingOf st2).push _ = _
      rw [hB2.pend]; rfl
    · dsimp only
      rw [if_pos (Nat.le_refl _)]
      exact wpS_pure ⟨rfl, hD⟩
  case post =>
    intro c st' hR2
    refine el02 hR2 fun e174_ hD => ?_; try clear hR2; subst e174_
    dsimp only
    refine wpS_bind (wpS_mono (wpS_forRange (I := fun _ c st'' => st'' = st' ∧ c = (none, ())) (Q := fun c st'' => st'' = st' ∧ c = (none, ())) ?_ (fun _ _ hh => hh) ⟨rfl, rfl⟩) ?_)
    · intro x c st'' _ _ hR5
      refine el02 hR5 fun e175_ e176_ => ?_; try clear hR5; subst e175_; subst e176_
      refine wpS_bind (wpS_get ?_)
      rw [if_pos (by rw [hD.2.2.1]; exact Nat.le_refl 1)]
      exact wpS_pure ⟨rfl, rfl⟩
    · intro c st'' hR2
      refine el02 hR2 fun e177_ e178_ => ?_; try clear hR2; subst e177_; subst e178_
      exact wpS_pure (h _ hD.1 hD.2.1 hD.2.2.2)
end Jr
end
-- KD
section
namespace Jr
open PySem PySem.W PySem.Calls PySem.SeqAt PySem.Builtin PyProof.Rows PySem.Spec
variable {x : Wd} {g : Heap} {l : List Ent} {prog : Program} {w : World} {A : Around} {E : Value → Shared → Prop} {s : Shared}

/-- a list whose epoch is known -/
def SeqE (xs : Array Value) (n : Nat) (o : Obj) : Prop := o.cls = .type "list" ∧ o.dict = none ∧ o.data = .seq xs n
def Stab (kz : List Int) (vs out : List Value) : Prop := ∃ p : Nat → Nat, out.length = vs.length ∧ out.Perm vs ∧ (∀ i, i < vs.length → p i < vs.length ∧ out[i]? = vs[p i]?) ∧
  ∀ i j, i < j → j < vs.length → kz.getD (p i) 0 < kz.getD (p j) 0 ∨ (kz.getD (p i) 0 = kz.getD (p j) 0 ∧ p i < p j)
theorem seqE {a : Addr} {xs : Array Value} {n : Nat} {f : Array Value → Array Value} {Q : Unit → Shared → Prop} (S : St x g ((a, SeqE xs n) :: l) s) (hz : xs.size ≤ sizeLine) (hf : (f xs).size ≤ sizeLine + 1)
    (h : ∀ n' s', St x g ((a, SeqE (f xs) n') :: l) s' → Q () s') : wpAny (model prog w) A (Builtin.List.listUpdate (.ref a) f) Q E s := by
  refine el14 (S.get (List.mem_cons_self ..)) fun o ho hc hdc hd => ?_
  refine el11 (Obj.data_mapSeq hd f) fun n' hd' => ?_
  refine listUpdate_at ho hd (h n' _ ?_) hz hf
  refine S.upd .head (fun b ob hb e => ?_) (Heap.get?_update_self _ ho (Obj.isFreed_of_seq hd')) (in03 ((Obj.cls_mapSeq ..).trans hc) ?_ hd') s.toks
  · rw [Heap.get?_update_other _ _ (Ne.symm hb)]; exact e
  · obtain ⟨c, d, dt, sl⟩ := o
    simp only at hd hdc; subst hd; exact hdc
theorem sortTail {a kS : Addr} {kA : Array Value} {e e1 : Nat} {vs : List Value} {kz : List Int} {st : SortSt} {P : PySem.Fin → Shared → Prop} (S : St x g ((kS, SeqE kA e) :: (a, SeqE #[] e1) :: l) s)
    (hk : IntsAre kA.toList kz) (hlen : kz.length = vs.length) (h64 : vs.length < 64) (hp : (arrOf st).Perm (kA.zip vs.toArray)) (hs : StabTo (kA.zip vs.toArray) (arrOf st)) (hfl : failedOf st = none)
    (h : ∀ out s', St x g ((a, ListP out) :: l) s' → Stab kz vs out → P (.done (.ret .none)) s') : wpAny (model prog w) A (ksk_tail a false e1 (.ref kS) st) P E s := by
  have hsz : kA.size = vs.length := by
    have h1 := hk.length
    rw [Array.length_toList] at h1
    walk_at "om"
  have hzs : (kA.zip vs.toArray).size = vs.length := by rw [Array.size_zip, hsz, List.size_toArray, Nat.min_self]
  have hsz2 : (arrOf st).size = vs.length := by rw [hp.size_eq, hzs]
  unfold ksk_tail
  dsimp only
  refine wpAny_bind (seqE S (by rw [hsz, sizeLine_eq]; walk_at "om") (Nat.zero_le _) fun n1 s1 S1 => ?_)
  refine wpAny_bind (wpAny_letGo ?_)
  have S2 := S1.perm (.swap ..)
  refine el14 (S2.get (List.mem_cons_self ..)) fun o ho hc hdc hd => ?_
  refine wpAny_bind (seqEpoch_at ho hd ?_)
  refine wpAny_bind (seqE S2 (Nat.zero_le _) (by simp [hsz2, sizeLine_eq]; walk_at "om") fun n2 s2 S3 => ?_)
  rw [hfl]
  simp only [bne_self_eq_false, Bool.false_eq_true, if_false]
  have S4 := (S3.perm (.swap ..)).drop
  refine wpAny_pure (h ((arrOf st).map (·.2)).toList _ (S4.weak fun o hq_ => el03 hq_ fun h1 h2 h3 => (in03 h1 h2 ⟨n2, by rw [Array.toArray_toList]; exact h3⟩)) ?_)
  refine el12 hs fun p hp1 hp2 => ?_; try clear hs
  have hpl : ∀ i, i < vs.length → p i < vs.length := fun i hi => by
    have := hp1 i
    rw [getElem?_pos (arrOf st) i (by walk_at "om")] at this
    rcases Nat.lt_or_ge (p i) vs.length with h | h
    · exact h
    · rw [getElem?_neg (kA.zip vs.toArray) (p i) (by walk_at "om")] at this; cases this
  have hK : ∀ i, i < vs.length → K (arrOf st) i = kz.getD (p i) 0 := fun i hi => by
    have h1 := hpl i hi
    rw [K_congr (hp1 i)]
    unfold K
    rw [getElem?_pos (kA.zip vs.toArray) (p i) (by walk_at "om")]
    simp only [Array.getElem_zip]
    have h2 : (kA.toList.map numOf) = kz := hk.nums
    rw [← h2]
    simp [hsz, h1]
  refine (in14 p (by simp [hsz2]) ?_ (fun i hi => ⟨hpl i hi, ?_⟩) (fun i j hij hj => ?_))
  · have h1 := (Array.perm_iff_toList_perm.mp hp).map (fun q : Keyed => q.2)
    rw [ksk_zip] at h1
    have h2 : (kA.toList.zip vs).map (fun q : Keyed => q.2) = vs := by
      have : (kA.toList.zip vs).map Prod.snd = vs := List.map_snd_zip (by simp [hsz])
      exact this
    rw [h2] at h1
    simpa using h1
  · have := hp1 i
    have h1 := hpl i hi
    rw [getElem?_pos (arrOf st) i (by walk_at "om"), getElem?_pos (kA.zip vs.toArray) (p i) (by walk_at "om")] at this
    have h2 := Option.some.inj this
    have h3 : ((arrOf st)[i]'(by walk_at "om")).2 = vs[p i] := by rw [h2]; simp
    simp only [Array.getElem?_toList, Array.getElem?_map]
    rw [getElem?_pos (arrOf st) i (by walk_at "om"), List.getElem?_eq_getElem h1]
    simp [h3]
  · have := hp2 i j hij (by walk_at "om")
    rw [hK i (by walk_at "om"), hK j hj] at this
    exact this

theorem sortEnd {a kS : Addr} {kA : Array Value} {e e1 : Nat} {vs : List Value} {kz : List Int} {P : PySem.Fin → Shared → Prop} (S : St x g ((kS, SeqE kA e) :: (a, SeqE #[] e1) :: l) s)
    (hk : IntsAre kA.toList kz) (hlen : kz.length = vs.length) (h64 : vs.length < 64) (hN : ∀ i j, i ≤ j → j < kz.length → kz.getD j 0 ≤ kz.getD i 0)
    (h : ∀ out s', St x g ((a, ListP out) :: l) s' → Stab kz vs out → P (.done (.ret .none)) s') : wpAny (model prog w) A (ksk_end a false vs.toArray e1 (.ref kS) kA) P E s := by
  have hsz : kA.size = vs.length := by
    have h1 := hk.length
    rw [Array.length_toList] at h1
    walk_at "om"
  have hzs : (kA.zip vs.toArray).size = vs.length := by rw [Array.size_zip, hsz, List.size_toArray, Nat.min_self]
  unfold ksk_end
  dsimp only
  simp only [Bool.false_eq_true, if_false]
  by_cases h2 : vs.toArray.size < 2
  · rw [if_pos h2, if_pos h2]
    refine wpAny_bind (wpAny_pure ?_)
    rw [StateT.run_pure]
    refine wpAny_bind (wpAny_pure ?_)
    dsimp only
    refine sortTail (st := SortSt.mk' general' (kA.zip vs.toArray) #[] 7 none) S hk hlen h64 (Array.Perm.refl _) (in12 (fun i => i) (fun _ => rfl) (fun i j hij hj => ?_)) rfl h
    rw [hzs] at hj
    rw [List.size_toArray] at h2
    walk_at "om"
  · rw [if_neg h2, if_neg h2]
    rw [List.size_toArray] at h2
    rw [ksk_kind hk (by rw [hsz]; walk_at "om")]
    refine wpAny_bind (wpAny_pure ?_)
    have hNI : NonInc (kA.zip vs.toArray) (kA.zip vs.toArray).size := fun i j hij hj => by
      rw [hzs] at hj
      have hK : ∀ i, i < vs.length → K (kA.zip vs.toArray) i = kz.getD i 0 := fun i hi => by
        unfold K
        rw [getElem?_pos (kA.zip vs.toArray) i (by walk_at "om")]
        simp only [Array.getElem_zip]
        have h2 : (kA.toList.map numOf) = kz := hk.nums
        rw [← h2]
        simp [hsz, hi]
      rw [hK i (by walk_at "om"), hK j hj]
      exact hN i j hij (by walk_at "om")
    refine wpAny_bind (wpAny_mono (wpS_runsD (a₀ := kA.zip vs.toArray) (st := SortSt.mk' oneType' (kA.zip vs.toArray) #[] 7 none)
      (Q := fun _ st' => (arrOf st').Perm (kA.zip vs.toArray) ∧ failedOf st' = none ∧ StabTo (kA.zip vs.toArray) (arrOf st'))
      (ksk_intKeys hk) hNI ⟨Array.Perm.refl _, rfl, rfl, rfl⟩ rfl (by rw [hzs]; walk_at "om") (by rw [hzs]; exact h64) fun st' a1 a2 a3 => (in03 a1 a2 a3)) ?_ fun _ _ e => e)
    intro hR0 s' hR2
    obtain ⟨⟨⟩, st'⟩ := hR0
    refine el04 hR2 fun e179_ hp hf hs => ?_; try clear hR2; subst e179_
    dsimp only
    exact sortTail S hk hlen h64 hp hs hf h

theorem sortKey {a q : Addr} {vs : List Value} {kz : List Int} {P : PySem.Fin → Shared → Prop} (S : St x g ((a, ListP vs) :: l) s)
    (hlen : kz.length = vs.length) (h64 : vs.length < 64) (hN : ∀ i j, i ≤ j → j < kz.length → kz.getD j 0 ≤ kz.getD i 0)
    (turn : ∀ (i : Nat) (v : Value) (k : Int) (l' : List Ent) (s' : Shared), vs[i]? = some v → kz[i]? = some k → St x g (l' ++ l) s' → wpAny (model prog w) A (call (.ref q) [v] []) (fun r s'' => ∃ t, r = .int k t ∧ St x g (l' ++ l) s'') (fun _ _ => False) s')
    (h : ∀ out s', St x g ((a, ListP out) :: l) s' → Stab kz vs out → P (.done (.ret .none)) s') : wpAny (model prog w) A (ksk_tree a (.ref q) false) P E s := by
  refine el14 (S.get (List.mem_cons_self ..)) fun o ho hc hdc z180_ => ?_; refine el11 z180_ fun n hd => ?_; try clear z180_
  have S0 := S.narrow (P' := SeqE vs.toArray n) ho (in03 hc hdc hd)
  unfold ksk_tree
  refine wpAny_bind (listItems_at ho hd ?_)
  refine wpAny_bind (seqE S0 (by rw [List.size_toArray, sizeLine_eq]; walk_at "om") (Nat.zero_le _) fun e1 s1 S1 => ?_)
  refine el14 (S1.get (List.mem_cons_self ..)) fun o1 ho1 hc1 hdc1 hd1 => ?_
  refine wpAny_bind (seqEpoch_at ho1 hd1 ?_)
  refine wpAny_bind (nwTuple S1 (by rw [sizeLine_eq]; simp; walk_at "om") fun tp s2 S2 => ?_)
  have S2' := S2.drop
  refine wpAny_bind (wpAny_newList ?_ (Nat.zero_le _))
  have S3 := S2'.push (o := seqObj "list" #[] 0) (P := SeqE #[] 0) (in03 rfl rfl rfl) rfl
  refine wpAny_holding ?_
  unfold ksk_rest
  refine wpAny_bind (wpAny_rule ?_)
  rw [List.forIn_toArray]
  refine wpAny_bind (ksk_fold (fun i s' => ∃ kS kA e, kS = s2.heap.objs.size ∧ St x g ((kS, SeqE kA e) :: (a, SeqE #[] e1) :: l) s' ∧ IntsAre kA.toList (kz.take i)) vs 0 _ (in33 _ (#[]) 0 rfl S3 (by simpa using IntsAre.nil)) ?step ?done)
  case step =>
    intro j y s' hy hR4
    refine el33 hR4 fun kS kA e e181_ S4 hk => ?_; try clear hR4; subst e181_
    simp only [Nat.zero_add] at hk ⊢
    have hj : j < vs.length := (List.getElem?_eq_some_iff.mp hy).1
    obtain ⟨k, hkj⟩ : ∃ k, kz[j]? = some k := ⟨_, List.getElem?_eq_getElem (by walk_at "om")⟩
    have hz : kA.size ≤ vs.length := by
      have h1 := hk.length
      rw [Array.length_toList, List.length_take] at h1
      walk_at "om"
    refine wpAny_bind (wpAny_attempt (wpAny_mono (turn j y k [(s2.heap.objs.size, SeqE kA e), (a, SeqE #[] e1)] s' hy hkj S4) (fun v s'' he => ?_) fun _ _ hF => hF.elim))
    refine el12 he fun t2 e182_ S5 => ?_; try clear he; subst e182_
    dsimp only
    have ek : kz.take (j + 1) = kz.take j ++ [k] := by rw [List.take_add_one, hkj]; simp
    have ea : (kA.push (Value.int k t2)).toList = kA.toList ++ [Value.int k t2] := by simp
    refine wpAny_bind (seqE S5 (by rw [sizeLine_eq]; walk_at "om") (by rw [Array.size_push, sizeLine_eq]; walk_at "om") fun n' s3 S6 => ?_)
    exact wpAny_pure ⟨rfl, _, kA.push (.int k t2), n', rfl, S6, by rw [ea, ek]; exact ksk_snoc hk⟩
  case done =>
    intro s' hR1
    refine el33 hR1 fun kS kA e e183_ S4 hk => ?_; try clear hR1; subst e183_
    have hk' : IntsAre kA.toList kz := by
      have e3 : kz.take (0 + vs.length) = kz := List.take_of_length_le (by walk_at "om")
      rw [e3] at hk
      exact hk
    refine el14 (S4.get (List.mem_cons_self ..)) fun o4 ho4 hc4 hdc4 hd4 => ?_
    refine wpAny_bind (listItems_at ho4 hd4 ?_)
    exact sortEnd S4 hk' hlen h64 hN h
end Jr
end
-- KE1
section
namespace Jr
open PySem PySem.W PySem.Calls PySem.SeqAt PySem.Builtin PyProof.Rows PySem.Spec
variable {x : Wd} {g : Heap} {l : List Ent} {prog : Program} {w : World} {A : Around} {E : Value → Shared → Prop} {s : Shared}

/-- the call of a lambda without cells of its own; it may raise -/
theorem callLam {f : Addr} {name qual : Str} {params : Arguments} {body : PySem.Expr} {scope : Scope} {clos : List (Str × Addr)} {pm ctv : Value} {c' : Addr} {args : Args} {binds : List (Str × Value)} {Q : Value → Shared → Prop}
    (S : St x g l s) (hf : g.get? f = some (kla_obj name qual params body scope clos pm c' ctv)) (hrec : g.CodeRec (.ref c') qual) (hlim : g.NoLimit) (hroom : A.depth < recursionLimit)
    (hb : BindsTo s (kla_fn name qual params body scope clos pm (.ref c') ctv) args binds)
    (h : ∀ L s', St x g ((L, NsP fun _ => none) :: l) s' →
      wpAny (model prog w) A.in1 (storeAll { scope := scope, locals := L, globals := mainGlobals, cells := clos, qual := qual ++ ".<locals>.", func := some f, code := .ref c', frame := some L, builtins := builtinsNs } binds)
        (fun _ s₂ => Le g s₂.heap ∧ wpAny (model prog w) (A.deeper { scope := scope, locals := L, globals := mainGlobals, cells := clos, qual := qual ++ ".<locals>.", func := some f, code := .ref c', frame := some L, builtins := builtinsNs })
          (eval body { scope := scope, locals := L, globals := mainGlobals, cells := clos, qual := qual ++ ".<locals>.", func := some f, code := .ref c', frame := some L, builtins := builtinsNs }) Q
          (fun e s' => wpAny (model prog w) (A.deeper { scope := scope, locals := L, globals := mainGlobals, cells := clos, qual := qual ++ ".<locals>.", func := some f, code := .ref c', frame := some L, builtins := builtinsNs })
            (leaving { scope := scope, locals := L, globals := mainGlobals, cells := clos, qual := qual ++ ".<locals>.", func := some f, code := .ref c', frame := some L, builtins := builtinsNs } e) (fun _ s'' => E e s'') (fun e' s'' => E e' s'') s') s₂) (fun _ _ => False) s')
    (hco : scope.isCoroutine = false := by rfl) (hgen : scope.isGenerator = false := by rfl) (hcell : cellNs scope.names = [] := by rfl) : wpAny (model prog w) A (call (.ref f) args.pos args.kw) Q E s := by
  refine wpAny_call (kla_callFunE hroom (S.keep _ _ hf) rfl hco hgen rfl (codeRec_le hrec S.keep) (hb _ _ _ _ ?_))
  refine nwFrame S fun L bs s' hl S' => ?_
  rw [show (kla_fn name qual params body scope clos pm (.ref c') ctv).scope.names = scope.names from rfl, hcell] at hl
  obtain rfl : bs = [] := List.length_eq_zero_iff.mp hl
  have e2 : (cellNs (kla_fn name qual params body scope clos pm (.ref c') ctv).scope.names).reverse.zip ([] : List Addr) ++ clos = clos := by
    rw [show (kla_fn name qual params body scope clos pm (.ref c') ctv).scope.names = scope.names from rfl, hcell]; rfl
  rw [e2]
  refine wpAny_mono (h L s' S') (fun _ s₂ h₂ => ⟨hlim.keeps h₂.1, kla_codeExpr ?_⟩) fun _ _ e => e.elim
  exact wpAny_mono h₂.2 (fun v s' q => q) fun e s' q => q
end Jr
end
-- KF
section
namespace Jr
open PySem PySem.W PySem.Calls PySem.SeqAt PySem.Builtin PyProof.Rows PySem.Spec
variable {x : Wd} {g : Heap} {l : List Ent} {prog : Program} {w : World} {A : Around} {E : Value → Shared → Prop} {s : Shared} {env : Env}

/-- y.sort(key=lam) -/
theorem callSort {y : Str} {p1 p2 pos kp : Pos} {lam : PySem.Expr} {Q : Value → Shared → Prop}
    (h : wpAny (model prog w) A (eval (.Name y p1) env) (fun ov s₁ => ∃ a, ov = .ref a ∧ (∃ o, s₁.heap.get? a = some o ∧ o.cls = .type "list" ∧ o.dict = none) ∧
      wpAny (model prog w) A (eval lam env) (fun v s₂ => wpAny (model prog w) A (call (.builtin "list.sort") [.ref a] [("key", v)]) Q E s₂) E s₁) E s)
    (hline : (p2.endLine == pos.line) = true := by rfl) :
    wpAny (model prog w) A (eval (.Call (.Attribute (.Name y p1) "sort" p2) [] [⟨some "key", lam, kp⟩] pos) env) Q E s := by
  rw [arm_eval_Call]
  refine wpAny_bind (show wpAny _ _ (eval (.Name y p1) env) _ _ _ from wpAny_mono h (fun ov s₁ h₁ => ?_) fun _ _ e => e)
  refine el13 h₁ fun a e202_ z203_ h₂ => ?_; try clear h₁; subst e202_; refine el13 z203_ fun o ho hc hd => ?_; try clear z203_
  refine wpAny_bind (wpAny_standAt ?_)
  have hpos : methodCallPos true (.Name y p1) env p2 pos = pure pos := by unfold methodCallPos; simp [hline]
  have hform : methodCallForm (([] : List PySem.Expr).length + [(⟨some "key", lam, kp⟩ : Keyword)].length) (backTo pos (starEach [] env)) (backToKw pos (keywordEach [⟨some "key", lam, kp⟩] env)) = true := by rfl
  unfold methodCall
  rw [hform]
  refine wpAny_bind (wpAny_holding (getMethod_builtin ⟨o, ho, hc⟩ PySem.F.plainAttrs_list PySem.F.slot_list_sort PySem.F.type_list_sort (fun b e => by cases e; exact ⟨o, ho, hd⟩) ?_))
  refine wpAny_bind (wpAny_of_eq hpos ?_)
  refine callWith_builtin_kwB rfl rfl ?_
  refine evalArgs_kw2_nil rfl ?_
  exact kwAll_cons (wpAny_mono h₂ (fun v s₂ h₃ => kwAll_nil h₃) fun _ _ e => e)
end Jr
end
-- KG
section
namespace Jr
open PySem PySem.W PySem.Calls PySem.SeqAt PySem.Builtin PyProof.Rows PySem.Spec
variable {x : Wd} {g : Heap} {l : List Ent} {w : World} {A : Around} {E : Value → Shared → Prop} {s : Shared} {env : Env} {mg mb : Str → Option Value}

set_option maxHeartbeats 4000000 in
theorem lcas_sort {st : Stmt} {sc : Scope} {bd L ra : Addr} {cs : List Im} {m : Str → Option Value} {ps : Array Value} {rvs : List Value} {Qn : Int → Int → Str} {Q : Flow → Shared → Prop}
    (hst : (bodyOf w 90)[14]? = some st) (hsc : scopeOf w 90 = some sc) (W : Wf w mg mb g) (S : St x g ((ra, ListP rvs) :: (L, NsP m) :: (87, (· = tabObj ps)) :: l) s) (T : TabOk g Qn ps) (hd : A.depth < 800) (hu : A.units < 3000) (hh : A.handled = none)
    (hQn : Qn 89 21 = "_find_lcas.<locals>.<lambda>") (hr : m "results" = some (.ref ra)) (hcv : Paired (fun c v => PrV g c.1 c.2 v) cs rvs) (h64 : cs.length < 64)
    (hN : ∀ i j, i ≤ j → j < (cs.map (·.1)).length → (cs.map (·.1)).getD j 0 ≤ (cs.map (·.1)).getD i 0)
    (h : ∀ g' out ps' s', Le g g' → St x g' ((ra, ListP out) :: (L, NsP m) :: (87, (· = tabObj ps')) :: l) s' → TabOk g' Qn ps' → Stab (cs.map (·.1)) rvs out → Q .next s') :
    wpAny (model PP w) A (exec st { scope := sc, locals := L, globals := mainGlobals, cells := [("_DNC", bd)], qual := "_find_lcas.<locals>.", func := some 90, code := .ref 89, frame := some L, builtins := builtinsNs }) Q E s := by
  have e0 := @_root_.id ((KK w).lookup 90 = some _) rfl
  have e := @_root_.id ((bodyOf w 90)[14]? = some _) (by unfold bodyOf; rw [e0]; exact rfl)
  rw [e] at hst
  cases hst
  have e2 := @_root_.id (scopeOf w 90 = some _) (by unfold scopeOf; rw [e0])
  rw [e2] at hsc
  cases hsc
  clear e e0 e2
  refine wpAny_Expr (callSort ?_)
  refine ldL S rfl rfl (by k_mem) hr (in13 ra rfl ?_ (kla_eval rfl ?_))
  · refine el14 (S.get (a := ra) (P := ListP rvs) (by k_mem)) fun o ho h1 h2 _ => ?_
    exact (in13 o ho h1 h2)
  · have n3 : ∀ {y z v : Ent} {r : List Ent}, (y :: z :: v :: r).Perm (v :: y :: z :: r) := fun {y z v r} => ((List.Perm.swap ..).cons _).trans (.swap ..)
    refine mkLam (P := 87) (c := 89) (Qn := Qn) W (S.perm n3) (codeHd_of_K W.K (by kernel_rfl)) T rfl rfl rfl hQn fun g1 q c' ctv ps1 s1 k1 S1 T1 hrec hq => ?_
    have W1 := W.le k1
    have hcv1 : Paired (fun c v => PrV g1 c.1 c.2 v) cs rvs := pairMono (fun _ _ h => h.le k1) hcv
    have S2 := S1.perm n3.symm
    refine el14 (S2.get (List.mem_cons_self ..)) fun o ho hc hdc z210_ => ?_; refine el11 z210_ fun n hdd => ?_; try clear z210_
    have hlen := pairLen hcv1
    refine wpAny_call_entry_kw PySem.F.slot_list_sort (in12 o ho hc) PySem.F.entry_list_sort ?_ (ksk_l1 _ _)
    rw [ksk_t1]
    refine sortKey (kz := cs.map (·.1)) S2 (by simp [hlen]) (by walk_at "om") hN (fun i v k l' s' hv hk S3 => ?_) (fun out s' S3 hst => (in12 _ rfl ?_))
    · refine el12 (pairGet' hcv1 hv) fun c hci z211_ => ?_; refine el45 z211_ fun a1 o1 u1 n1 e212_ h1 h2 z213_ h4 => ?_; try clear z211_; subst e212_; refine el11 z213_ fun t1 e214_ => ?_; try clear z213_; subst e214_
      have hkc : c.1 = k := by
        rw [List.getElem?_map, hci] at hk
        exact Option.some.inj hk
      subst hkc
      refine callLam (args := ⟨[.ref a1], []⟩) (binds := [("x", .ref a1)]) S3 hq hrec W1.lim (by show A.depth < 1000; walk_at "om") (BindsTo.of_eq rfl) ?_
      intro L2 s2 S4
      refine stored_cons (stL S4 rfl rfl (m := fun _ => none) .head fun s3 S5 => stored_nil ⟨S5.keep, subs ?_⟩)
      refine ldL S5 rfl rfl (by k_mem) upd_same (cInt S5 fun t2 s4 S6 => ?_)
      refine PyProof.Rows.tail_any (S6.isTup (in12 o1 h1 h2)).typeIs PySem.F.slot_tuple_getitem.lookup (PyProof.Rows.getItem_tuple (S6.isTup (in12 o1 h1 h2)) (j := 0) (x := .int c.1 t1) (by decide) (by decide) rfl rfl (in12 t1 rfl (S6.drop))) (by with_unfolding_all rfl)
    · exact h g1 out ps1 s' k1 S3 T1 hst
end Jr
end
-- KH
section
namespace Jr
open PySem PySem.W PySem.Calls PySem.SeqAt PySem.Builtin PyProof.Rows PySem.Spec
variable {x : Wd} {g : Heap} {l : List Ent} {w : World} {A : Around} {E : Value → Shared → Prop} {s : Shared} {env : Env} {mg mb : Str → Option Value}

/-- z = [b for a, b in it], where it is a frozen list of pairs -/
theorem compTA {prog : Program} {y1 y2 : Str} {p1 p2 pt pe : Pos} {kt : Nat} {iter : PySem.Expr} {scope : Scope} {pos : Pos} {cl : List (Str × Addr)} {Q : Flow → Shared → Prop} {z : Str} {pz pos' : Pos} {m : Str → Option Value} {la : Addr} {vs : List Value} {us : List (Value × Value)}
    (hsw : swapsWith (.ListComp (.Name y2 pe) [⟨.Tuple [.Name y1 p1, .Name y2 p2] kt pt, iter, [], 0⟩] scope pos) (some (.Name z pz)) pos'.line env = pure true) (hz : env.kindOf z = some .local) (hf : env.scope.kind = .function)
    (hclos : closureFor scope env = pure cl) (hkind : scope.kind = .function) (hnames : ∀ y ∈ scope.names, y.2 = .local → scope.names.lookup y.1 = some .local) (hcell : cellNs scope.names = []) (hy1 : scope.names.lookup y1 = some .local) (hy2 : scope.names.lookup y2 = some .local) (hh : A.handled = none)
    (hs : ∀ v, foldedSetIterable iter env v = pure v) (S : St x g ((env.locals, NsP m) :: l) s) (hl : g.IsList la vs.toArray) (hn : vs.length ≤ 1000) (hv : Paired (fun (u : Value × Value) v => ∃ a o, v = .ref a ∧ g.get? a = some o ∧ TupP [u.1, u.2] o) us vs)
    (hiter : ∀ (Q' : Value → Shared → Prop), Q' (.ref la) s → wpAny (model prog w) A (eval iter env) Q' E s)
    (hd1 : (y2 == ("__debug__" : Str)) = false)
    (h : ∀ g' acc s', Le g g' → St x g' ((acc, ListP (us.map (·.2))) :: (env.locals, NsP (upd m z (.ref acc))) :: l) s' → Q .next s') :
    wpAny (model prog w) A (exec (.Assign [.Name z pz] (.ListComp (.Name y2 pe) [⟨.Tuple [.Name y1 p1, .Name y2 p2] kt pt, iter, [], 0⟩] scope pos) pos') env) Q E s := by
  have hlen := pairLen hv
  rw [exec_Assign_Name_used _ _ _ _ hsw]
  refine wpAny_bind (wpAny_standAt (wpAny_bind ?_))
  show wpAny _ _ (comprehension (.ListComp (.Name y2 pe) [⟨.Tuple [.Name y1 p1, .Name y2 p2] kt pt, iter, [], 0⟩] scope pos) scope env (firstIterPos [⟨.Tuple [.Name y1 p1, .Name y2 p2] kt pt, iter, [], 0⟩] pos) (newList []) false (eval iter env) (some (assign (.Name z pz) env)) >>= fun _ => pure ()) _ _ _
  refine wpAny_bind (compG (x := x) (g := g) (use := some (assign (.Name z pz) env)) hclos hkind hnames hh hs (hiter _ (iterList S hl fun it s₁ S1 I => ?_)))
  refine (in79 (fun i ys g' l' => l' = (env.locals, NsP m) :: l ∧ ys = (us.take i).map (·.2)) it g _ _ (vs.length) _ rfl (Le.refl _) S1 I hn ⟨rfl, by simp⟩ ?_ ?_ ?_)
  · intro A E Q l s S h
    exact selfList S h
  · intro C bs hbs i v g' l' ys us' acc m' s' hus hi hvi hg' hJ S'
    refine el02 hJ fun e204_ e205_ => ?_; try clear hJ; subst e204_; subst e205_
    rw [hcell] at hbs
    obtain rfl : bs = [] := List.length_eq_zero_iff.mp hbs
    obtain rfl : us' = [] := List.length_eq_zero_iff.mp hus
    have e : (cellNs scope.names).reverse.zip ([] : List Addr) ++ cl = cl := by rw [hcell]; rfl
    rw [e]
    refine el12 (pairGet' hv hvi) fun u hu z206_ => ?_; refine el23 z206_ fun a o e207_ h1 h2 => ?_; try clear z206_; subst e207_
    refine unpack2 S' (.inl hh) (S'.isTup (in12 o (hg' _ _ h1) h2)) rfl fun s₁ S2 => ?_
    refine wpAny_assign_Name (stL S2 (lookup_relabel_local hy1) hkind .head fun s₂ S3 => ?_)
    refine wpAny_assign_Name (stL S3 (lookup_relabel_local hy2) hkind .head fun s₃ S4 => ?_)
    refine wpAny_pure ?_
    rw [if_pos rfl]
    refine ldL S4 (lookup_relabel_local hy2) hkind (by exact List.mem_cons_self ..) upd_same ?_ hd1
    refine (in45 g' _ ([]) _ rfl (Le.refl _) S4 rfl ?_)
    refine el11 (List.getElem?_eq_some_iff.mp hu) fun q1 q2 => ?_
    have e5 : us.take (i + 1) = us.take i ++ [us[i]] := List.take_succ_eq_append_getElem q1
    rw [e5, List.map_append, ← q2]; rfl
  · intro acc g' l' ys C m' s' hg' hR8 S'
    refine el02 hR8 fun e208_ e209_ => ?_; try clear hR8; subst e208_; subst e209_
    have htk : us.take vs.length = us := by rw [← hlen]; exact List.take_length
    rw [htk] at S'
    refine wpAny_assign_Name (stL S' hz hf (.tail (.tail .head)) fun s1 S1 => ?_)
    refine (in32 g' _ _ S1 (fun s3 S3 => wpAny_pure (wpAny_pure (h g' acc s3 hg' S3))))

theorem prSplit {cs : List Im} {out : List Value} (h : Paired (fun c v => PrV g c.1 c.2 v) cs out) : ∃ us : List (Value × Value), Paired (fun (u : Value × Value) v => ∃ a o, v = .ref a ∧ g.get? a = some o ∧ TupP [u.1, u.2] o) us out ∧ Paired (fun c v => NmV c.2 v) cs (us.map (·.2)) := by
  induction h with
  | nil => exact (in12 ([]) (.nil) (.nil))
  | cons h1 _ ih =>
    refine el12 ih fun us a b => ?_; try clear ih
    refine el45 h1 fun ad o u n e q1 q2 _ q4 => ?_; try clear h1
    exact (in12 ((u, n) :: us) (.cons (in23 ad o e q1 q2) a) (.cons q4 b))

set_option maxHeartbeats 4000000 in
theorem lcas_names {st : Stmt} {sc : Scope} {bd L ra : Addr} {cs : List Im} {m : Str → Option Value} {out : List Value} {Q : Flow → Shared → Prop}
    (hst : (bodyOf w 90)[15]? = some st) (hsc : scopeOf w 90 = some sc) (S : St x g ((L, NsP m) :: l) s) (hh : A.handled = none)
    (hr : m "results" = some (.ref ra)) (hra : g.IsList ra out.toArray) (hcv : Paired (fun c v => PrV g c.1 c.2 v) cs out) (h64 : cs.length ≤ 1000)
    (h : ∀ g' acc ys s', Le g g' → St x g' ((acc, ListP ys) :: (L, NsP (upd m "lcas" (.ref acc))) :: l) s' → Paired (fun c v => NmV c.2 v) cs ys → Q .next s') :
    wpAny (model PP w) A (exec st { scope := sc, locals := L, globals := mainGlobals, cells := [("_DNC", bd)], qual := "_find_lcas.<locals>.", func := some 90, code := .ref 89, frame := some L, builtins := builtinsNs }) Q E s := by
  have e0 := @_root_.id ((KK w).lookup 90 = some _) rfl
  have e := @_root_.id ((bodyOf w 90)[15]? = some _) (by unfold bodyOf; rw [e0]; exact rfl)
  rw [e] at hst
  cases hst
  have e2 := @_root_.id (scopeOf w 90 = some _) (by unfold scopeOf; rw [e0])
  rw [e2] at hsc
  cases hsc
  clear e e0 e2
  have hlen := pairLen hcv
  refine el12 (prSplit hcv) fun us hus1 hus2 => ?_
  refine compTA (us := us) (m := m) (la := ra) rfl rfl rfl rfl rfl (by decide) rfl rfl rfl hh (fun _ => rfl) S hra (by walk_at "om") hus1 (fun Q' hq => ldL S rfl rfl (by k_mem) hr hq) (by decide) fun g' acc s' k S' => ?_
  exact h g' acc _ s' k S' hus2
end Jr
end
-- KI
section
namespace Jr
open PySem PySem.W PySem.Calls PySem.SeqAt PySem.Builtin PyProof.Rows PySem.Spec
variable {x : Wd} {g : Heap} {l : List Ent} {w : World} {A : Around} {E : Value → Shared → Prop} {s : Shared} {env : Env} {mg mb : Str → Option Value}

theorem body90 {w : World} : ∃ st11 st12 st13 st14 st15 st16 pre, bodyOf w 90 = pre ++ [st11, st12, st13, st14, st15, st16] ∧ pre.length = 11 ∧
    (bodyOf w 90)[11]? = some st11 ∧ (bodyOf w 90)[12]? = some st12 ∧ (bodyOf w 90)[13]? = some st13 ∧ (bodyOf w 90)[14]? = some st14 ∧ (bodyOf w 90)[15]? = some st15 ∧ (bodyOf w 90)[16]? = some st16 := by
  have e0 := @_root_.id ((KK w).lookup 90 = some _) rfl
  unfold bodyOf
  rw [e0]
  exact (in78 _ _ _ _ _ _ ([_, _, _, _, _, _, _, _, _, _, _]) rfl rfl rfl rfl rfl rfl rfl rfl)

theorem lcas_12 {st : Stmt} {sc : Scope} {bd L : Addr} {m : Str → Option Value} {Q : Flow → Shared → Prop}
    (hst : (bodyOf w 90)[12]? = some st) (hsc : scopeOf w 90 = some sc) (S : St x g ((L, NsP m) :: l) s)
    (h : ∀ ra s', St x g ((ra, ListP []) :: (L, NsP (upd m "results" (.ref ra))) :: l) s' → Q .next s') :
    wpAny (model PP w) A (exec st { scope := sc, locals := L, globals := mainGlobals, cells := [("_DNC", bd)], qual := "_find_lcas.<locals>.", func := some 90, code := .ref 89, frame := some L, builtins := builtinsNs }) Q E s := by
  have e0 := @_root_.id ((KK w).lookup 90 = some _) rfl
  have e := @_root_.id ((bodyOf w 90)[12]? = some _) (by unfold bodyOf; rw [e0]; exact rfl)
  rw [e] at hst
  cases hst
  have e2 := @_root_.id (scopeOf w 90 = some _) (by unfold scopeOf; rw [e0])
  rw [e2] at hsc
  cases hsc
  clear e e0 e2
  refine wpAny_Assign_Name (List_ (wpAny_items_nil ?_))
  exact nwList S (by size_fits) fun ra s1 S1 => stL S1 rfl rfl (.tail .head) fun s2 S2 => h ra s2 S2
theorem lcas_16 {st : Stmt} {sc : Scope} {bd L acc : Addr} {m : Str → Option Value} {Q : Flow → Shared → Prop}
    (hst : (bodyOf w 90)[16]? = some st) (hsc : scopeOf w 90 = some sc) (S : St x g l s) (hm : (L, NsP m) ∈ l) (hv : m "lcas" = some (.ref acc)) (h : Q (.ret (.ref acc)) s) :
    wpAny (model PP w) A (exec st { scope := sc, locals := L, globals := mainGlobals, cells := [("_DNC", bd)], qual := "_find_lcas.<locals>.", func := some 90, code := .ref 89, frame := some L, builtins := builtinsNs }) Q E s := by
  have e0 := @_root_.id ((KK w).lookup 90 = some _) rfl
  have e := @_root_.id ((bodyOf w 90)[16]? = some _) (by unfold bodyOf; rw [e0]; exact rfl)
  rw [e] at hst
  cases hst
  have e2 := @_root_.id (scopeOf w 90 = some _) (by unfold scopeOf; rw [e0])
  rw [e2] at hsc
  cases hsc
  clear e e0 e2
  exact wpAny_Return_some (ldL S rfl rfl hm hv h)
end Jr
end
-- KJ
section
namespace Jr
open PySem PySem.W PySem.Calls PySem.SeqAt PySem.Builtin PyProof.Rows PySem.Spec
variable {x : Wd} {g : Heap} {l : List Ent} {w : World} {A : Around} {E : Value → Shared → Prop} {s : Shared} {env : Env} {mg mb : Str → Option Value}

/-- the stable order, said of the abstract list -/
def StabI (cs cs' : List Im) : Prop := ∃ p : Nat → Nat, cs'.length = cs.length ∧ (∀ i, i < cs.length → p i < cs.length ∧ cs'[i]? = cs[p i]?) ∧
  ∀ i j, i < j → j < cs.length → (cs.map (·.1)).getD (p i) 0 < (cs.map (·.1)).getD (p j) 0 ∨ ((cs.map (·.1)).getD (p i) 0 = (cs.map (·.1)).getD (p j) 0 ∧ p i < p j)
theorem stab_pair {R : Im → Value → Prop} {cs : List Im} {vs out : List Value} (hp : Paired R cs vs) (h : Stab (cs.map (·.1)) vs out) : ∃ cs', StabI cs cs' ∧ Paired R cs' out := by
  have hlen := pairLen hp
  refine el14 h fun p h1 _ h3 h4 => ?_; try clear h
  refine (in12 ((List.range cs.length).map fun i => cs.getD (p i) (0, 0)) (in13 p (by simp) (fun i hi => ?_) (fun i j hij hj => h4 i j hij (by walk_at "om"))) ?_)
  · have := (h3 i (by walk_at "om")).1
    refine ⟨by walk_at "om", ?_⟩
    have hpi : p i < cs.length := by walk_at "om"
    simp [hi, hpi]
  · refine paired_of (by simp; walk_at "om") fun i hi1 hi2 => ?_
    simp at hi1
    refine el02 (h3 i (by walk_at "om")) fun q1 q2 => ?_
    rw [List.getElem?_eq_getElem hi2, List.getElem?_eq_getElem q1] at q2
    have q3 := Option.some.inj q2
    refine el12 (pairGet hp (i := p i) (a := cs[p i]'(by walk_at "om")) (List.getElem?_eq_getElem (by walk_at "om"))) fun b hb hr => ?_
    rw [List.getElem?_eq_getElem q1] at hb
    cases hb
    rw [q3]
    have hpi : p i < cs.length := by walk_at "om"
    simpa [hpi] using hr

/-- the last five statements of _find_lcas -/
theorem lcas_end {st12 st13 st14 st15 st16 : Stmt} {sc : Scope} {lp ls cn csd f a pq bd L : Addr} {mn : Int} {sh : Value} {fl : Fl} {cs : List Im} {its : Array Im} {m : Str → Option Value} {ps : Array Value} {cvs : List Value} {tdn : Tok} {Qn : Int → Int → Str} {Q : Flow → Shared → Prop}
    (h12 : (bodyOf w 90)[12]? = some st12) (h13 : (bodyOf w 90)[13]? = some st13) (h14 : (bodyOf w 90)[14]? = some st14) (h15 : (bodyOf w 90)[15]? = some st15) (h16 : (bodyOf w 90)[16]? = some st16) (hsc : scopeOf w 90 = some sc)
    (W : Wf w mg mb g) (S : St x g (lcL w cn pq csd L cvs g its fl ps m l) s) (T : TabOk g Qn ps) (hd : A.depth < 800) (hu : A.units < 3000) (hh : A.handled = none) (hQn : Qn 89 21 = "_find_lcas.<locals>.<lambda>")
    (hm : FM lp ls cn csd f a mn sh m) (hdnc : Cellz g bd (.int 4 tdn)) (hcv : Paired (fun c v => PrV g c.1 c.2 v) cs cvs) (hok : Ok fl its.toList) (hc : OkC fl cs)
    (hN : ∀ i j, i ≤ j → j < ((cs.filter (notDnc fl)).map (·.1)).length → ((cs.filter (notDnc fl)).map (·.1)).getD j 0 ≤ ((cs.filter (notDnc fl)).map (·.1)).getD i 0)
    (h : ∀ g' acc ys cs' ps' m' s', Le g g' → St x g' ((acc, ListP ys) :: (L, NsP m') :: (87, (· = tabObj ps')) :: l) s' → TabOk g' Qn ps' → StabI (cs.filter (notDnc fl)) cs' → Paired (fun c v => NmV c.2 v) cs' ys → Q (.ret (.ref acc)) s') :
    wpAny (model PP w) A (execs [st12, st13, st14, st15, st16] { scope := sc, locals := L, globals := mainGlobals, cells := [("_DNC", bd)], qual := "_find_lcas.<locals>.", func := some 90, code := .ref 89, frame := some L, builtins := builtinsNs }) Q (fun _ _ => False) s := by
  unfold lcL at S
  obtain ⟨g1, ocn, k1, ecn, pcn, _, S1⟩ := S.freeze
  have W1 := W.le k1
  have S2 := (S1.weak (P' := PqP g1 its) fun o h => pqLe k1 h)
  have hcn : g1.IsList cn cvs.toArray := (in13 ocn ecn (pcn.1) (pcn.2.2))
  have n3 : ∀ {y z v : Ent} {r : List Ent}, (y :: z :: v :: r).Perm (v :: y :: z :: r) := fun {y z v r} => ((List.Perm.swap ..).cons _).trans (.swap ..)
  refine wpAny_execs_cons (lcas_12 h12 hsc (S2.perm n3) fun ra s1 S3 => ?_)
  have hm2 := hm.upd (y := "results") (v := .ref ra) (by decide)
  have hr2 : upd m "results" (.ref ra) "results" = some (.ref ra) := upd_same
  generalize upd m "results" (.ref ra) = m2 at *
  refine wpAny_execs_cons (lcas_res h13 hsc (S3.perm (n3.symm.cons _)) hu hh hm2 hr2 (hdnc.le k1) hcn (pairMono (fun _ _ h => h.le k1) hcv) hok hc fun g2 rvs m3 s2 k2 S4 hm3 hr3 hrv => ?_)
  have W2 := W1.le k2
  have hcl : (cs.filter (notDnc fl)).length ≤ 11 := by
    have h2 := nodup_lt 11 _ hc.n (fun y hy => by obtain ⟨c, hc', rfl⟩ := List.mem_map.mp hy; exact (hc.m c hc').1)
    exact Nat.le_trans (List.length_filter_le _ _) (by simpa using h2)
  -- pq and cstates are no longer needed
  have S5 : St x g2 ((ra, ListP rvs) :: (L, NsP m3) :: (87, (· = tabObj ps)) :: l) s2 := S4.sub (((List.Sublist.refl _).cons _ |>.cons _).cons_cons _)
  refine wpAny_execs_cons (lcas_sort h14 hsc W2 S5 (T.le (k1.trans k2)) hd hu hh hQn hr3 hrv (by walk_at "om") hN fun g3 out ps3 s3 k3 S6 T3 hst => ?_)
  refine el12 (stab_pair hrv hst) fun cs' hsi hcp => ?_
  have hcp3 : Paired (fun c v => PrV g3 c.1 c.2 v) cs' out := pairMono (fun _ _ h => h.le k3) hcp
  obtain ⟨g4, ora, k4, era, pra, _, S7⟩ := S6.freeze
  have hcp4 : Paired (fun c v => PrV g4 c.1 c.2 v) cs' out := pairMono (fun _ _ h => h.le k4) hcp3
  have hlen' : cs'.length ≤ 1000 := by obtain ⟨p, e, _⟩ := hsi; walk_at "om"
  refine wpAny_execs_cons (lcas_names h15 hsc S7 hh hr3 ⟨ora, era, pra.1, pra.2.2⟩ hcp4 hlen' fun g5 acc ys s5 k5 S8 hys => ?_)
  exact wpAny_execs_cons (lcas_16 h16 hsc S8 (.tail _ (.head _)) upd_same (h g5 acc ys cs' ps3 _ s5 (k1.trans (k2.trans (k3.trans (k4.trans k5)))) S8 (T3.le (k4.trans k5)) hsi hys))
end Jr
end
-- KL
section
namespace Jr
open PySem PySem.W PySem.Calls PySem.SeqAt PySem.Builtin PyProof.Rows PySem.Spec
variable {x : Wd} {g : Heap} {l : List Ent} {w : World} {A : Around} {E : Value → Shared → Prop} {s : Shared} {env : Env} {mg mb : Str → Option Value}

abbrev lcEnv (sc : Scope) (bd L : Addr) : Env := { scope := sc, locals := L, globals := mainGlobals, cells := [("_DNC", bd)], qual := "_find_lcas.<locals>.", func := some 90, code := .ref 89, frame := some L, builtins := builtinsNs }

theorem excP_none {cls tb : Value} {o : Obj} (h : ExcP cls tb o) : ∃ vs, o.data = .fields vs ∧ vs[2]? = some .none := by obtain ⟨_, vs, a, _, c⟩ := h; exact (in12 vs a c)

set_option maxHeartbeats 4000000 in
/-- wlst.add((lookup_stamp(y), y)), or (0, y) where there are marks -/
theorem tryAdd {y : Str} {c : Nat} {v : Value} {q1 q2 q3 q4 q5 q6 q7 q8 q9 q10 q11 q12 q13 q14 q15 q16 q17 q18 q19 q20 q21 q22 q23 q24 q25 q26 q27 : Pos} {k1 k2 k3 k4 : Nat}
    {sc : Scope} {lp ls cn csd f a pq bd L : Addr} {mn : Int} {sh : Value} {b : Bool} {pr : Nat → Option (List Nat)} {tm : Nat → Option Int} {Dom : Nat → Prop} {Qn : Int → Int → Str} {fl : Fl}
    {its : Array Im} {m : Str → Option Value} {ps : Array Value} {Q : Flow → Shared → Prop} {x0 : Wd} {g0 : Heap} {it : List Ent}
    (hsc : scopeOf w 90 = some sc) (hy : (lcEnv sc bd L).kindOf y = some .local) (hyd : (y == ("__debug__" : Str)) = false) (hl1 : (q2.endLine == q8.line) = true) (hl2 : (q20.endLine == q24.line) = true)
    (G : LG w mg mb g lp ls f a pq bd sh b pr tm) (S : St x g (it ++ lcL w cn pq csd L [] g its fl ps m l) s) (hd : A.depth < 800) (hu : A.units < 3000) (hh : A.handled = none)
    (hF : FrL A (lcEnv sc bd L) L l) (hm : FM lp ls cn csd f a mn sh m) (hv : m y = some v) (hN : NmV c v) (T : TabOk g Qn ps) (hx : Side x0 x) (hg0 : Le g0 g) (hD : Dom c) (hz : its.size < 10000)
    (h : ∀ g' its' s', Le g g' → St x g' (it ++ lcL w cn pq csd L [] g' its' fl ps m l) s' → its'.toList.Perm ((-((tm c).getD 0), c) :: its.toList) → (tm c ≠ none ∨ b = true) → Q .next s') :
    wpAny (model PP w) A (exec (.Try [.Expr (.Call (.Attribute (.Name "wlst" q1) "add" q2) [.Tuple [.Call (.Name "lookup_stamp" q3) [.Name y q4] [] q5, .Name y q6] k1 q7] [] q8) q9]
      [.ExceptHandler (some (.Name "KeyError" q10)) none [.If (.BoolOp .Or [.Compare (.Name "shallows" q11) [.Is] [.Constant .none k2 q12] q13, .UnaryOp .Not (.Name "shallows" q14) q15] q16) [.Raise none none q17] [] q18,
        .Expr (.Call (.Attribute (.Name "wlst" q19) "add" q20) [.Tuple [.Constant (.int 0) k3 q21, .Name y q22] k4 q23] [] q24) q25] q26] [] [] q27) (lcEnv sc bd L)) Q (Thrown (ThP x0 g0 Qn b Dom pr tm) 87 L l) s := by
  have e2 := @_root_.id (scopeOf w 90 = some _) (by unfold scopeOf; rw [@_root_.id ((KK w).lookup 90 = some _) rfl])
  rw [e2] at hsc
  cases hsc
  clear e2
  have mI : ∀ p ∈ l, p ∈ it ++ lcL w cn pq csd L [] g its fl ps m l := fun q hq => List.mem_append_right _ (by unfold lcL; simp [hq])
  have mL : (L, NsP m) ∈ it ++ lcL w cn pq csd L [] g its fl ps m l := List.mem_append_right _ (by unfold lcL; simp)
  refine el22 (G.ls.obj) fun ols fdls hols hfdls => ?_
  refine el22 (G.W.fn 63 rfl rfl) fun o63 fd63 h63 h63d => ?_
  have pm : ∀ {g : Heap} {its : Array Im}, (it ++ lcL w cn pq csd L [] g its fl ps m l).Perm ((pq, PqP g its) :: (it ++ (cn, ListP []) :: (csd, CsP w fl) :: (L, NsP m) :: (87, (· = tabObj ps)) :: l)) := fun {g its} => by
    unfold lcL
    refine (List.Perm.append_left it (List.Perm.swap ..)).trans ?_
    exact List.perm_middle
  -- the add, once the tuple is made
  have add : ∀ {A' : Around} {E' : Value → Shared → Prop} {Q' : Value → Shared → Prop} {ll : List Ent} {tp : Addr} {u : Value} {t : Int} {s1 : Shared}, A'.depth < 850 → A'.units < 4000 → HSt A' ll → St x g ((tp, TupP [u, v]) :: (ll ++ (it ++ lcL w cn pq csd L [] g its fl ps m l))) s1 → TmV t u →
      (∀ g' its' s', Le g g' → St x g' (ll ++ (it ++ lcL w cn pq csd L [] g' its' fl ps m l)) s' → its'.toList.Perm ((-t, c) :: its.toList) → Q' .none s') → wpAny (model PP w) A' (call (.ref 63) [.ref a, .ref tp] []) Q' E' s1 := by
    intro A' E' Q' ll tp u t s1 hd' hu' hh' S1 ht hk
    refine el25 (S1.freeze) fun g1 otp k1 etp ptp _ S2 => ?_
    have pm2 : ∀ {g : Heap} {its : Array Im}, (ll ++ (it ++ lcL w cn pq csd L [] g its fl ps m l)).Perm ((pq, PqP g its) :: (ll ++ (it ++ (cn, ListP []) :: (csd, CsP w fl) :: (L, NsP m) :: (87, (· = tabObj ps)) :: l))) := fun {g its} =>
      (List.Perm.append_left ll pm).trans List.perm_middle
    have S3 := (S2.perm pm2).weak (P' := PqP g1 its) fun o h => pqLe k1 h
    refine law_add (l' := []) (G.W.le k1) S3 (by walk_at "om") (by walk_at "om") (hh'.sub fun p hp => List.mem_append_left _ hp) (G.wl.le k1) ⟨otp, etp, ptp⟩ ht hN hz fun g2 its2 s2 k2 S4 hp => ?_
    refine hk g2 its2 s2 (k1.trans k2) (S4.perm pm2.symm) ?_
    have := Array.perm_iff_toList_perm.mp hp
    rw [Array.toList_push] at this
    exact this.trans (List.perm_append_comm (l₁ := its.toList) (l₂ := [(-t, c)]))
  refine tryKey (mg := mg) (mb := mb) (L := L) hF.top rfl rfl rfl rfl rfl ?_
  refine wpAny_execs_cons (wpAny_Expr (callMeth rfl rfl hl1 ?_) rfl rfl)
  refine ldL S rfl rfl mL hm.wl (in44 a 63 o63 fd63 rfl h63d (wlMeth G.W S G.wl (by decide) (by kernel_rfl) (by kernel_rfl)) (wpAny_items_cons (Tuple_ (wpAny_items_cons (callFn ?_)))))
  refine ldL S rfl rfl mL hm.ls (in33 ls ols fdls rfl hfdls (wpAny_items_cons (ldL S hy rfl mL hv (wpAny_items_nil ⟨S.keep _ _ hols, ?_⟩) hyd)))
  refine G.ls.run (k := c) (Le.refl _) S (by walk_at "om") hh (hF.ok _ ⟨m, mL⟩ mI) hN (fun P z s1 hP hz' S1 => ?_) (fun hP e Tb s1 S1 => ?_)
  · unfold TmF at hP
    cases htm : tm c with
    | none => rw [htm] at hP; cases hP
    | some t =>
      rw [htm] at hP; cases hP
      refine wpAny_items_cons (ldL S1 hy rfl mL hv (wpAny_items_nil ?_) hyd)
      refine nwTuple S1 (by size_fits) fun tp s2 S2 => wpAny_items_nil ⟨S2.keep _ _ h63, ?_⟩
      refine add (ll := []) (by show A.depth < 850; walk_at "om") (by show A.units < 4000; walk_at "om") (.inl hh) S2 hz' fun g' its' s' k S3 hp => wpAny_execs_nil ?_
      refine h g' its' s' k S3 ?_ (.inl (by rw [htm]; simp))
      rw [htm]; exact hp
  · have htm : tm c = none := by
      unfold TmF at hP
      cases e : tm c with
      | none => rfl
      | some _ => rw [e] at hP; cases hP
    refine (in55 e Tb x g _ rfl (G.W) S1 (hF.ok _ ⟨m, mL⟩ mI) (fun T' s2 S2 => ?_))
    have mL2 : (L, NsP m) ∈ (T', TbP .none) :: (e, ExcP (.type "KeyError") (.ref T')) :: (it ++ lcL w cn pq csd L [] g its fl ps m l) := .tail _ (.tail _ mL)
    refine wpAny_execs_cons (wpAny_If (noneOrNot G.sh S2 rfl rfl mL2 hm.sh fun s3 S3 => ?_))
    cases b with
    | true =>
      rw [if_neg (by decide)]
      refine wpAny_execs_nil (wpAny_execs_cons (wpAny_Expr (callMeth rfl rfl hl2 ?_) rfl rfl))
      refine ldL S3 rfl rfl mL2 hm.wl (in44 a 63 o63 fd63 rfl h63d (wlMeth G.W S3 G.wl (by decide) (by kernel_rfl) (by kernel_rfl)) (wpAny_items_cons (Tuple_ (wpAny_items_cons (cInt S3 fun t0 s4 S4 => ?_)))))
      refine wpAny_items_cons (ldL S4 hy rfl mL2 hv (wpAny_items_nil ?_) hyd)
      refine nwTuple S4 (by size_fits) fun tp s5 S5 => wpAny_items_nil ⟨S5.keep _ _ h63, ?_⟩
      refine add (ll := [(T', TbP .none), (e, ExcP (.type "KeyError") (.ref T'))]) (by show A.depth < 850; walk_at "om") (by show A.units < 4000; walk_at "om") (.inr (in23 e _ rfl (.tail _ (.head _)) (fun o ho => excP_none ho))) S5 ⟨t0, rfl⟩ fun g' its' s' k S6 hp => wpAny_execs_nil ?_
      refine h g' its' s' k S6.drop.drop ?_ (.inr rfl)
      rw [htm]; exact hp
    | false =>
      rw [if_pos (by decide)]
      refine wpAny_execs_cons (rethrow S3 rfl fun s4 S4 => ?_)
      refine (in79 x g e T' _ (it ++ [(cn, ListP []), (pq, PqP g its), (csd, CsP w fl), (L, NsP m)]) ps rfl (.inr rfl) ?_ ⟨m, by simp⟩ hx hg0 T rfl (in12 c hD (.inl htm)))
      simpa [lcL] using S4
end Jr
end
-- KM
section
namespace Jr
open PySem PySem.W PySem.Calls PySem.SeqAt PySem.Builtin PyProof.Rows PySem.Spec
variable {x : Wd} {g : Heap} {l : List Ent} {w : World} {A : Around} {E : Value → Shared → Prop} {s : Shared} {env : Env} {mg mb : Str → Option Value}


def addC (fl : Fl) (c : Nat) : Fl := addF fl c ((fl c).getD 0 ||| 2)
def qOf (tm : Nat → Option Int) (c : Nat) : Im := (-((tm c).getD 0), c)
theorem addC_lt {fl : Fl} {c : Nat} (h : ∀ k n, fl k = some n → n < 16) : ∀ k n, addC fl c k = some n → n < 16 := fun k n e => by
  unfold addC addF at e
  split at e
  · cases e; exact lt16 _ (getD_lt h c) _ (by decide)
  · exact h k n e
theorem foldC_lt : ∀ (cs : List Nat) {fl : Fl}, (∀ k n, fl k = some n → n < 16) → ∀ k n, cs.foldl addC fl k = some n → n < 16 := by
  intro cs
  induction cs with
  | nil => exact fun h => h
  | cons c cs ih => exact fun h => ih (addC_lt h)

set_option maxHeartbeats 4000000 in
theorem lcas_10 {st : Stmt} {sc : Scope} {lp ls cn csd f a pq bd L c2a : Addr} {mn : Int} {sh : Value} {b : Bool} {pr : Nat → Option (List Nat)} {tm : Nat → Option Int} {Dom : Nat → Prop} {Qn : Int → Int → Str} {fl0 : Fl} {c2s : List Nat} {vs : List Value}
    {its : Array Im} {m : Str → Option Value} {ps : Array Value} {Q : Flow → Shared → Prop} {x0 : Wd} {g0 : Heap}
    (hst : (bodyOf w 90)[10]? = some st) (hsc : scopeOf w 90 = some sc)
    (G : LG w mg mb g lp ls f a pq bd sh b pr tm) (S : St x g (lcL w cn pq csd L [] g its fl0 ps m l) s) (hd : A.depth < 800) (hu : A.units < 3000) (hh : A.handled = none) (hcs : csd ≠ sysModules)
    (hF : FrL A (lcEnv sc bd L) L l) (hm : FM lp ls cn csd f a mn sh m) (hv : m "c2s" = some (.ref c2a)) (hl : g.IsList c2a vs.toArray) (hp : Paired NmV c2s vs) (hlen : c2s.length ≤ 100) (hz : its.size ≤ 100) (T : TabOk g Qn ps) (hx : Side x0 x) (hg0 : Le g0 g) (hD : ∀ c ∈ c2s, Dom c)
    (hb : ∀ k n, fl0 k = some n → n < 16)
    (h : ∀ g' its' m' s', Le g g' → St x g' (lcL w cn pq csd L [] g' its' (c2s.foldl addC fl0) ps m' l) s' → FM lp ls cn csd f a mn sh m' → its'.toList.Perm (c2s.map (qOf tm) ++ its.toList) → (∀ c ∈ c2s, tm c ≠ none ∨ b = true) → Q .next s') :
    wpAny (model PP w) A (exec st (lcEnv sc bd L)) Q (Thrown (ThP x0 g0 Qn b Dom pr tm) 87 L l) s := by
  have e0 := @_root_.id ((KK w).lookup 90 = some _) rfl
  have e := @_root_.id ((bodyOf w 90)[10]? = some _) (by unfold bodyOf; rw [e0]; exact rfl)
  rw [e] at hst
  cases hst
  have e2 := @_root_.id (scopeOf w 90 = some _) (by unfold scopeOf; rw [e0])
  have hsc' := hsc
  rw [e2] at hsc
  cases hsc
  clear e e0 e2
  have hplen := pairLen hp
  refine wpAny_For ?_
  unfold lcL at S
  refine ldL S rfl rfl (by k_mem) hv (iterList S hl fun it s1 S1 I => ?_)
  refine forIt (fun i g' l' => ∃ its' m', l' = lcL w cn pq csd L [] g' its' ((c2s.take i).foldl addC fl0) ps m' l ∧ FM lp ls cn csd f a mn sh m' ∧ its'.toList.Perm ((c2s.take i).map (qOf tm) ++ its.toList) ∧ ∀ c ∈ c2s.take i, tm c ≠ none ∨ b = true) S1 I hh (Thrown.pass hF)
    (in24 its m rfl hm (by simp) (by simp)) ?_ ?_
  · intro i v g1 _ s2 hi hvi hg hJ8 S2
    refine nameQ ?_; intro Qx
    refine el24 hJ8 fun its1 m1 e215_ hm1 hq1 hb1 => ?_; try clear hJ8; subst e215_
    unfold lcL at S2
    refine el12 (pairGet' hp hvi) fun c hc hcv => ?_
    refine el11 (List.getElem?_eq_some_iff.mp hc) fun hi1 hi2 => ?_
    have htake : c2s.take (i + 1) = c2s.take i ++ [c] := by rw [← hi2, List.take_succ_eq_append_getElem hi1]
    have hcm : c ∈ c2s := List.mem_of_getElem? hc
    have hbi := foldC_lt (c2s.take i) hb
    have hfold : (c2s.take (i + 1)).foldl addC fl0 = addC ((c2s.take i).foldl addC fl0) c := by rw [htake, List.foldl_append]; rfl
    generalize (c2s.take i).foldl addC fl0 = fl1 at *
    have G1 := G.le hg
    refine el02 hcv fun hc11 z216_ => ?_; try clear hcv; refine el11 z216_ fun tc e217_ => ?_; try clear z216_; subst e217_
    refine wpAny_assign_Name (stL S2 rfl rfl (.tail (.tail (.tail (.tail .head)))) fun s3 S3 => ?_)
    refine nameQ ?_; intro Qy
    have hm2 := hm1.upd (y := "c2") (v := .bytes (nm c) tc) (by decide)
    refine wpAny_execs_cons (wpAny_Assign_Name (callGet ?_))
    refine ldL S3 rfl rfl (by k_mem) hm2.cs (in13 csd rfl ?_ ?_)
    · refine el12 (S3.get (a := csd) (P := CsP w fl1) (by k_mem)) fun o ho hc => ?_
      exact (in12 o ho (hc.exact))
    refine ldL S3 rfl rfl (by k_mem) upd_same (cInt S3 fun t6 s4 S4 => getFl S4 (by k_mem) hcs hc11 fun t7 s5 S5 => ?_)
    refine stL S5 rfl rfl (.tail (.tail (.tail (.tail .head)))) fun s6 S6 => ?_
    have hm3 := hm2.upd (y := "cflags") (v := .int ((fl1 c).getD 0 : Nat) t7) (by decide)
    have hc2 : upd (upd m1 "c2" (.bytes (nm c) tc)) "cflags" (.int ((fl1 c).getD 0 : Nat) t7) "c2" = some (.bytes (nm c) tc) := by walk_at "lk"
    have hcf : upd (upd m1 "c2" (.bytes (nm c) tc)) "cflags" (.int ((fl1 c).getD 0 : Nat) t7) "cflags" = some (.int ((fl1 c).getD 0 : Nat) t7) := upd_same
    generalize upd (upd m1 "c2" (.bytes (nm c) tc)) "cflags" (.int ((fl1 c).getD 0 : Nat) t7) = m3 at *
    refine el11 (hm3.a2) fun ta2 ha2 => ?_
    refine wpAny_execs_cons (wpAny_Assign_Subscript (wpAny_BinOp ?_))
    refine ldL S6 rfl rfl (by k_mem) hcf (ldL S6 rfl rfl (by k_mem) ha2 (oOr S6 fun t9 s7 S7 => ?_))
    refine ldL S7 rfl rfl (by k_mem) hm3.cs (ldL S7 rfl rfl (by k_mem) hc2 ?_)
    rw [show (2 : Int) = ((2 : Nat) : Int) from rfl, bOr _ (getD_lt hbi c) 2 (by decide)]
    have n4 : ∀ {y z v u : Ent} {r : List Ent}, (y :: z :: v :: u :: r).Perm (u :: y :: z :: v :: r) := fun {y z v u r} => (((List.Perm.swap ..).cons _).cons _).trans (((List.Perm.swap ..).cons _).trans (.swap ..))
    refine setFl (S7.perm n4) hc11 fun s8 S8 => ?_
    have S9 := S8.perm n4.symm
    refine wpAny_execs_cons (tryAdd (mg := mg) (mb := mb) (g := g1) (it := [(it, LIterP c2a (i + 1))]) (fl := addC fl1 c) (c := c) hsc' rfl (by decide) rfl rfl G1 S9 hd hu hh hF hm3 hc2 ⟨hc11, ⟨tc, rfl⟩⟩ (T.le hg) hx (hg0.trans hg) (hD c hcm) ?_ fun g2 its2 s9 k2 S10 hq2 hb2 => ?_)
    · have e1 := hq1.length_eq
      have : (c2s.take i).length ≤ c2s.length := by simp; walk_at "om"
      simp only [List.length_append, List.length_map, Array.length_toList] at e1
      walk_at "om"
    · refine wpAny_execs_nil (in23 g2 _ k2 S10 (in24 its2 m3 ?_ hm3 ?_ ?_))
      · rw [hfold]; rfl
      · rw [htake, List.map_append]
        refine hq2.trans (((hq1.cons _)).trans ?_)
        show (qOf tm c :: (List.map (qOf tm) (List.take i c2s) ++ its.toList)).Perm _
        rw [List.append_assoc]
        exact List.perm_middle.symm
      · intro c' hc'
        rw [htake] at hc'
        rcases List.mem_append.mp hc' with hc' | hc'
        · exact hb1 c' hc'
        · rw [List.mem_singleton.mp hc']; exact hb2
  · intro g1 _ s2 hg hR4 S2
    refine el24 hR4 fun its1 m1 e218_ hm1 hq1 hb1 => ?_; try clear hR4; subst e218_
    have htk : c2s.take vs.length = c2s := by rw [← hplen]; exact List.take_length
    rw [htk] at S2 hq1 hb1
    exact h g1 its1 m1 s2 hg S2 hm1 hq1 hb1
end Jr
end
-- KN
section
namespace Jr
open PySem PySem.W PySem.Calls PySem.SeqAt PySem.Builtin PyProof.Rows PySem.Spec
variable {x : Wd} {g : Heap} {l : List Ent} {w : World} {A : Around} {E : Value → Shared → Prop} {s : Shared} {env : Env} {mg mb : Str → Option Value}


theorem callCls0 {K : Frag} {M : Model} {id : Str} {p pos : Pos} {Q : Value → Shared → Prop}
    (h : wpAny M A (eval (.Name id p) env) (fun f s₁ => keepIn K f = true ∧ K.In s₁.heap ∧ wpAny M A (call f [] []) Q E s₁) E s) :
    wpAny M A (eval (.Call (.Name id p) [] [] pos) env) Q E s := by
  refine wpAny_Call_Name_kw (wpAny_mono h (fun f s₁ h₁ => ?_) fun _ _ e => e)
  refine el03 h₁ fun hk X h₂ => ?_; try clear h₁
  exact callWith_of (P := K.In) rfl (keeps_K hk) (evalArgs_nil3 ⟨X, by simpa using h₂⟩)

theorem St.cellz {c : Addr} {v : Value} (S : St x g ((c, CellP (some v)) :: l) s) : ∃ g', Le g g' ∧ Cellz g' c v ∧ St x g' l s := by
  refine el25 (S.freeze) fun g' o k e h _ S' => ?_
  exact (in13 g' k (in12 o e h) S')

set_option maxHeartbeats 4000000 in
theorem lcas_init {s0 s1 s2 s3 s4 s5 s6 s7 s8 : Stmt} {rest : List Stmt} {sc : Scope} {lp ls c2a bd L : Addr} {mn : Int} {tmn : Tok} {sh : Value} {b : Bool} {pr : Nat → Option (List Nat)} {tm : Nat → Option Int} {Qn : Int → Int → Str} {c1 : Nat} {v1 : Value}
    {m : Str → Option Value} {ps : Array Value} {Q : Flow → Shared → Prop}
    (h0 : (bodyOf w 90)[0]? = some s0) (h1 : (bodyOf w 90)[1]? = some s1) (h2 : (bodyOf w 90)[2]? = some s2) (h3 : (bodyOf w 90)[3]? = some s3) (h4 : (bodyOf w 90)[4]? = some s4) (h5 : (bodyOf w 90)[5]? = some s5) (h6 : (bodyOf w 90)[6]? = some s6) (h7 : (bodyOf w 90)[7]? = some s7) (h8 : (bodyOf w 90)[8]? = some s8)
    (hsc : scopeOf w 90 = some sc) (W : Wf w mg mb g) (S : St x g ((bd, CellP none) :: (L, NsP m) :: (87, (· = tabObj ps)) :: l) s) (T : TabOk g Qn ps) (hd : A.depth < 800) (hQn : Qn 30 4 = "_find_lcas.<locals>._has_candidates")
    (hlp : LkF w g lp (PrF pr)) (hls : LkF w g ls (TmF tm)) (hsh : ShOk w g sh b)
    (mlp : m "lookup_parents" = some (.ref lp)) (mc1 : m "c1" = some v1) (mc2 : m "c2s" = some (.ref c2a)) (mls : m "lookup_stamp" = some (.ref ls)) (mmn : m "min_stamp" = some (.int mn tmn)) (msh : m "shallows" = some sh) (hN : NmV c1 v1)
    (h : ∀ g' cn csd f a pq ps' m' s', Le g g' → csd ≠ sysModules → LG w mg mb g' lp ls f a pq bd sh b pr tm → St x g' (lcL w cn pq csd L [] g' #[] (addF (fun _ => none) c1 1) ps' m' l) s' → FM lp ls cn csd f a mn sh m' → TabOk g' Qn ps' → m' "c1" = some v1 → m' "c2s" = some (.ref c2a) →
      wpAny (model PP w) A (execs rest (lcEnv sc bd L)) Q E s') :
    wpAny (model PP w) A (execs (s0 :: s1 :: s2 :: s3 :: s4 :: s5 :: s6 :: s7 :: s8 :: rest) (lcEnv sc bd L)) Q E s := by
  have e0 := @_root_.id ((KK w).lookup 90 = some _) rfl
  have hdef : ∃ nm' prm bd' sc', defAt (bodyOf w 90) 6 = some (nm', prm, bd', sc') ∧ s6 = .FunctionDef nm' prm bd' [] none [] sc' none nm' ⟨30, 4, 35, 20⟩ ∧ nm' = "_has_candidates" ∧ prm.defaults = [] ∧ prm.kw_defaults = [] ∧ (∀ env, annTrees prm none env = []) ∧
      ∀ env : Env, env.cells.lookup ("_DNC" : Str) = some bd → closureFor sc' env = pure [(("_DNC" : Str), bd)] := by
    have e := @_root_.id ((bodyOf w 90)[6]? = some _) (by unfold bodyOf; rw [e0]; exact rfl)
    rw [e] at h6
    cases h6
    refine (in47 _ _ _ _ (by unfold bodyOf; rw [e0]; exact rfl) rfl rfl rfl rfl (fun _ => rfl) (fun env he => ?_))
    simp only [closureFor]; simp [cellOf, he]
  have e := @_root_.id ((bodyOf w 90)[0]? = some _) (by unfold bodyOf; rw [e0]; exact rfl)
  rw [e] at h0; cases h0; clear e
  have e := @_root_.id ((bodyOf w 90)[1]? = some _) (by unfold bodyOf; rw [e0]; exact rfl)
  rw [e] at h1; cases h1; clear e
  have e := @_root_.id ((bodyOf w 90)[2]? = some _) (by unfold bodyOf; rw [e0]; exact rfl)
  rw [e] at h2; cases h2; clear e
  have e := @_root_.id ((bodyOf w 90)[3]? = some _) (by unfold bodyOf; rw [e0]; exact rfl)
  rw [e] at h3; cases h3; clear e
  have e := @_root_.id ((bodyOf w 90)[4]? = some _) (by unfold bodyOf; rw [e0]; exact rfl)
  rw [e] at h4; cases h4; clear e
  have e := @_root_.id ((bodyOf w 90)[5]? = some _) (by unfold bodyOf; rw [e0]; exact rfl)
  rw [e] at h5; cases h5; clear e
  have e := @_root_.id ((bodyOf w 90)[7]? = some _) (by unfold bodyOf; rw [e0]; exact rfl)
  rw [e] at h7; cases h7; clear e
  have e := @_root_.id ((bodyOf w 90)[8]? = some _) (by unfold bodyOf; rw [e0]; exact rfl)
  rw [e] at h8; cases h8; clear e
  have e2 := @_root_.id (scopeOf w 90 = some _) (by unfold scopeOf; rw [e0])
  rw [e2] at hsc
  cases hsc
  clear e0 e2
  -- cands, cstates
  refine wpAny_execs_cons (wpAny_Assign_Name (List_ (wpAny_items_nil ?_)))
  refine nwList S (by size_fits) fun cn s1 S1 => stL S1 rfl rfl (.tail (.tail .head)) fun s2 S2 => ?_
  refine wpAny_execs_cons (wpAny_Assign_Name (dcNew S2 (by rw [W.K 126 _ rfl]; simp) fun csd s3 hcs S3 => stL S3 rfl rfl (.tail (.tail (.tail .head))) fun s4 S4 => ?_))
  have S5 := S4.weak (P' := CsP w (fun _ => none)) fun o ho => (in12 _ ho (fun k => rfl))
  clear S1 S2 S3 S4
  -- the ints
  refine wpAny_execs_cons (wpAny_Assign_Name (cInt S5 fun t1 s5 S6 => stL S6 rfl rfl (.tail (.tail (.tail .head))) fun s6 S7 => ?_))
  refine wpAny_execs_cons (wpAny_Assign_Name (cInt S7 fun t2 s7 S8 => stL S8 rfl rfl (.tail (.tail (.tail .head))) fun s8 S9 => ?_))
  refine wpAny_execs_cons (wpAny_Assign_Name (cInt S9 fun t4 s9 S10 => stC S10 rfl rfl rfl (.tail (.tail .head)) fun s10 S11 => ?_))
  refine wpAny_execs_cons (wpAny_Assign_Name (cInt S11 fun t8 s11 S12 => stL S12 rfl rfl (.tail (.tail (.tail .head))) fun s12 S13 => ?_))
  clear S5 S6 S7 S8 S9 S10 S11 S12
  have n3 : ∀ {y z v : Ent} {r : List Ent}, (y :: z :: v :: r).Perm (v :: y :: z :: r) := fun {y z v r} => ((List.Perm.swap ..).cons _).trans (.swap ..)
  have n4 : ∀ {y z v u : Ent} {r : List Ent}, (y :: z :: v :: u :: r).Perm (u :: y :: z :: v :: r) := fun {y z v u r} => (((List.Perm.swap ..).cons _).cons _).trans n3
  refine el13 ((S13.perm n3).cellz) fun g1 k1 hcz S14 => ?_
  have W1 := W.le k1
  -- the def
  refine el47 hdef fun nm' prm bd' sc' hdA e233_ e234_ hp1 hp2 hp3 hp4 => ?_; try clear hdef; subst e233_; subst e234_
  refine wpAny_execs_cons (nestDef_K hp1 hp2 (hp3 _) ?_)
  refine mkDef (P := 87) (c := 89) (Qn := Qn) W1 (S14.perm n4) (codeHd_of_K W1.K (by kernel_rfl)) (T.le k1) (hp4 _ rfl) rfl rfl hQn fun g2 f c' ctv doc ps2 s13 k2 S15 T2 hrec hf => ?_
  have W2 := W1.le k2
  refine stL (S15.perm n4.symm) rfl rfl (.tail (.tail .head)) fun s14 S16 => ?_
  -- the work list
  refine wpAny_execs_cons (wpAny_Assign_Name (callCls0 (K := KK w) ?_))
  refine ldGW (v := .ref 80) W2 S16 rfl rfl rfl (by kernel_rfl) (in03 (by kernel_rfl) (W2.K.keeps S16.keep) ?_)
  refine law_wl W2 S16 (by omega) fun a pq g3 s15 k3 hwl S17 => ?_
  refine stL S17 rfl rfl (.tail (.tail (.tail .head))) fun s16 S18 => ?_
  have k13 : Le g1 g3 := k2.trans k3
  have S19 := (S18.weak (P' := PqP g3 #[]) fun o ho => (in13 (#[]) ho ⟨rfl, fun i hi => by simp at hi⟩ (fun i _ hi => by simp at hi))).perm n3
  -- the first flag
  refine el02 hN fun hc11 z235_ => ?_; try clear hN; refine el11 z235_ fun tc e236_ => ?_; try clear z235_; subst e236_
  have W3 := W2.le k3
  have k03 : Le g g3 := k1.trans k13
  generalize hM : upd (upd (upd (upd (upd (upd (upd m "cands" (.ref cn)) "cstates" (.ref csd)) "_ANC_OF_1" (.int 1 t1)) "_ANC_OF_2" (.int 2 t2)) "_LCA" (.int 8 t8)) "_has_candidates" (.ref f)) "wlst" (.ref a) = M at *
  have hm : FM lp ls cn csd f a mn sh M := by
    subst hM
    exact ⟨by walk_at "lk", by walk_at "lk", ⟨tmn, by walk_at "lk"⟩, by walk_at "lk", by walk_at "lk", by walk_at "lk", ⟨t1, by walk_at "lk"⟩, ⟨t2, by walk_at "lk"⟩, ⟨t8, by walk_at "lk"⟩, by walk_at "lk", by walk_at "lk"⟩
  have hc1 : M "c1" = some (.bytes (nm c1) tc) := by subst hM; walk_at "lk"
  have hc2 : M "c2s" = some (.ref c2a) := by subst hM; walk_at "lk"
  have ha1 : M "_ANC_OF_1" = some (.int 1 t1) := by subst hM; walk_at "lk"
  clear hM
  refine wpAny_execs_cons (wpAny_Assign_Subscript ?_)
  refine ldL S19 rfl rfl (by k_mem) ha1 (ldL S19 rfl rfl (by k_mem) hm.cs (ldL S19 rfl rfl (by k_mem) hc1 ?_))
  refine setFl (c := 1) (S19.perm n3) hc11 fun s17 S20 => ?_
  refine h g3 cn csd f a pq ps2 M s17 k03 hcs ?_ (S20.perm n3.symm) hm (T2.le k3) hc1 hc2
  exact ⟨W3, hwl, (in93 _ _ _ _ _ doc _ c' ctv hdA (k3 _ _ hf) (codeRec_le hrec k3)), ⟨t4, hcz.le k13⟩, hlp.le k03, hls.le k03, hsh.le k03⟩
end Jr
end
-- KO
section
namespace Jr
open PySem PySem.W PySem.Calls PySem.SeqAt PySem.Builtin PyProof.Rows PySem.Spec
variable {x : Wd} {g : Heap} {l : List Ent} {w : World} {A : Around} {E : Value → Shared → Prop} {s : Shared} {env : Env} {mg mb : Str → Option Value}


/-- the start of the search -/
def fl0 (c1 : Nat) (c2s : List Nat) : Fl := c2s.foldl addC (addF (fun _ => none) c1 1)
def q0 (tm : Nat → Option Int) (c1 : Nat) (c2s : List Nat) : List Im := (c1 :: c2s).map (qOf tm)

theorem addF_some {fl : Fl} {k c j : Nat} (h : fl j ≠ none) : addF fl k c j ≠ none := by
  unfold addF; split
  · simp
  · exact h
theorem fold_some : ∀ (cs : List Nat) {fl : Fl} {j : Nat}, (fl j ≠ none ∨ j ∈ cs) → cs.foldl addC fl j ≠ none := by
  intro cs
  induction cs with
  | nil => exact fun h => h.elim id fun h => nomatch h
  | cons c cs ih =>
    intro fl j h
    refine ih (fl := addC fl c) ?_
    rcases h with h | h
    · exact .inl (addF_some h)
    · rcases List.mem_cons.mp h with rfl | h
      · exact .inl (by simp [addC, addF])
      · exact .inr h
theorem fold_none : ∀ (cs : List Nat) {fl : Fl} {j : Nat}, (∀ c ∈ cs, c < 11) → 11 ≤ j → fl j = none → cs.foldl addC fl j = none := by
  intro cs
  induction cs with
  | nil => exact fun _ _ h => h
  | cons c cs ih =>
    intro fl j h1 h2 h
    refine ih (fun c hc => h1 c (List.mem_cons_of_mem _ hc)) h2 ?_
    have := h1 c (List.mem_cons_self ..)
    have : j ≠ c := by walk_at "om"
    simp [addC, addF, this, h]
theorem fl1_lt {c1 : Nat} : ∀ k n, addF (fun _ => none) c1 1 k = some n → n < 16 := fun k n e => by
  unfold addF at e
  split at e
  · cases e; decide
  · cases e
theorem ok0 {tm : Nat → Option Int} {c1 : Nat} {c2s : List Nat} (h1 : c1 < 11) (h2 : ∀ c ∈ c2s, c < 11) : Ok (fl0 c1 c2s) (q0 tm c1 c2s) where
  q := fun p hp => by
    refine el12 (List.mem_map.mp hp) fun c hc e219_ => ?_; subst e219_
    refine ⟨?_, ?_⟩
    · rcases List.mem_cons.mp hc with rfl | hc
      · exact h1
      · exact h2 c hc
    · refine fold_some c2s ?_
      rcases List.mem_cons.mp hc with rfl | hc
      · exact .inl (by show addF _ _ _ _ ≠ none; simp [addF, qOf])
      · exact .inr hc
  b := foldC_lt c2s fl1_lt
  k := fun k hk => fold_none c2s h2 hk (by have : k ≠ c1 := by walk_at "om"
                                           simp [addF, this])
theorem mu0 {tm : Nat → Option Int} {c1 : Nat} {c2s : List Nat} (h : c2s.length ≤ 30) : mu (fl0 c1 c2s) (q0 tm c1 c2s) ≤ 100 := by
  have hs : ∀ (fl : Fl) (n : Nat), ((List.range n).map fun k => Jr.mb (fl k)).sum ≤ 3 * n := fun fl n => by
    induction n with
    | zero => simp
    | succ n ih =>
      rw [List.range_succ, List.map_append, List.sum_append]
      simp only [List.map_cons, List.map_nil, List.sum_cons, List.sum_nil]
      have : Jr.mb (fl n) ≤ 3 := by unfold Jr.mb; walk_at "om"
      walk_at "om"
  have := hs (fl0 c1 c2s) 11
  unfold mu sumB
  simp [q0]
  walk_at "om"

theorem body90' {w : World} : ∃ s0 s1 s2 s3 s4 s5 s6 s7 s8 s9 s10 s11 s12 s13 s14 s15 s16, bodyOf w 90 = [s0, s1, s2, s3, s4, s5, s6, s7, s8, s9, s10, s11, s12, s13, s14, s15, s16] := by
  have e0 := @_root_.id ((KK w).lookup 90 = some _) rfl
  unfold bodyOf
  rw [e0]
  exact ⟨_, _, _, _, _, _, _, _, _, _, _, _, _, _, _, _, _, rfl⟩

theorem lcas_9 {st : Stmt} {sc : Scope} {c : Nat} {v : Value} {lp ls cn csd f a pq bd L : Addr} {mn : Int} {sh : Value} {b : Bool} {pr : Nat → Option (List Nat)} {tm : Nat → Option Int} {Dom : Nat → Prop} {Qn : Int → Int → Str} {fl : Fl}
    {its : Array Im} {m : Str → Option Value} {ps : Array Value} {Q : Flow → Shared → Prop} {x0 : Wd} {g0 : Heap}
    (hst : (bodyOf w 90)[9]? = some st) (hsc : scopeOf w 90 = some sc)
    (G : LG w mg mb g lp ls f a pq bd sh b pr tm) (S : St x g (lcL w cn pq csd L [] g its fl ps m l) s) (hd : A.depth < 800) (hu : A.units < 3000) (hh : A.handled = none)
    (hF : FrL A (lcEnv sc bd L) L l) (hm : FM lp ls cn csd f a mn sh m) (hv : m "c1" = some v) (hN : NmV c v) (T : TabOk g Qn ps) (hx : Side x0 x) (hg0 : Le g0 g) (hD : Dom c) (hz : its.size < 10000)
    (h : ∀ g' its' s', Le g g' → St x g' (lcL w cn pq csd L [] g' its' fl ps m l) s' → its'.toList.Perm (qOf tm c :: its.toList) → (tm c ≠ none ∨ b = true) → Q .next s') :
    wpAny (model PP w) A (exec st (lcEnv sc bd L)) Q (Thrown (ThP x0 g0 Qn b Dom pr tm) 87 L l) s := by
  have e0 := @_root_.id ((KK w).lookup 90 = some _) rfl
  have e := @_root_.id ((bodyOf w 90)[9]? = some _) (by unfold bodyOf; rw [e0]; exact rfl)
  rw [e] at hst
  cases hst
  have hy : (lcEnv sc bd L).kindOf "c1" = some .local := by
    have e2 := @_root_.id (scopeOf w 90 = some _) (by unfold scopeOf; rw [e0])
    rw [e2] at hsc
    cases hsc
    rfl
  exact tryAdd (it := []) hsc hy (by decide) rfl rfl G S hd hu hh hF hm hv hN T hx hg0 hD hz h
end Jr
end
-- KP
section
namespace Jr
open PySem PySem.W PySem.Calls PySem.SeqAt PySem.Builtin PyProof.Rows PySem.Spec
variable {x : Wd} {g : Heap} {l : List Ent} {w : World} {A : Around} {E : Value → Shared → Prop} {s : Shared} {env : Env} {mg mb : Str → Option Value}


def Fall (cs : List Im) : Prop := cs.Pairwise fun a b => b.1 ≤ a.1
theorem Fall.getD {cs : List Im} (h : Fall cs) : ∀ i j, i ≤ j → j < (cs.map (·.1)).length → (cs.map (·.1)).getD j 0 ≤ (cs.map (·.1)).getD i 0 := fun i j hij hj => by
  have hj' : j < cs.length := by simpa using hj
  have hi' : i < cs.length := by walk_at "om"
  have e1 : (cs.map (·.1)).getD j 0 = cs[j].1 := by simp [hj']
  have e2 : (cs.map (·.1)).getD i 0 = cs[i].1 := by simp [hi']
  rw [e1, e2]
  rcases Nat.lt_or_ge i j with hlt | hge
  · exact List.pairwise_iff_getElem.mp h i j hi' hj' hlt
  · have : i = j := by walk_at "om"
    subst this; exact Int.le_refl _

/-- what the lookups tell -/
structure PT (pr : Nat → Option (List Nat)) (tm : Nat → Option Int) : Prop where
  lt : ∀ k ps, pr k = some ps → ∀ r ∈ ps, r < 11
  len : ∀ k ps, pr k = some ps → ps.length ≤ 100

set_option maxHeartbeats 4000000 in
theorem lcas_body {sc : Scope} {lp ls c2a bd L : Addr} {mn : Int} {tmn : Tok} {sh : Value} {b : Bool} {pr : Nat → Option (List Nat)} {tm : Nat → Option Int} {Dom : Nat → Prop} {Qn : Int → Int → Str} {c1 : Nat} {v1 : Value} {c2s : List Nat} {vs : List Value}
    {m : Str → Option Value} {ps : Array Value} {Q : Flow → Shared → Prop}
    (hsc : scopeOf w 90 = some sc) (W : Wf w mg mb g) (S : St x g ((bd, CellP none) :: (L, NsP m) :: (87, (· = tabObj ps)) :: l) s) (T : TabOk g Qn ps) (hd : A.depth < 800) (hu : A.units < 3000) (hh : A.handled = none)
    (hQ1 : Qn 30 4 = "_find_lcas.<locals>._has_candidates") (hQ2 : Qn 89 21 = "_find_lcas.<locals>.<lambda>") (hF : FrL A (lcEnv sc bd L) L l)
    (hlp : LkF w g lp (PrF pr)) (hls : LkF w g ls (TmF tm)) (hsh : ShOk w g sh b) (P : PT pr tm)
    (mlp : m "lookup_parents" = some (.ref lp)) (mc1 : m "c1" = some v1) (mc2 : m "c2s" = some (.ref c2a)) (mls : m "lookup_stamp" = some (.ref ls)) (mmn : m "min_stamp" = some (.int mn tmn)) (msh : m "shallows" = some sh)
    (hN : NmV c1 v1) (hl : g.IsList c2a vs.toArray) (hp : Paired NmV c2s vs) (hlen : c2s.length ≤ 30) (hc2 : ∀ c ∈ c2s, c < 11)
    (hD : ∀ c ∈ c1 :: c2s, Dom c) (hD2 : ∀ k ps, Dom k → pr k = some ps → ∀ r ∈ ps, Dom r) (hD3 : ∀ k, Dom k → k < 11)
    (hR : ∀ fl q cs, Run pr tm mn (fl0 c1 c2s) (q0 tm c1 c2s) fl q cs → Fall cs)
    (h : ∀ x' g' acc ys fl its cs cs' ps' m' s', Le g g' → St x' g' ((acc, ListP ys) :: (L, NsP m') :: (87, (· = tabObj ps')) :: l) s' → Side x x' → TabOk g' Qn ps' →
      Run pr tm mn (fl0 c1 c2s) (q0 tm c1 c2s) fl its cs → its.any (live fl) = false → Ok fl its → OkC fl cs → StabI (cs.filter (notDnc fl)) cs' → Paired (fun c v => NmV c.2 v) cs' ys → (∀ c ∈ c1 :: c2s, tm c ≠ none ∨ b = true) → Q (.ret (.ref acc)) s') :
    wpAny (model PP w) A (execs (bodyOf w 90) (lcEnv sc bd L)) Q (Thrown (ThP x g Qn b Dom pr tm) 87 L l) s := by
  refine el71 (body90' (w := w)) fun s0 s1 s2 s3 s4 s5 s6 z221_ => ?_; refine el71 z221_ fun s7 s8 s9 s10 s11 s12 s13 z222_ => ?_; try clear z221_; refine el31 z222_ fun s14 s15 s16 hb => ?_; try clear z222_
  have hi : ∀ i : Nat, (bodyOf w 90)[i]? = [s0, s1, s2, s3, s4, s5, s6, s7, s8, s9, s10, s11, s12, s13, s14, s15, s16][i]? := fun i => by rw [hb]
  have hc1 : c1 < 11 := hN.1
  rw [show execs (bodyOf w 90) (lcEnv sc bd L) = execs [s0, s1, s2, s3, s4, s5, s6, s7, s8, s9, s10, s11, s12, s13, s14, s15, s16] (lcEnv sc bd L) by rw [hb]]
  refine lcas_init (hi 0) (hi 1) (hi 2) (hi 3) (hi 4) (hi 5) (hi 6) (hi 7) (hi 8) hsc W S T hd hQ1 hlp hls hsh mlp mc1 mc2 mls mmn msh hN fun g1 cn csd f a pq ps1 m1 t1 k1 hcs G1 S1 hm1 T1 hc1v hc2v => ?_
  refine wpAny_execs_cons (lcas_9 (Dom := Dom) (g0 := g) (x0 := x) (hi 9) hsc G1 S1 hd hu hh hF hm1 hc1v hN T1 ⟨rfl, fun h => h⟩ k1 (hD c1 (List.mem_cons_self ..)) (by decide) fun g2 its2 t2 k2 S2 hq2 hb2 => ?_)
  have k02 := k1.trans k2
  have G2 := G1.le k2
  have hz2 : its2.size ≤ 100 := by have := hq2.length_eq; simp at this; walk_at "om"
  refine wpAny_execs_cons (lcas_10 (Dom := Dom) (g0 := g) (x0 := x) (hi 10) hsc G2 S2 hd hu hh hcs hF hm1 hc2v (isList_le hl k02) hp (by walk_at "om") hz2 (T1.le k2) ⟨rfl, fun h => h⟩ k02 (fun c hc => hD c (List.mem_cons_of_mem _ hc)) fl1_lt fun g3 its3 m3 t3 k3 S3 hm3 hq3 hb3 => ?_)
  have G3 := G2.le k3
  have k03 := k02.trans k3
  have hq : its3.toList.Perm (q0 tm c1 c2s) := by
    refine hq3.trans ?_
    refine (List.Perm.append_left _ hq2).trans ?_
    show (c2s.map (qOf tm) ++ qOf tm c1 :: #[].toList).Perm (qOf tm c1 :: c2s.map (qOf tm))
    exact List.perm_append_comm (l₁ := c2s.map (qOf tm)) (l₂ := [qOf tm c1])
  refine wpAny_execs_cons (lcas_while (Dom := Dom) (g0 := g) (x0 := x) (fl0 := fl0 c1 c2s) (q0 := q0 tm c1 c2s) (hi 11) hsc G3 S3 hd hu hh hcs hF hm3 ((T1.le k2).le k3) ⟨rfl, fun h => h⟩ k03 hq (ok0 hc1 hc2) (mu0 hlen) ?_ hD2 hD3 P.len P.lt
    fun x4 g4 its4 fl4 cs4 cvs4 m4 ps4 t4 k4 S4 hx4 T4 hm4 hrun hlive hok hokc hcv => ?_)
  · intro p hp
    refine el12 (List.mem_map.mp hp) fun c hc e223_ => ?_; subst e223_
    exact hD c hc
  · have G4 := G3.le k4
    refine el11 (G4.dnc) fun tdn hdn => ?_
    refine wpAny_mono (lcas_end (hi 12) (hi 13) (hi 14) (hi 15) (hi 16) hsc G4.W S4 T4 hd hu hh hQ2 hm4 hdn hcv hok hokc (Fall.getD ((hR _ _ _ hrun).sublist List.filter_sublist)) fun g5 acc ys cs' ps5 m5 t5 k5 S5 T5 hst hys => ?_) (fun _ _ q => q) fun _ _ e => e.elim
    refine h x4 g5 acc ys fl4 its4.toList cs4 cs' ps5 m5 t5 (k03.trans (k4.trans k5)) S5 hx4 T5 hrun hlive hok hokc hst hys fun c hc => ?_
    rcases List.mem_cons.mp hc with rfl | hc
    · exact hb2
    · exact hb3 c hc
end Jr
end
-- KQ
section
namespace Jr
open PySem PySem.W PySem.Calls PySem.SeqAt PySem.Builtin PyProof.Rows PySem.Spec
variable {x : Wd} {g : Heap} {l : List Ent} {w : World} {A : Around} {E : Value → Shared → Prop} {s : Shared} {env : Env} {mg mb : Str → Option Value}


/-- what is known of the def -/
structure Fd90 (w : World) (fd : FuncData) : Prop where
  body : fd.body = .stmts (bodyOf w 90)
  scope : scopeOf w 90 = some fd.scope
  clo : fd.closure = []
  name : fd.qualname = "_find_lcas"
  qual : fd.qualname ++ ".<locals>." = "_find_lcas.<locals>."
  code : fd.code = .ref 89
  glob : fd.globals = mainGlobals
  bui : fd.builtins = builtinsNs
  cells : cellNs fd.scope.names = [("_DNC" : Str)]
  co : fd.scope.isCoroutine = false
  gen : fd.scope.isGenerator = false
  kind : fd.scope.kind = .function
  loc : ∀ y ∈ (["lookup_parents", "c1", "c2s", "lookup_stamp", "min_stamp", "shallows"] : List Str), fd.scope.names.lookup y = some .local
theorem fd90 {w : World} : ∃ o fd, (KK w).lookup 90 = some o ∧ o.data = .func fd ∧ Fd90 w fd := by
  have e0 := @_root_.id ((KK w).lookup 90 = some _) rfl
  refine ⟨_, _, e0, rfl, ?_⟩
  constructor
  · unfold bodyOf; rw [e0]
  · unfold scopeOf; rw [e0]
  all_goals first | rfl | decide +kernel

set_option maxHeartbeats 4000000 in
theorem law_lcas {lp ls c2a : Addr} {mn : Int} {tmn : Tok} {sh : Value} {b : Bool} {pr : Nat → Option (List Nat)} {tm : Nat → Option Int} {Dom : Nat → Prop} {Qn : Int → Int → Str} {c1 : Nat} {v1 : Value} {c2s : List Nat} {vs : List Value}
    {ps : Array Value} {args : Args} {Q : Value → Shared → Prop}
    (W : Wf w mg mb g) (S : St x g ((87, (· = tabObj ps)) :: l) s) (T : TabOk g Qn ps) (hd : A.depth < 790) (hu : A.units < 2900) (hh : A.handled = none)
    (hb : ∀ o fd, (KK w).lookup 90 = some o → o.data = .func fd → BindsTo s fd args [("lookup_parents", .ref lp), ("c1", v1), ("c2s", .ref c2a), ("lookup_stamp", .ref ls), ("min_stamp", .int mn tmn), ("shallows", sh)])
    (hQ1 : Qn 30 4 = "_find_lcas.<locals>._has_candidates") (hQ2 : Qn 89 21 = "_find_lcas.<locals>.<lambda>") (hF : FrOk A.frames l)
    (hlp : LkF w g lp (PrF pr)) (hls : LkF w g ls (TmF tm)) (hsh : ShOk w g sh b) (P : PT pr tm)
    (hN : NmV c1 v1) (hl : g.IsList c2a vs.toArray) (hp : Paired NmV c2s vs) (hlen : c2s.length ≤ 30) (hc2 : ∀ c ∈ c2s, c < 11)
    (hD : ∀ c ∈ c1 :: c2s, Dom c) (hD2 : ∀ k ps, Dom k → pr k = some ps → ∀ r ∈ ps, Dom r) (hD3 : ∀ k, Dom k → k < 11)
    (hR : ∀ fl q cs, Run pr tm mn (fl0 c1 c2s) (q0 tm c1 c2s) fl q cs → Fall cs)
    (h : ∀ x' g' acc ys fl its cs cs' ps' s', Le g g' → St x' g' ((acc, ListP ys) :: (87, (· = tabObj ps')) :: l) s' → Side x x' → TabOk g' Qn ps' →
      Run pr tm mn (fl0 c1 c2s) (q0 tm c1 c2s) fl its cs → its.any (live fl) = false → Ok fl its → OkC fl cs → StabI (cs.filter (notDnc fl)) cs' → Paired (fun c v => NmV c.2 v) cs' ys → (∀ c ∈ c1 :: c2s, tm c ≠ none ∨ b = true) → Q (.ref acc) s')
    (he : ∀ x' g' e T ps' s', Le g g' → St x' g' ((T, TbP .none) :: (e, ExcP (.type "KeyError") (.ref T)) :: (87, (· = tabObj ps')) :: l) s' → Side x x' → TabOk g' Qn ps' → b = false → (∃ k, Dom k ∧ (tm k = none ∨ pr k = none)) → E (.ref e) s') :
    wpAny (model PP w) A (call (.ref 90) args.pos args.kw) Q E s := by
  refine el23 (fd90 (w := w)) fun o fd ho hdt F => ?_
  have hcd : g.CodeRec fd.code fd.qualname := by
    rw [F.code, F.name]; exact codeRec_of W.K (by kernel_rfl)
  refine wpAny_call (callF (body := bodyOf w 90) (args := args) S (W.K 90 _ ho) hdt hcd W.lim (by show A.depth < 1000; walk_at "om") (hb o fd ho hdt) (fun L bs s1 hbs S1 => ?_) F.body F.co F.gen)
  rw [F.cells] at hbs
  refine el11 (len1 hbs) fun bd e220_ => ?_; subst e220_
  have eenv : fnEnv fd 90 L ((cellNs fd.scope.names).reverse.zip [bd] ++ fd.closure) = lcEnv fd.scope bd L := by
    unfold fnEnv lcEnv
    rw [F.cells, F.clo, F.glob, F.qual, F.code, F.bui]
    rfl
  rw [eenv]
  have k : ∀ y ∈ (["lookup_parents", "c1", "c2s", "lookup_stamp", "min_stamp", "shallows"] : List Str), (lcEnv fd.scope bd L).kindOf y = some .local := F.loc
  have S2 : St x g ((bd, CellP none) :: (L, NsP fun _ => none) :: (87, (· = tabObj ps)) :: l) s1 := S1
  refine stored_cons (stL S2 (k _ (by simp)) F.kind (.tail .head) fun s2 S3 => ?_)
  refine stored_cons (stL S3 (k _ (by simp)) F.kind (.tail .head) fun s2 S4 => ?_)
  refine stored_cons (stL S4 (k _ (by simp)) F.kind (.tail .head) fun s2 S5 => ?_)
  refine stored_cons (stL S5 (k _ (by simp)) F.kind (.tail .head) fun s2 S6 => ?_)
  refine stored_cons (stL S6 (k _ (by simp)) F.kind (.tail .head) fun s2 S7 => ?_)
  refine stored_cons (stL S7 (k _ (by simp)) F.kind (.tail .head) fun s2 S8 => ?_)
  refine stored_nil ⟨S8.keep, ?_⟩
  have hFL : FrL (A.deeper (lcEnv fd.scope bd L)) (lcEnv fd.scope bd L) L l := FrL.deeper hF F.kind rfl
  refine wpAny_mono (lcas_body (Dom := Dom) (c2s := c2s) (vs := vs) F.scope W S8 T (by show A.depth + 1 < 800; walk_at "om") (by show A.units + 3 < 3000; walk_at "om") hh hQ1 hQ2 hFL hlp hls hsh P
    (by walk_at "lk") (by walk_at "lk") (by walk_at "lk") (by walk_at "lk") (by walk_at "lk") (by walk_at "lk") hN hl hp hlen hc2 hD hD2 hD3 hR
    fun x' g' acc ys fl its cs cs' ps' m' s' k1 S9 hx T' hrun hlive hok hokc hst hys hb' => ?_) (fun f s' q => q) fun e s' th => ?_
  · exact h x' g' acc ys fl its cs cs' ps' s' k1 (S9.sub ((List.Sublist.refl _).cons _ |>.cons_cons _)) hx T' hrun hlive hok hokc hst hys hb'
  · refine Thrown.leave hFL th fun x' g' e' T' ps' s'' e S9 hq_ => el05 hq_ fun hx k1 T'' hb' hk => ?_
    subst e
    exact he x' g' e' T' ps' s'' k1 S9 hx T'' hb' hk
end Jr
end
-- KR
section
namespace Jr
open PySem PySem.W PySem.Calls PySem.SeqAt PySem.Builtin PyProof.Rows PySem.Spec
variable {x : Wd} {g : Heap} {l : List Ent} {w : World} {A : Around} {E : Value → Shared → Prop} {s : Shared} {env : Env} {mg mb : Str → Option Value}


theorem callFnKw {M : Model} {id : Str} {p pos : Pos} {e : PySem.Expr} {rest : List PySem.Expr} {kws : List Keyword} {Q : Value → Shared → Prop}
    (h : wpAny M A (eval (.Name id p) env) (fun f s₁ => ∃ a o fd, f = .ref a ∧ o.data = .func fd ∧
      wpAny M A (spliced (backTo pos (starEach (e :: rest) env))) (fun vs s₂ => wpAny M A (evalAll ((backToKw pos (keywordEach kws env)).map (·.2)))
        (fun ks s₃ => s₃.heap.get? a = some o ∧ wpAny M A (call f vs (((backToKw pos (keywordEach kws env)).filterMap (·.1)).zip ks)) Q E s₃) E s₂) E s₁) E s)
    (hall : (backToKw pos (keywordEach kws env)).all (·.1.isSome) = true := by rfl) (he : starEach (e :: rest) env = (false, eval e env) :: starEach rest env := by rfl) :
    wpAny M A (eval (.Call (.Name id p) (e :: rest) kws pos) env) Q E s := by
  refine wpAny_Call_Name_kw (wpAny_mono h (fun f s₁ h₁ => ?_) fun _ _ e => e)
  refine el33 h₁ fun a o fd e224_ hd h₂ => ?_; try clear h₁; subst e224_
  exact callWith_function_kw (o := o) (fd := fd) (evalArgs_kw2 hall (wpAny_mono h₂ (fun vs s₂ q => wpAny_mono q (fun ks s₃ q2 => ⟨⟨q2.1, hd⟩, q2.2⟩) fun _ _ e => e) fun _ _ e => e) he)

/-- a call that may raise, no cells -/
theorem callFE0 {prog : Program} {w : World} {Q : Value → Shared → Prop} {a : Addr} {o : Obj} {fd : FuncData} {body : List Stmt} {args : Args} {binds : List (Str × Value)} {scope : Scope} {clo : List (Str × Addr)} {qual : Str} {code : Value}
    (S : St x g l s) (ho : g.get? a = some o) (hd : o.data = .func fd) (hcd : g.CodeRec code qual) (hlim : g.NoLimit) (hroom : A.depth < recursionLimit) (hb : BindsTo s fd args binds)
    (h : ∀ L s', St x g ((L, NsP fun _ => none) :: l) s' →
      wpAny (model prog w) A.in1 (storeAll { scope := scope, locals := L, globals := mainGlobals, cells := clo, qual := qual ++ ".<locals>.", func := some a, code := code, frame := some L, builtins := builtinsNs } binds)
        (fun _ s₂ => Le g s₂.heap ∧ wpAny (model prog w) (A.deeper { scope := scope, locals := L, globals := mainGlobals, cells := clo, qual := qual ++ ".<locals>.", func := some a, code := code, frame := some L, builtins := builtinsNs })
          (execs body { scope := scope, locals := L, globals := mainGlobals, cells := clo, qual := qual ++ ".<locals>.", func := some a, code := code, frame := some L, builtins := builtinsNs })
          (fun f s' => Q (match f with | .ret v => v | _ => .none) s')
          (fun e s' => wpAny (model prog w) (A.deeper { scope := scope, locals := L, globals := mainGlobals, cells := clo, qual := qual ++ ".<locals>.", func := some a, code := code, frame := some L, builtins := builtinsNs })
            (leaving { scope := scope, locals := L, globals := mainGlobals, cells := clo, qual := qual ++ ".<locals>.", func := some a, code := code, frame := some L, builtins := builtinsNs } e) (fun _ s'' => E e s'') (fun e' s'' => E e' s'') s') s₂) (fun _ _ => False) s')
    (hbody : fd.body = .stmts body := by rfl) (hsc : fd.scope = scope := by rfl) (hclo : fd.closure = clo := by rfl) (hq : fd.qualname = qual := by rfl) (hcode : fd.code = code := by rfl) (hgl : fd.globals = mainGlobals := by rfl) (hbu : fd.builtins = builtinsNs := by rfl)
    (hcell : cellNs scope.names = [] := by rfl) (hco : scope.isCoroutine = false := by rfl) (hgen : scope.isGenerator = false := by rfl) : wpAny (model prog w) A (call (.ref a) args.pos args.kw) Q E s := by
  subst hsc hclo hq hcode
  refine wpAny_call (callF (body := body) (args := args) S ho hd hcd hlim hroom hb (fun L bs s' hl S' => ?_) hbody hco hgen)
  rw [hcell] at hl
  obtain rfl : bs = [] := List.length_eq_zero_iff.mp hl
  have e : (cellNs fd.scope.names).reverse.zip ([] : List Addr) ++ fd.closure = fd.closure := by rw [hcell]; rfl
  have e2 : fnEnv fd a L ((cellNs fd.scope.names).reverse.zip ([] : List Addr) ++ fd.closure) = { scope := fd.scope, locals := L, globals := mainGlobals, cells := fd.closure, qual := fd.qualname ++ ".<locals>.", func := some a, code := fd.code, frame := some L, builtins := builtinsNs } := by
    rw [e]; unfold fnEnv; rw [hgl, hbu]
  rw [e2]
  refine wpAny_mono (h L s' S') (fun _ s₂ h₂ => ⟨h₂.1, ?_⟩) fun _ _ e => e.elim
  exact wpAny_mono h₂.2 (fun f s' q => q) fun _ _ e => e

/-- ids[1:] of a list -/
theorem slice1 {prog : Program} {value : PySem.Expr} {k : Nat} {pk p pos : Pos} {la : Addr} {vs : List Value} {v : Value} {Q : Value → Shared → Prop} (S : St x g l s) (hl : g.IsList la (v :: vs).toArray) (hn : vs.length ≤ 1000)
    (hv : ∀ Q' : Value → Shared → Prop, Q' (.ref la) s → wpAny (model prog w) A (eval value env) Q' E s)
    (h : ∀ a s', St x g ((a, ListP vs) :: l) s' → Q (.ref a) s') (ht : ∀ o r, letTemporaryGo value o r = pure () := by intro _ _; rfl) :
    wpAny (model prog w) A (eval (.Subscript value (.Slice (some (.Constant (.int 1) k pk)) none none p) pos) env) Q E s := by
  refine wpAny_Subscript_list_slice (hv _ (show wpAny _ _ (eval (.Constant (.int 1) k pk) env) _ _ _ from cInt S fun t s1 S1 => ?_)) ht
  refine wpAny_pure (in46 la ((v :: vs).toArray) (some 1) none rfl (isList_le hl S1.keep) ?_ (.int 1 t) (.none) ?_)
  · rw [sizeLine_eq]; simp; walk_at "om"
  · have e := slicePick_from (v :: vs).toArray 1 (by simp)
    have e' : slicePick (v :: vs).toArray (some ((1 : Nat) : Int)) none none = vs.toArray := by rw [e]; rfl
    have S2 := S1.push (o := { cls := .type "slice", data := .fields #[.int 1 t, .none, .none] }) (P := fun _ => True) trivial rfl
    have S3 := S2.push (o := { cls := .type "list", data := .seq vs.toArray }) (P := ListP vs) (in03 rfl rfl ⟨0, rfl⟩) rfl
    dsimp only at S3
    rw [Heap.size_push] at S3
    have e'' : slicePick (v :: vs).toArray (some 1) none none = vs.toArray := e'
    rw [e'']
    exact h _ _ (S3.sub ((List.Sublist.refl _).cons _ |>.cons_cons _))
/-- list(xs) -/
theorem listOf {prog : Program} {la : Addr} {vs : List Value} {Q : Value → Shared → Prop} (S : St x g l s) (hl : g.IsList la vs.toArray) (hn : vs.length ≤ 1000) (h : ∀ a s', St x g ((a, ListP vs) :: l) s' → Q (.ref a) s') :
    wpAny (model prog w) A (call (.type "list") [.ref la] []) Q E s := by
  refine el13 (isList_le hl S.keep) fun o ho hc z225_ => ?_; refine el11 z225_ fun n hd => ?_; try clear z225_
  refine call_list_seq la (.inl rfl) ho hc hd (fun h' c' hk hD => ?_) (by rw [sizeLine_eq]; simp; walk_at "om")
  refine h _ _ (S.fresh (e := s.heap.objs.size) (P := ListP vs) hk ?_ hD (in03 rfl rfl ⟨c', rfl⟩) s.toks)
  exact Heap.get?_none_of_le (Nat.le_refl _)
theorem any_isNm {ks : List Nat} {vs : List Value} {k : Nat} (hk : k < 11) (h : Paired NmV ks vs) : vs.any (isNm k) = decide (k ∈ ks) := by
  induction h with
  | nil => simp
  | @cons j v ks vs h1 _ ih =>
    refine el02 h1 fun hj z226_ => ?_; try clear h1; refine el11 z226_ fun t e227_ => ?_; try clear z226_; subst e227_
    rw [List.any_cons, ih]
    have : isNm k (.bytes (nm j) t) = decide (k = j) := by
      show (decide (k < 11) && ((nm j).toList == (nm k).toList)) = _
      rw [nm_eq _ hj _ hk]
      by_cases e : k = j
      · subst e; simp [hk]
      · have : j ≠ k := fun h => e h.symm
        simp [e, this]
    rw [this]
    by_cases e : k = j <;> simp [e]
theorem eqNm {ks : List Nat} {vs : List Value} {k : Nat} {v : Value} (hv : NmV k v) (h : Paired NmV ks vs) : ∀ y ∈ vs, EqAt A s y v (isNm k y) := fun y hy => by
  refine el02 hv fun hk z228_ => ?_; try clear hv; refine el11 z228_ fun t e229_ => ?_; try clear z228_; subst e229_
  refine el11 (List.mem_iff_getElem.mp hy) fun i z230_ => ?_; refine el11 z230_ fun hi e231_ => ?_; try clear z230_; subst e231_
  refine el13 (pairGet' h (List.getElem?_eq_getElem hi)) fun j _ hj z232_ => ?_; refine el11 z232_ fun u e => ?_; try clear z232_
  rw [e]
  have := eqAtBytes (A := A) (s := s) (nm j) (nm k) u t
  have e2 : isNm k (.bytes (nm j) u) = ((nm j).toList == (nm k).toList) := by unfold isNm; simp [hk]
  rw [e2]; exact this
end Jr
end
-- KS
section
namespace Jr
open PySem PySem.W PySem.Calls PySem.SeqAt PySem.Builtin PyProof.Rows PySem.Spec
variable {x : Wd} {g : Heap} {l : List Ent} {w : World} {A : Around} {E : Value → Shared → Prop} {s : Shared} {env : Env} {mg mb : Str → Option Value}


/-- what the search ends with -/
def LcR (b : Bool) (pr : Nat → Option (List Nat)) (tm : Nat → Option Int) (mn : Int) (c1 : Nat) (c2s : List Nat) (ks : List Nat) : Prop :=
  ∃ fl its cs cs', Run pr tm mn (fl0 c1 c2s) (q0 tm c1 c2s) fl its cs ∧ its.any (live fl) = false ∧ Ok fl its ∧ OkC fl cs ∧ StabI (cs.filter (notDnc fl)) cs' ∧ ks = cs'.map (·.2) ∧ ∀ c ∈ c1 :: c2s, tm c ≠ none ∨ b = true
def FmR (b : Bool) (pr : Nat → Option (List Nat)) (tm : Nat → Option Int) (c1 : Nat) (c2s : List Nat) (ks : List Nat) : Prop :=
  (c1 ∈ c2s ∨ c2s = []) ∧ ks = [c1] ∨ (c1 ∉ c2s ∧ c2s ≠ []) ∧ LcR b pr tm 0 c1 c2s ks

/-- the lookups, the marks: what the functions are handed -/
structure Hand (w : World) (g : Heap) (lp ls : Addr) (sh : Value) (b : Bool) (pr : Nat → Option (List Nat)) (tm : Nat → Option Int) (Dom : Nat → Prop) (Qn : Int → Int → Str) : Prop where
  lp : LkF w g lp (PrF pr)
  ls : LkF w g ls (TmF tm)
  sh : ShOk w g sh b
  pt : PT pr tm
  q1 : Qn 30 4 = "_find_lcas.<locals>._has_candidates"
  q2 : Qn 89 21 = "_find_lcas.<locals>.<lambda>"
  d2 : ∀ k ps, Dom k → pr k = some ps → ∀ r ∈ ps, Dom r
  d3 : ∀ k, Dom k → k < 11
theorem Hand.le {g g' : Heap} {lp ls : Addr} {sh : Value} {b : Bool} {pr : Nat → Option (List Nat)} {tm : Nat → Option Int} {Dom : Nat → Prop} {Qn : Int → Int → Str} (H : Hand w g lp ls sh b pr tm Dom Qn) (k : Le g g') : Hand w g' lp ls sh b pr tm Dom Qn :=
  ⟨H.lp.le k, H.ls.le k, H.sh.le k, H.pt, H.q1, H.q2, H.d2, H.d3⟩

set_option maxHeartbeats 4000000 in
theorem law_fmb {lp ls ia : Addr} {sh : Value} {b : Bool} {pr : Nat → Option (List Nat)} {tm : Nat → Option Int} {Dom : Nat → Prop} {Qn : Int → Int → Str} {c1 : Nat} {c2s : List Nat} {ivs : List Value}
    {ps : Array Value} {Q : Value → Shared → Prop}
    (W : Wf w mg mb g) (S : St x g ((87, (· = tabObj ps)) :: l) s) (T : TabOk g Qn ps) (hd : A.depth < 780) (hu : A.units < 2800) (hh : A.handled = none) (hF : FrOk A.frames l)
    (H : Hand w g lp ls sh b pr tm Dom Qn) (hl : g.IsList ia ivs.toArray) (hp : Paired NmV (c1 :: c2s) ivs) (hlen : c2s.length ≤ 30) (hD : ∀ c ∈ c1 :: c2s, Dom c)
    (hR : ∀ fl q cs, Run pr tm 0 (fl0 c1 c2s) (q0 tm c1 c2s) fl q cs → Fall cs)
    (h : ∀ x' g' acc ys ks ps' s', Le g g' → St x' g' ((acc, ListP ys) :: (87, (· = tabObj ps')) :: l) s' → Side x x' → TabOk g' Qn ps' → Paired NmV ks ys → FmR b pr tm c1 c2s ks → Q (.ref acc) s')
    (he : ∀ x' g' e T ps' s', Le g g' → St x' g' ((T, TbP .none) :: (e, ExcP (.type "KeyError") (.ref T)) :: (87, (· = tabObj ps')) :: l) s' → Side x x' → TabOk g' Qn ps' → b = false → (∃ k, Dom k ∧ (tm k = none ∨ pr k = none)) → (c1 ∉ c2s ∧ c2s ≠ []) → E (.ref e) s') :
    wpAny (model PP w) A (call (.ref 97) [.ref lp, .ref ls, sh, .ref ia] []) Q E s := by
  cases hp with | @cons _ v1 _ vs hp1 hp2 =>
  have hlen2 := pairLen hp2
  refine callFE0 (args := ⟨[.ref lp, .ref ls, sh, .ref ia], []⟩) (binds := [("lookup_parents", .ref lp), ("lookup_stamp", .ref ls), ("shallows", sh), ("commit_ids", .ref ia)]) S (W.K 97 _ rfl) rfl (codeRec_of W.K (by kernel_rfl)) W.lim (by show A.depth < 1000; walk_at "om") (BindsTo.of_eq rfl) ?_
  intro L s1 S1
  dsimp only
  refine stored_cons (stL S1 rfl rfl (m := fun _ => none) .head fun s2 S2 => ?_)
  refine stored_cons (stL S2 rfl rfl .head fun s3 S3 => ?_)
  refine stored_cons (stL S3 rfl rfl .head fun s4 S4 => ?_)
  refine stored_cons (stL S4 rfl rfl .head fun s5 S5 => ?_)
  refine stored_nil ⟨S5.keep, ?_⟩
  refine nameXs ?_; intro ev Ax Ex Qx
  clear S1 S2 S3 S4
  generalize hM : upd (upd (upd (upd (fun _ => none) "lookup_parents" (.ref lp)) "lookup_stamp" (.ref ls)) "shallows" sh) "commit_ids" (.ref ia) = m at *
  have m1 : m "lookup_parents" = some (.ref lp) := by subst hM; walk_at "lk"
  have m2 : m "lookup_stamp" = some (.ref ls) := by subst hM; walk_at "lk"
  have m3 : m "shallows" = some sh := by subst hM; walk_at "lk"
  have m4 : m "commit_ids" = some (.ref ia) := by subst hM; walk_at "lk"
  clear hM
  have hlv : (v1 :: vs).length ≤ 1000 := by simp; walk_at "om"
  refine wpAny_execs_cons (wpAny_If (wpAny_isTrue_Not (wpAny_isTrue_value ?_)))
  refine ldL S5 rfl rfl (by k_mem) m4 (truthyL S5 (isList_le hl S5.keep) (by walk_at "om") fun s6 S6 => ?_)
  rw [if_neg (by simp)]
  refine wpAny_execs_nil (wpAny_execs_cons (wpAny_Assign_Name (subs ?_)))
  refine ldL S6 rfl rfl (by k_mem) m4 (cInt S6 fun t1 s7 S7 => idxL (isList_le hl S7.keep) (by decide) (by decide) rfl ?_)
  refine stL S7 rfl rfl .head fun s8 S8 => ?_
  have one : ∀ {a : Addr} {s' : Shared} {m' : Str → Option Value}, St x g ((a, ListP [v1]) :: (L, NsP m') :: (87, (· = tabObj ps)) :: l) s' → (c1 ∈ c2s ∨ c2s = []) → Q (.ref a) s' := fun {a s' m'} S' hc =>
    h x g a [v1] [c1] ps s' (Le.refl _) (S'.sub ((List.Sublist.refl _).cons _ |>.cons_cons _)) ⟨rfl, fun h => h⟩ T (.cons hp1 .nil) (.inl ⟨hc, rfl⟩)
  refine wpAny_execs_cons (wpAny_If (wpAny_isTrue_Not (wpAny_isTrue_Compare1 (callBi ?_))))
  refine ldBW W S8 rfl rfl rfl rfl (by kernel_rfl) (by boot_fast) (in12 _ rfl (wpAny_items_cons (ldL S8 rfl rfl (by k_mem) (by walk_at "lk") (wpAny_items_nil ?_))))
  refine lenL S8 (isList_le hl S8.keep) (by walk_at "om") fun t2 s9 S9 => cInt S9 fun t3 s10 S10 => oGt (wpAny_truthy_bool ?_)
  by_cases hone : vs = []
  · subst hone
    have hc : c2s = [] := by simpa using hlen2
    rw [if_pos (by simp)]
    refine wpAny_execs_cons (wpAny_Return_some (List_ (wpAny_items_cons (ldL S10 rfl rfl (by k_mem) upd_same (wpAny_items_nil ?_)))))
    exact nwList S10 (by size_fits) fun a s11 S11 => one S11 (.inr hc)
  · have hpos : 0 < vs.length := List.length_pos_iff.mpr hone
    have hc : c2s ≠ [] := fun e => by subst e; simp at hlen2; walk_at "om"
    rw [if_neg (by simp; walk_at "om")]
    refine wpAny_execs_nil (wpAny_execs_cons (wpAny_Assign_Name (callTy ?_)))
    refine ldBW W S10 rfl rfl rfl rfl (by kernel_rfl) (by boot_fast) (in12 _ rfl (wpAny_items_cons ?_))
    refine slice1 S10 hl (by walk_at "om") (fun Q' hq => ldL S10 rfl rfl (by k_mem) (by walk_at "lk") hq) fun a1 s11 S11 => ?_
    refine el25 (S11.freeze) fun g1 o1 k1 e1 p1 _ S12 => ?_
    refine wpAny_items_nil (listOf S12 (in13 o1 e1 (p1.1) (p1.2.2)) (by walk_at "om") fun a2 s12 S13 => ?_)
    refine el25 (S13.freeze) fun g2 o2 k2 e2 p2 _ S14 => ?_
    have hl2 : g2.IsList a2 vs.toArray := (in13 o2 e2 (p2.1) (p2.2.2))
    have k02 := k1.trans k2
    refine stL S14 rfl rfl .head fun s13 S15 => ?_
    refine wpAny_execs_cons (wpAny_If (wpAny_isTrue_Compare1 ?_))
    refine ldL S15 rfl rfl (by k_mem) (by walk_at "lk") (ldL S15 rfl rfl (by k_mem) upd_same ?_)
    refine inL (isNm c1) (isList_le hl2 S15.keep) (eqNm hp1 hp2) (wpAny_truthy_bool ?_)
    rw [any_isNm hp1.1 hp2]
    by_cases hin : c1 ∈ c2s
    · rw [if_pos (by simpa using hin)]
      refine wpAny_execs_cons (wpAny_Return_some (List_ (wpAny_items_cons (ldL S15 rfl rfl (by k_mem) (by walk_at "lk") (wpAny_items_nil ?_)))))
      refine nwList S15 (by size_fits) fun a s14 S16 => ?_
      exact h x g2 a [v1] [c1] ps s14 k02 (S16.sub ((List.Sublist.refl _).cons _ |>.cons_cons _)) ⟨rfl, fun h => h⟩ (T.le k02) (.cons hp1 .nil) (.inl ⟨.inl hin, rfl⟩)
    · rw [if_neg (by simpa using hin)]
      have W2 := W.le k02
      have H2 := H.le k02
      refine el22 (W2.fn 90 rfl rfl) fun o90 fd90' h90 h90d => ?_
      refine wpAny_execs_nil (wpAny_execs_cons (wpAny_Assign_Name (callFnKw ?_)))
      refine ldGW (v := .ref 90) W2 S15 rfl rfl rfl (by kernel_rfl) (in33 90 o90 fd90' rfl h90d ?_)
      refine wpAny_items_cons (ldL S15 rfl rfl (by k_mem) (by walk_at "lk") (wpAny_items_cons (ldL S15 rfl rfl (by k_mem) (by walk_at "lk") (wpAny_items_cons (ldL S15 rfl rfl (by k_mem) (by walk_at "lk") (wpAny_items_cons (ldL S15 rfl rfl (by k_mem) (by walk_at "lk") (wpAny_items_nil ?_))))))))
      refine kwAll_cons (ldL S15 rfl rfl (by k_mem) (by walk_at "lk") (kwAll_nil ⟨S15.keep _ _ h90, ?_⟩))
      have S16 := S15.perm (.swap ..)
      refine law_lcas (args := ⟨[.ref lp, v1, .ref a2, .ref ls], [("shallows", sh)]⟩) (b := b) (pr := pr) (tm := tm) (Dom := Dom) (mn := 0) (tmn := 381) W2 S16 (T.le k02) (by show A.depth + 1 < 790; walk_at "om") (by show A.units + 3 < 2900; walk_at "om") hh ?_ H.q1 H.q2
        (FrOk.deeper hF rfl rfl (List.mem_cons_self ..) fun q hq => List.mem_cons_of_mem _ hq) H2.lp H2.ls H2.sh H.pt hp1 hl2 hp2 hlen (fun c hc => H.d3 _ (hD c (List.mem_cons_of_mem _ hc))) hD H.d2 H.d3 hR ?_ ?_
      · intro o fd ho hfd
        rw [show (KK w).lookup 90 = some _ from rfl] at ho
        cases ho
        cases hfd
        have h85 := W2.K 85 _ (show (KK w).lookup 85 = some _ from rfl)
        exact BindsTo.of_defaults rfl (S16.keep _ _ h85) rfl rfl rfl
      · intro x' g' acc ys fl its cs cs' ps' s' k S17 hx T' hrun hlive hok hokc hst hys hb
        refine stL (S17.perm (l' := (L, _) :: (acc, ListP ys) :: (87, (· = tabObj ps')) :: l) ((List.Perm.swap ..).cons _ |>.trans (.swap ..))) rfl rfl .head fun s18 S18 => ?_
        refine wpAny_execs_cons (wpAny_Return_some (ldL S18 rfl rfl (by k_mem) upd_same ?_))
        exact h x' g' acc ys (cs'.map (·.2)) ps' s18 (k02.trans k) S18.drop hx T' (pairMap' hys) (.inr ⟨⟨hin, hc⟩, (in47 fl its cs cs' hrun hlive hok hokc hst rfl hb)⟩)
      · intro x' g' e T1 ps' s' k S17 hx T' hb hk
        refine leaveOn S17 (FrOk.deeper hF rfl rfl (m := _) (.tail _ (.head _)) fun q hq => .tail _ (.tail _ hq)) (FrL.deeper (L := L) hF rfl rfl).top rfl fun T2 s18 S18 => ?_
        exact he x' g' e T2 ps' s18 (k02.trans k) (S18.sub ((((List.Sublist.refl _).cons _).cons_cons _).cons_cons _ |>.cons_cons _)) hx T' hb hk ⟨hin, hc⟩
end Jr
end
-- KT
section
namespace Jr
open PySem PySem.W PySem.Calls PySem.SeqAt PySem.Builtin PyProof.Rows PySem.Spec
variable {x : Wd} {g : Heap} {l : List Ent} {w : World} {A : Around} {E : Value → Shared → Prop} {s : Shared} {env : Env} {mg mb : Str → Option Value}


/-- lists of names compared -/
theorem eqAll {ks js : List Nat} (h : ks.length = js.length) : (List.range ks.length).all (fun j => decide (ks.getD j 0 = js.getD j 0)) = decide (ks = js) := by
  rw [Bool.eq_iff_iff, List.all_eq_true, decide_eq_true_iff]
  constructor
  · intro H
    refine List.ext_getElem h fun i h1 h2 => ?_
    have := H i (List.mem_range.mpr h1)
    simpa [h1, h2] using this
  · rintro rfl j _
    simp
theorem atNm {ks js : List Nat} {vs us : List Value} (hp : Paired NmV ks vs) (hq : Paired NmV js us) : ∀ j (h1 : j < vs.toArray.size) (h2 : j < us.toArray.size), EqAt A s vs.toArray[j] us.toArray[j] (decide (ks.getD j 0 = js.getD j 0)) := fun j h1 h2 => by
  simp at h1 h2
  refine el13 (pairGet' hp (List.getElem?_eq_getElem h1)) fun k1 e1 hk1 z237_ => ?_; refine el11 z237_ fun t1 v1 => ?_; try clear z237_
  refine el13 (pairGet' hq (List.getElem?_eq_getElem h2)) fun k2 e2 hk2 z238_ => ?_; refine el11 z238_ fun t2 v2 => ?_; try clear z238_
  have g1 : ks.getD j 0 = k1 := by rw [List.getD_eq_getElem?_getD, e1]; rfl
  have g2 : js.getD j 0 = k2 := by rw [List.getD_eq_getElem?_getD, e2]; rfl
  rw [g1, g2]
  have := eqAtBytes (A := A) (s := s) (nm k1) (nm k2) t1 t2
  rw [nm_eq _ hk1 _ hk2] at this
  simpa [v1, v2] using this
theorem eqNames {prog : Program} {la lb : Addr} {vs us : List Value} {ks js : List Nat} {Q : Value → Shared → Prop} (hl : s.heap.IsList la vs.toArray) (hb : s.heap.IsList lb us.toArray) (hp : Paired NmV ks vs) (hq : Paired NmV js us) (hu : A.units < cLine)
    (h : Q (.bool (decide (ks = js))) s) : wpAny (model prog w) A (compareOp .Eq (.ref la) (.ref lb)) Q E s := by
  have e1 := pairLen hp
  have e2 := pairLen hq
  by_cases hn : vs.length = us.length
  · refine eq_listAt (e := fun j => decide (ks.getD j 0 = js.getD j 0)) hl hb (by simpa using hn) hu (atNm hp hq) ?_
    rw [show vs.toArray.size = ks.length by simp [e1], eqAll (by walk_at "om")]; exact h
  · refine eq_list_lengthsAt hl hb (by simpa using hn) hu ?_
    rwa [decide_eq_false fun e : ks = js => hn (by rw [← e1, ← e2, e])] at h
theorem neNames {prog : Program} {la lb : Addr} {vs us : List Value} {ks js : List Nat} {Q : Value → Shared → Prop} (hl : s.heap.IsList la vs.toArray) (hb : s.heap.IsList lb us.toArray) (hp : Paired NmV ks vs) (hq : Paired NmV js us) (hu : A.units < cLine)
    (h : Q (.bool (!decide (ks = js))) s) : wpAny (model prog w) A (compareOp .NotEq (.ref la) (.ref lb)) Q E s := by
  have e1 := pairLen hp
  have e2 := pairLen hq
  show wpAny _ _ (richCompare .NotEq _ _) _ _ _
  by_cases hn : vs.length = us.length
  · refine RcNeAt.lists (e := fun j => decide (ks.getD j 0 = js.getD j 0)) hl hb (by simpa using hn) hu (atNm hp hq) prog w E Q ?_
    rw [show vs.toArray.size = ks.length by simp [e1], eqAll (by walk_at "om")]; exact h
  · refine RcNeAt.lists_lengths hl hb (by simpa using hn) hu prog w E Q ?_
    rwa [decide_eq_false fun e : ks = js => hn (by rw [← e1, ← e2, e])] at h

theorem truthySh {sh : Value} {b : Bool} {Q : Bool → Shared → Prop} (H : ShOk w g sh b) (S : St x g l s) (h : ∀ s', St x g l s' → Q b s') : wpAny (model PP w) A (truthy sh) Q E s := by
  by_cases e : sh = .none
  · have hb := H.none e
    subst hb e
    exact fun Γ p hΓ => h _ S
  · exact H.run e (Le.refl _) S h

def CfR (b : Bool) (pr : Nat → Option (List Nat)) (tm : Nat → Option Int) (c1 c2 : Nat) (r : Bool) : Prop :=
  c1 = c2 ∧ r = true ∨ c1 ≠ c2 ∧ (tm c1 = none ∧ b = true ∧ r = false ∨ ∃ mn ks, tm c1 = some mn ∧ LcR b pr tm mn c1 [c2] ks ∧ r = decide (ks = [c1]))
end Jr
end
-- KU
section
namespace Jr
open PySem PySem.W PySem.Calls PySem.SeqAt PySem.Builtin PyProof.Rows PySem.Spec
variable {x : Wd} {g : Heap} {l : List Ent} {w : World} {A : Around} {E : Value → Shared → Prop} {s : Shared} {env : Env} {mg mb : Str → Option Value}


set_option maxHeartbeats 4000000 in
theorem law_cff {lp ls : Addr} {sh v1 v2 : Value} {b : Bool} {pr : Nat → Option (List Nat)} {tm : Nat → Option Int} {Dom : Nat → Prop} {Qn : Int → Int → Str} {c1 c2 : Nat}
    {ps : Array Value} {Q : Value → Shared → Prop}
    (W : Wf w mg mb g) (S : St x g ((87, (· = tabObj ps)) :: l) s) (T : TabOk g Qn ps) (hd : A.depth < 780) (hu : A.units < 2800) (hh : A.handled = none) (hF : FrOk A.frames l)
    (H : Hand w g lp ls sh b pr tm Dom Qn) (h1 : NmV c1 v1) (h2 : NmV c2 v2) (hD1 : Dom c1) (hD2 : Dom c2)
    (hR : ∀ mn, tm c1 = some mn → ∀ fl q cs, Run pr tm mn (fl0 c1 [c2]) (q0 tm c1 [c2]) fl q cs → Fall cs)
    (h : ∀ x' g' ps' r s', Le g g' → St x' g' ((87, (· = tabObj ps')) :: l) s' → Side x x' → TabOk g' Qn ps' → CfR b pr tm c1 c2 r → Q (.bool r) s')
    (he : ∀ x' g' e T ps' s', Le g g' → St x' g' ((T, TbP .none) :: (e, ExcP (.type "KeyError") (.ref T)) :: (87, (· = tabObj ps')) :: l) s' → Side x x' → TabOk g' Qn ps' → b = false → (∃ k, Dom k ∧ (tm k = none ∨ pr k = none)) → c1 ≠ c2 → E (.ref e) s') :
    wpAny (model PP w) A (call (.ref 104) [.ref lp, .ref ls, sh, v1, v2] []) Q E s := by
  refine callFE0 (args := ⟨[.ref lp, .ref ls, sh, v1, v2], []⟩) (binds := [("lookup_parents", .ref lp), ("lookup_stamp", .ref ls), ("shallows", sh), ("c1", v1), ("c2", v2)]) S (W.K 104 _ rfl) rfl (codeRec_of W.K (by kernel_rfl)) W.lim (by show A.depth < 1000; walk_at "om") (BindsTo.of_eq rfl) ?_
  intro L s1 S1
  dsimp only
  refine stored_cons (stL S1 rfl rfl (m := fun _ => none) .head fun s2 S2 => ?_)
  refine stored_cons (stL S2 rfl rfl .head fun s3 S3 => ?_)
  refine stored_cons (stL S3 rfl rfl .head fun s4 S4 => ?_)
  refine stored_cons (stL S4 rfl rfl .head fun s5 S5 => ?_)
  refine stored_cons (stL S5 rfl rfl .head fun s5 S6 => ?_)
  refine stored_nil ⟨S6.keep, ?_⟩
  refine nameXs ?_; intro ev Ax Ex Qx
  clear S1 S2 S3 S4 S5
  generalize hM : upd (upd (upd (upd (upd (fun _ => none) "lookup_parents" (.ref lp)) "lookup_stamp" (.ref ls)) "shallows" sh) "c1" v1) "c2" v2 = m at *
  have m1 : m "lookup_parents" = some (.ref lp) := by subst hM; walk_at "lk"
  have m2 : m "lookup_stamp" = some (.ref ls) := by subst hM; walk_at "lk"
  have m3 : m "shallows" = some sh := by subst hM; walk_at "lk"
  have m4 : m "c1" = some v1 := by subst hM; walk_at "lk"
  have m5 : m "c2" = some v2 := by subst hM; walk_at "lk"
  clear hM
  have h1' := h1
  have h2' := h2
  refine el02 h1' fun hk1 z29_ => ?_; try clear h1'; refine el11 z29_ fun t1 e30_ => ?_; try clear z29_; subst e30_
  refine el02 h2' fun hk2 z31_ => ?_; try clear h2'; refine el11 z31_ fun t2 e32_ => ?_; try clear z31_; subst e32_
  have FL := fun env hk hL => FrL.deeper (A := A) (l := (87, (· = tabObj ps)) :: l) (env := env) (L := L) (hF.sub fun p hp => List.mem_cons_of_mem _ hp) hk hL
  refine wpAny_execs_cons (wpAny_If (wpAny_isTrue_Compare1 ?_))
  refine ldL S6 rfl rfl (by k_mem) m4 (ldL S6 rfl rfl (by k_mem) m5 (oBytesEq (wpAny_truthy_bool ?_)))
  rw [nm_eq _ hk1 _ hk2]
  by_cases hc : c1 = c2
  · rw [if_pos (by simpa using hc)]
    refine wpAny_execs_cons (wpAny_Return_some (cBool ?_))
    exact h x g ps true s5 (Le.refl _) S6.drop ⟨rfl, fun h => h⟩ T (.inl ⟨hc, rfl⟩)
  rw [if_neg (by simpa using hc)]
  refine el22 (H.ls.obj) fun ols fdls hols hfdls => ?_
  refine wpAny_execs_nil (wpAny_execs_cons (cut (fun r s' => (r = .ret (.bool false) ∧ tm c1 = none ∧ b = true ∧ St x g ((L, NsP m) :: (87, (· = tabObj ps)) :: l) s') ∨
    (r = .next ∧ ∃ mn t, tm c1 = some mn ∧ St x g ((L, NsP (upd m "min_stamp" (.int mn t))) :: (87, (· = tabObj ps)) :: l) s')) (tryKey (mg := mg) (mb := mb) (L := L) (FL _ rfl rfl).top rfl rfl rfl rfl rfl ?_) ?_))
  · refine wpAny_execs_cons (wpAny_Assign_Name (callFn ?_))
    refine ldL S6 rfl rfl (by k_mem) m2 (in33 ls ols fdls rfl hfdls (wpAny_items_cons (ldL S6 rfl rfl (by k_mem) m4 (wpAny_items_nil ⟨S6.keep _ _ hols, ?_⟩))))
    refine H.ls.run (k := c1) (Le.refl _) S6 (by show A.depth + 1 < 900; walk_at "om") hh ((FL _ rfl rfl).ok _ ⟨m, by k_mem⟩ fun q hq => by simp at hq; simp [hq]) h1 (fun P z s7 hP hz S7 => ?_) (fun hP e T1 s7 S7 => ?_)
    · unfold TmF at hP
      cases htm : tm c1 with
      | none => rw [htm] at hP; cases hP
      | some t =>
        rw [htm] at hP; cases hP
        refine el11 hz fun tt e33_ => ?_; try clear hz; subst e33_
        refine stL S7 rfl rfl .head fun s8 S8 => wpAny_execs_nil ?_
        exact .inr ⟨rfl, (in22 t tt rfl S8)⟩
    · have htm : tm c1 = none := by
        unfold TmF at hP
        cases e : tm c1 with
        | none => rfl
        | some _ => rw [e] at hP; cases hP
      refine (in55 e T1 x g _ rfl W S7 ((FL _ rfl rfl).ok _ ⟨m, by k_mem⟩ fun q hq => by simp at hq; simp [hq]) (fun T2 s8 S8 => ?_))
      refine wpAny_execs_cons (wpAny_If (wpAny_isTrue_value ?_))
      refine ldL S8 rfl rfl (by k_mem) m3 (truthySh H.sh S8 fun s9 S9 => ?_)
      cases b with
      | true =>
        rw [if_pos rfl]
        exact wpAny_execs_cons (wpAny_Return_some (cBool (.inl (in04 rfl htm rfl (S9.drop.drop)))))
      | false =>
        rw [if_neg (by decide)]
        refine wpAny_execs_nil (wpAny_execs_cons (rethrow S9 rfl fun s10 S10 => ?_))
        refine leaveHeld S10 rfl fun s11 S11 => ?_
        exact he x g e T2 ps s11 (Le.refl _) (S11.sub (((List.Sublist.refl _).cons _).cons_cons _ |>.cons_cons _)) ⟨rfl, fun h => h⟩ T rfl (in12 c1 hD1 (.inl htm)) hc
  · rintro r s7 (⟨rfl, htm, hb, S7⟩ | ⟨rfl, mn, t, htm, S7⟩)
    · exact h x g ps false s7 (Le.refl _) S7.drop ⟨rfl, fun h => h⟩ T (.inr ⟨hc, .inl (in03 htm hb rfl)⟩)
    · refine el22 (W.fn 90 rfl rfl) fun o90 fd90' h90 h90d => ?_
      refine wpAny_execs_cons (wpAny_Assign_Name (callFnKw ?_))
      refine ldGW (v := .ref 90) W S7 rfl rfl rfl (by kernel_rfl) (in33 90 o90 fd90' rfl h90d ?_)
      refine wpAny_items_cons (ldL S7 rfl rfl (by k_mem) (by walk_at "lk") (wpAny_items_cons (ldL S7 rfl rfl (by k_mem) (by walk_at "lk") (wpAny_items_cons (List_ (wpAny_items_cons (ldL S7 rfl rfl (by k_mem) (by walk_at "lk") (wpAny_items_nil ?_))))))))
      refine nwList S7 (by size_fits) fun a2 s8 S8 => ?_
      refine el25 (S8.freeze) fun g2 o2 k2 e2 p2 _ S9 => ?_
      refine wpAny_items_cons (ldL S9 rfl rfl (by k_mem) (by walk_at "lk") (wpAny_items_nil ?_))
      refine kwAll_cons (ldL S9 rfl rfl (by k_mem) upd_same (kwAll_cons (ldL S9 rfl rfl (by k_mem) (by walk_at "lk") (kwAll_nil ⟨S9.keep _ _ (k2 _ _ h90), ?_⟩))))
      have W2 := W.le k2
      have H2 := H.le k2
      have S10 := S9.perm (.swap ..)
      refine law_lcas (args := ⟨[.ref lp, .bytes (nm c1) t1, .ref a2, .ref ls], [("min_stamp", .int mn t), ("shallows", sh)]⟩) (b := b) (pr := pr) (tm := tm) (Dom := Dom) (mn := mn) (tmn := t) (c2s := [c2]) W2 S10 (T.le k2) (by show A.depth + 1 < 790; walk_at "om") (by show A.units + 3 < 2900; walk_at "om") hh ?_ H.q1 H.q2
        (FrOk.deeper hF rfl rfl (List.mem_cons_self ..) fun q hq => List.mem_cons_of_mem _ hq) H2.lp H2.ls H2.sh H.pt h1 (in13 o2 e2 (p2.1) (p2.2.2)) (.cons h2 .nil) (by simp) (by simpa using hk2) (by simp; exact ⟨hD1, hD2⟩) H.d2 H.d3 (hR mn htm) ?_ ?_
      · intro o fd ho hfd
        rw [show (KK w).lookup 90 = some _ from rfl] at ho
        cases ho
        cases hfd
        have h85 := W2.K 85 _ (show (KK w).lookup 85 = some _ from rfl)
        exact BindsTo.of_defaults rfl (S10.keep _ _ h85) rfl rfl rfl
      · intro x' g' acc ys fl its cs cs' ps' s' k S17 hx T' hrun hlive hok hokc hst hys hb
        refine stL (S17.perm (l' := (L, _) :: (acc, ListP ys) :: (87, (· = tabObj ps')) :: l) ((List.Perm.swap ..).cons _ |>.trans (.swap ..))) rfl rfl .head fun s18 S18 => ?_
        refine wpAny_execs_cons (wpAny_Return_some (wpAny_Compare1 ?_))
        refine ldL S18 rfl rfl (by k_mem) upd_same (List_ (wpAny_items_cons (ldL S18 rfl rfl (by k_mem) (by walk_at "lk") (wpAny_items_nil ?_))))
        refine nwList S18 (by size_fits) fun a3 s19 S19 => ?_
        refine eqNames (S19.list (by k_mem)) (S19.list (List.mem_cons_self ..)) (pairMap' hys) (.cons h1 .nil) (by show A.units + 3 < 9900; walk_at "om") ?_
        exact h x' g' ps' _ s19 (k2.trans k) S19.drop.drop.drop hx T' (.inr ⟨hc, .inr (in23 mn (cs'.map (·.2)) htm (in47 fl its cs cs' hrun hlive hok hokc hst rfl hb) rfl)⟩)
      · intro x' g' e T1 ps' s' k S17 hx T' hb hk
        refine leaveOn S17 (FrOk.deeper hF rfl rfl (m := _) (.tail _ (.head _)) fun q hq => .tail _ (.tail _ hq)) (FrL.deeper (L := L) hF rfl rfl).top rfl fun T2 s18 S18 => ?_
        exact he x' g' e T2 ps' s18 (k2.trans k) (S18.sub ((((List.Sublist.refl _).cons _).cons_cons _).cons_cons _ |>.cons_cons _)) hx T' hb hk hc
end Jr
end
-- KV
section
namespace Jr
open PySem PySem.W PySem.Calls PySem.SeqAt PySem.Builtin PyProof.Rows PySem.Spec
variable {x : Wd} {g : Heap} {l : List Ent} {w : World} {A : Around} {E : Value → Shared → Prop} {s : Shared} {env : Env} {mg mb : Str → Option Value}


/-- the lambdas: y[name] -/
abbrev lamP (pa : Pos) : Arguments := { posonlyargs := [], args := [{ arg := "name", annotation := none, pos := pa }], vararg := none, kwonlyargs := [], kw_defaults := [], kwarg := none, defaults := [] }
abbrev lamB (y : Str) (p1 p2 p3 : Pos) : PySem.Expr := .Subscript (.Name y p1) (.Name "name" p2) p3
abbrev lamS (y : Str) : Scope := { kind := .function, names := [("name", .local), (y, .free)], isGenerator := false, isCoroutine := false, more := [] }

theorem subDm {value slice : PySem.Expr} {d : Addr} {f : Nat → Option Value} {k : Nat} {t : Tok} {Q : Value → Shared → Prop} (S : St x g l s) (hh : A.handled = none) (hd : ∃ o, s.heap.get? d = some o ∧ DN PP w f o) (hsys : d ≠ sysModules) (hk : k < 11) (hv : f k = none)
    (h : ∀ e s', St x g ((e, ExcP (.type "KeyError") .none) :: l) s' → E (.ref e) s')
    (hs : subscripted slice false (.ref d) (.bytes (nm k) t) = operate [.ref d, .bytes (nm k) t] (getItem (.ref d) (.bytes (nm k) t)) := by with_unfolding_all rfl) : wpAny (model PP w) A (subscriptTail value slice (.ref d) (.bytes (nm k) t)) Q E s := by
  have hd' := hd
  refine el12 hd' fun o ho hdn => ?_; try clear hd'
  exact PyProof.Rows.tail_any (hdn.map ho).typeIs PySem.slot_dict_getitem.lookup (dcMiss S hh hd hsys ⟨hk, t, rfl⟩ hv h) hs

theorem lkOf {fa c' cb d : Addr} {y name qual : Str} {pa p1 p2 p3 : Pos} {pm ctv : Value} {V : Heap → Nat → Option (Value → Prop)} {f : Nat → Option Value}
    (hf : g.get? fa = some (kla_obj name qual (lamP pa) (lamB y p1 p2 p3) (lamS y) [(y, cb)] pm c' ctv)) (hrec : g.CodeRec (.ref c') qual) (hlim : g.NoLimit) (hy : y = "table" ∨ y = "times")
    (hc : Cellz g cb (.ref d)) (hd : ∃ o, g.get? d = some o ∧ DN PP w f o) (hsys : d ≠ sysModules)
    (hV1 : ∀ k g', f k = none → V g' k = none) (hV2 : ∀ k v g', f k = some v → Le g g' → ∃ P, V g' k = some P ∧ P v) : LkF w g fa V where
  obj := ⟨_, _, hf, rfl⟩
  run := by
    intro x g' l s A E Q k v hg S hdp hh hF hN hok hmiss
    have hN' := hN
    obtain ⟨hk, t, rfl⟩ := hN'
    refine callLam (args := ⟨[.bytes (nm k) t], []⟩) (binds := [("name", .bytes (nm k) t)]) S (hg _ _ hf) (codeRec_le hrec hg) (hlim.keeps hg) (by show A.depth < 1000; walk_at "om") (BindsTo.of_eq rfl) ?_
    intro L s1 S1
    refine stored_cons (stL S1 rfl rfl (m := fun _ => none) .head fun s2 S2 => stored_nil ⟨S2.keep, subs ?_⟩)
    have hd' : ∃ o, s2.heap.get? d = some o ∧ DN PP w f o := by obtain ⟨o, a, b⟩ := hd; exact ⟨o, S2.keep _ _ (hg _ _ a), b⟩
    have body : wpAny (model PP w) (A.deeper { scope := lamS y, locals := L, globals := mainGlobals, cells := [(y, cb)], qual := qual ++ ".<locals>.", func := some fa, code := .ref c', frame := some L, builtins := builtinsNs })
        (subscriptTail (.Name y p1) (.Name "name" p2) (.ref d) (.bytes (nm k) t)) Q (fun e s' => wpAny (model PP w) (A.deeper { scope := lamS y, locals := L, globals := mainGlobals, cells := [(y, cb)], qual := qual ++ ".<locals>.", func := some fa, code := .ref c', frame := some L, builtins := builtinsNs })
            (leaving { scope := lamS y, locals := L, globals := mainGlobals, cells := [(y, cb)], qual := qual ++ ".<locals>.", func := some fa, code := .ref c', frame := some L, builtins := builtinsNs } e) (fun _ s'' => E e s'') (fun e' s'' => E e' s'') s') s2 := by
      cases hv : f k with
      | some v =>
        refine el12 (hV2 k v g' hv hg) fun P hP hz => ?_
        exact subD S2 hd' hk hv fun s' S' => hok P v s' hP hz S'.drop
      | none =>
        refine subDm S2 hh hd' hsys hk hv fun e s' S' => ?_
        refine leaveFirst S' (FrOk.deeper (L := L) (m := upd (fun _ => none) "name" (.bytes (nm k) t)) hF rfl rfl (by simp) fun q hq => by simp [hq]) (FrL.deeper (L := L) hF rfl rfl).top rfl fun T s'' S'' => ?_
        exact hmiss (hV1 k g' hv) e T s'' (S''.sub (((List.Sublist.refl _).cons _).cons_cons _ |>.cons_cons _))
    rcases hy with rfl | rfl
    · exact ldZ S2 (.inr rfl) rfl rfl (hc.le hg) (ldL S2 rfl rfl (by k_mem) upd_same body)
    · exact ldZ S2 (.inr rfl) rfl rfl (hc.le hg) (ldL S2 rfl rfl (by k_mem) upd_same body)
end Jr
end
-- KW
section
namespace Jr
open PySem PySem.W PySem.Calls PySem.SeqAt PySem.Builtin PyProof.Rows PySem.Spec
variable {x : Wd} {g : Heap} {l : List Ent} {w : World} {A : Around} {E : Value → Shared → Prop} {s : Shared} {env : Env} {mg mb : Str → Option Value} {prog : Program}

/-! sets of bytes: only whether they are empty counts -/
def isB (k : List UInt8) (v : Value) : Bool := match v with
  | .bytes b _ => b.toList == k
  | _ => false
theorem isB_shape {k : List UInt8} {v : Value} (h : isB k v = true) : ∃ t, v = .bytes k.toArray t := by
  cases v <;> try cases h
  rename_i b t
  refine ⟨t, ?_⟩
  have h' : (b.toList == k) = true := h
  rw [← eq_of_beq h']
def bKind (prog : Program) (w : World) : PySem.KeyKind prog w (List UInt8) where
  is := isB
  hash := fun k => hB w k.toArray
  inj := fun v a b ha hb => by
    refine el11 (isB_shape ha) fun t e241_ => ?_; subst e241_
    obtain ⟨u, e⟩ := isB_shape hb
    injection e with e1 e2
    simpa using e1
  byValue := fun k v h => by obtain ⟨t, rfl⟩ := isB_shape h; rfl
  pyHash := fun hv h => by obtain ⟨t, rfl⟩ := isB_shape hv; exact hashBytes h
  eqBool := fun {A E s a b u v Q} hu hv h => by
    refine el11 (isB_shape hu) fun t e242_ => ?_; subst e242_
    obtain ⟨t2, rfl⟩ := isB_shape hv
    refine eqAtBytes _ _ _ _ prog w E Q ?_
    have e : (a.toArray.toList == b.toArray.toList) = decide (a = b) := by
      simp
      by_cases q : a = b
      · subst q; simp
      · rw [decide_eq_false q]; exact beq_eq_false_iff_ne.mpr q
    rw [e]; exact h
  «strs» := fun k x t v h => by obtain ⟨t, e⟩ := isB_shape h; cases e

def SetB (prog : Program) (w : World) (k : Nat) (b : Bool) (o : Obj) : Prop := ∃ S n, o.SetObjOf (bKind prog w) S n ∧ n ≤ k ∧ decide (0 < n) = b

theorem nwSet0 {Q : Value → Shared → Prop} (S : St x g l s) (h : ∀ a s', St x g ((a, SetB prog w 0 false) :: l) s' → Q (.ref a) s') : wpAny (model prog w) A (call (.type "set") [] []) Q E s :=
  call_set_0 fun led => h _ _ (S.push (P := SetB prog w 0 false) (in23 _ 0 (setObjOf_fresh led) (Nat.le_refl _) rfl) rfl)

theorem addSet {a : Addr} {k : Nat} {b : Bool} {v : Value} {bs : Array UInt8} {t : Tok} {Q : Bool → Shared → Prop} (S : St x g ((a, SetB prog w k b) :: l) s) (hk : k < 1000) (hv : v = .bytes bs t)
    (h : ∀ r s', St x g ((a, SetB prog w (k + 1) true) :: l) s' → Q r s') : wpAny (model prog w) A (setAdd a v) Q E s := by
  subst hv
  refine el12 (S.get (List.mem_cons_self ..)) fun o ho z244_ => ?_; refine el23 z244_ fun F n hso hn hb => ?_; try clear z244_
  have hsb : (1000 : Nat) < scanBound := by decide
  unfold setAdd
  have hkey : (bKind prog w).is bs.toList (.bytes bs t) = true := by show (bs.toList == bs.toList) = true; simp
  refine wpAny_holding (wpAny_bind ((bKind prog w).pyHash hkey ?_))
  refine wpAny_setAddHashed_of (s := { s with toks := s.toks + 1 }) hkey rfl (hso.setOf ho (by walk_at "om")) (by walk_at "om") fun h' hsb' hS' => ?_
  refine el12 (hS'.objOf) fun so' ho' hso' => ?_
  refine h _ _ (S.upd (P' := SetB prog w (k + 1) true) .head (fun b o hb e => (hsb'.2 b hb).trans e) ho' (in23 _ _ hso' ?_ ?_) _)
  · split <;> walk_at "om"
  · split
    · rename_i hF
      have hmem := hso.2
      refine el35 hmem fun es ep t' hd hel hm hn' hf => ?_; try clear hmem
      refine el12 ((hm _).mp hF) fun e he _ => ?_
      have : 0 < es.toList.length := List.length_pos_of_mem he
      simp at this
      simp; walk_at "om"
    · simp

theorem noBool_set : typeLookup (.type "set") "__bool__" = pure none := by rw [typeLookup_type, builtinLookup_eq_fast]; kernel_rfl
theorem truthySet {a : Addr} {k : Nat} {b : Bool} {Q : Bool → Shared → Prop} (S : St x g l s) (ha : ∃ o, s.heap.get? a = some o ∧ SetB prog w k b o) (hk : k < 1000) (h : ∀ s', St x g l s' → Q b s') : wpAny (model prog w) A (truthy (.ref a)) Q E s := by
  obtain ⟨o, ho, F, n, ⟨hex, es, ep, t, hd, hel, hm, hn, hf⟩, hnk, hb⟩ := ha
  have hT : s.TypeIs (.ref a) "set" := (in12 o ho (hex.1))
  have hne : ((es.size : Int) != 0) = b := by
    rw [← hb, hn]
    cases n with
    | zero => rfl
    | succ n => simp; walk_at "om"
  have key : wpAny (model prog w) A (runValue (.builtin "len" ⟨[.ref a], []⟩)) (fun r s' => r = .int es.size (s.toks + 1) ∧ Q b s') E s := by
    refine wpAny_runValue (codeAny_builtin entry_len ?_)
    rw [Around.under_plainId plain_len _]
    exact wpAny_mono (wpAny_len_body_set (Q := fun r s' => r = .int es.size (s.toks + 1) ∧ Q b s') ho hex hd hf (by walk_at "om") ⟨rfl, h _ (S.tok _)⟩)
      (fun fin s' h' => by obtain ⟨r, rfl, hq⟩ := h'; exact hq) fun _ _ e => e
  unfold truthy
  first
    | refine wpAny_bind (wpAny_callSpecial?_none (name := Str.ofString "__bool__") hT noBool_set ?_)
    | refine wpAny_bind (wpAny_pure (wpAny_bind (wpAny_callSpecial?_none (name := Str.ofString "__bool__") hT noBool_set ?_)))
  first
    | refine wpAny_bind (wpAny_specialOf (name := Str.ofString "__len__") hT PySem.F.slot_set_len.lookup ?_)
    | refine wpAny_bind (wpAny_pure (wpAny_bind (wpAny_specialOf (name := Str.ofString "__len__") hT PySem.F.slot_set_len.lookup ?_)))
  first
    | exact wpAny_bind (wpAny_mono key (fun r s' h' => by obtain ⟨rfl, hq⟩ := h'; exact wpAny_pure (hne ▸ hq)) fun _ _ e => e)
    | exact wpAny_bind (wpAny_pure (wpAny_bind (wpAny_mono key (fun r s' h' => by obtain ⟨rfl, hq⟩ := h'; exact wpAny_pure (hne ▸ hq)) fun _ _ e => e)))

/-- {e}, {e, e'} -/
theorem setDisp {elts : List PySem.Expr} {k : Nat} {pos : Pos} {Q : Value → Shared → Prop} (K : (KK w).In s.heap) (hc : kdsCode (KK w) env.code = true) (hroad : (displayRoad k elts == .constants) = false) (hroad2 : (displayRoad k elts == .unsure) = false) (hp : elts.all kdsPlain = true) (hlen : elts.length ≤ 30)
    (S : St x g l s) (h : ∀ D s', St x g ((D, SetB PP w 0 false) :: l) s' → KdsAll (model PP w) A E env elts (fun vs s' => KdsFill (model PP w) A E false D Q vs s') s') :
    wpAny (model PP w) A (eval (.Set elts k pos) env) Q E s := by
  rw [arm_eval_Set]
  refine wpAny_bind (wpAny_standAt ?_)
  refine wpAny_bind (kds_main K hc fun b => ?_)
  rw [kds_star elts hp, List.map_map]
  refine kds_core (ts := (evalEach elts env).map fun t => do let v ← t; standAt pos; pure v) hroad ?_ ?_ ?_ fun led => ?_
  · refine List.findIdx?_eq_none_iff.mpr fun x hx => ?_
    refine el12 (List.mem_map.mp hx) fun t _ e248_ => ?_; subst e248_
    rfl
  · rw [List.length_map, kds_len]; exact hlen
  · rw [List.map_map]; try rfl
  · have S1 := S.push (o := { cls := .type "set", dict := none, data := .set #[] 0 (.fresh 0 0 led) }) (P := SetB PP w 0 false) (in23 _ 0 (setObjOf_fresh led) (Nat.le_refl _) rfl) rfl
    rw [hroad2]
    exact kds_all pos elts _ _ (h _ _ S1)
end Jr
end
-- KX
section
namespace Jr
open PySem PySem.W PySem.Calls PySem.SeqAt PySem.Builtin PyProof.Rows PySem.Spec
variable {x : Wd} {g : Heap} {l : List Ent} {w : World} {A : Around} {E : Value → Shared → Prop} {s : Shared} {env : Env} {mg mb : Str → Option Value}


/-! the frame of the law -/
structure Cs where
  (parents stamps size pick gone forebears first others told common marks table times : Addr)
def Cs.ls (c : Cs) : List (Str × Addr) := [("times", c.times), ("table", c.table), ("marks", c.marks), ("common", c.common), ("told", c.told), ("others", c.others), ("first", c.first), ("forebears", c.forebears), ("gone", c.gone), ("pick", c.pick), ("size", c.size), ("stamps", c.stamps), ("parents", c.parents)]
abbrev lwEnv (sc : Scope) (c : Cs) (L : Addr) : Env := { scope := sc, locals := L, globals := mainGlobals, cells := c.ls, qual := "law.<locals>.", func := some 126, code := .ref 125, frame := some L, builtins := builtinsNs }

/-- a cell is set, and frozen -/
theorem setCell {c : Addr} {y : Str} {v : Value} {Q : Unit → Shared → Prop} (S : St x g ((c, CellP none) :: l) s) (hk : env.kindOf y = some .cell) (hf : env.scope.kind = .function) (hc : env.cells.lookup y = some c)
    (h : ∀ g' s', Le g g' → Cellz g' c v → St x g' l s' → Q () s') : wpAny (model PP w) A (storeName env y v) Q E s :=
  stC S hk hf hc .head fun s1 S1 => let ⟨g', k, hz, S2⟩ := S1.cellz; h g' s1 k hz S2

set_option maxHeartbeats 4000000 in
theorem lw_0 {st : Stmt} {sc : Scope} {c : Cs} {L : Addr} {m : Str → Option Value} {ns : List Int} {sv : Value} {Q : Flow → Shared → Prop}
    (hst : (bodyOf w 126)[0]? = some st) (hsc : scopeOf w 126 = some sc) (W : Wf w mg mb g) (S : St x g ((L, NsP m) :: (c.parents, CellP none) :: (c.stamps, CellP none) :: l) s) (hd : A.depth < 900) (hu : A.units < 900) (hh : A.handled = none)
    (hm : m "script" = some sv) (hs : IntL g ns sv) (hn : ns.length ≤ 63)
    (h : ∀ g' pv tv ps ts s', Le g g' → Cellz g' c.parents pv → Cellz g' c.stamps tv → IntLL g' ps pv → IntL g' ts tv → Gr ps ts → 2 ≤ ps.length → ps.length ≤ 10 → St x g' ((L, NsP m) :: l) s' → Q .next s') :
    wpAny (model PP w) A (exec st (lwEnv sc c L)) Q E s := by
  have e0 := @_root_.id ((KK w).lookup 126 = some _) rfl
  have e := @_root_.id ((bodyOf w 126)[0]? = some _) (by unfold bodyOf; rw [e0]; exact rfl)
  rw [e] at hst
  cases hst
  have e2 := @_root_.id (scopeOf w 126 = some _) (by unfold scopeOf; rw [e0])
  rw [e2] at hsc
  cases hsc
  clear e e0 e2
  refine el22 (W.fn 109 rfl rfl) fun o109 fd109 h109 h109d => ?_
  refine assignTup (callFn ?_)
  refine ldGW (v := .ref 109) W S rfl rfl rfl (by kernel_rfl) (in33 109 o109 fd109 rfl h109d ?_)
  refine wpAny_items_cons (ldL S rfl rfl (by k_mem) hm (wpAny_items_nil ⟨S.keep _ _ h109, ?_⟩))
  refine law_graph W S hd hu hh hs hn fun a pv tv ps ts g1 s1 k1 S1 hp ht G h2 h10 => ?_
  obtain ⟨oa, hoa, hta⟩ := S1.get (List.mem_cons_self ..)
  refine unpack2 S1 (.inl hh) ⟨oa, hoa, hta.1, hta.2.2⟩ rfl fun s2 S2 => ?_
  have S3 := S2.drop.perm (List.Perm.swap ..)
  refine wpAny_assign_Name (setCell S3 rfl rfl rfl fun g2 s3 k2 hc1 S4 => ?_)
  have S5 := S4.perm (List.Perm.swap ..)
  refine wpAny_assign_Name (setCell S5 rfl rfl rfl fun g3 s4 k3 hc2 S6 => ?_)
  exact h g3 pv tv ps ts s4 (k1.trans (k2.trans k3)) (hc1.le k3) hc2 (hp.le (k2.trans k3)) (ht.le (k2.trans k3)) G h2 h10 S6
def CzLL (g : Heap) (c : Addr) (iss : List (List Int)) : Prop := ∃ v, Cellz g c v ∧ IntLL g iss v
def CzL (g : Heap) (c : Addr) (is : List Int) : Prop := ∃ v, Cellz g c v ∧ IntL g is v
def CzI (g : Heap) (c : Addr) (i : Int) : Prop := ∃ t, Cellz g c (.int i t)
theorem CzLL.le {g g' : Heap} {c : Addr} {iss : List (List Int)} (h : CzLL g c iss) (k : Le g g') : CzLL g' c iss := by obtain ⟨v, a, b⟩ := h; exact (in12 v (a.le k) (b.le k))
theorem CzL.le {g g' : Heap} {c : Addr} {is : List Int} (h : CzL g c is) (k : Le g g') : CzL g' c is := by obtain ⟨v, a, b⟩ := h; exact (in12 v (a.le k) (b.le k))
theorem CzI.le {g g' : Heap} {c : Addr} {i : Int} (h : CzI g c i) (k : Le g g') : CzI g' c i := by obtain ⟨v, a⟩ := h; exact ⟨v, a.le k⟩

theorem lw_1 {st : Stmt} {sc : Scope} {c : Cs} {L : Addr} {m : Str → Option Value} {ps : List (List Int)} {Q : Flow → Shared → Prop}
    (hst : (bodyOf w 126)[1]? = some st) (hsc : scopeOf w 126 = some sc) (W : Wf w mg mb g) (S : St x g ((L, NsP m) :: (c.size, CellP none) :: l) s) (hp : CzLL g c.parents ps) (hn : ps.length ≤ 10)
    (h : ∀ g' s', Le g g' → CzI g' c.size ps.length → St x g' ((L, NsP m) :: l) s' → Q .next s') :
    wpAny (model PP w) A (exec st (lwEnv sc c L)) Q E s := by
  have e0 := @_root_.id ((KK w).lookup 126 = some _) rfl
  have e := @_root_.id ((bodyOf w 126)[1]? = some _) (by unfold bodyOf; rw [e0]; exact rfl)
  rw [e] at hst
  cases hst
  have e2 := @_root_.id (scopeOf w 126 = some _) (by unfold scopeOf; rw [e0])
  rw [e2] at hsc
  cases hsc
  clear e e0 e2
  refine el12 hp fun pv hc z249_ => ?_; try clear hp; refine el23 z249_ fun pa vs e250_ hl hP => ?_; try clear z249_; subst e250_
  have hlen := pairLen hP
  refine wpAny_Assign_Name (callBi ?_)
  refine ldBW W S rfl rfl rfl rfl (by kernel_rfl) (by boot_fast) (in12 _ rfl (wpAny_items_cons ?_))
  refine ldZ S (.inl rfl) rfl rfl hc (wpAny_items_nil ?_)
  refine lenL S (isList_le hl S.keep) (by walk_at "om") fun t s1 S1 => ?_
  refine setCell (S1.perm (.swap ..)) rfl rfl rfl fun g2 s2 k2 hc2 S2 => ?_
  exact h g2 s2 k2 ⟨t, by rw [hlen]; exact hc2⟩ S2

/-- abs(script[size + d]) if size + d < len(script) else e, without its end -/
theorem lw_read {sc : Scope} {c : Cs} {L : Addr} {m : Str → Option Value} {ns : List Int} {sv : Value} {n d : Nat} {Q : Value → Shared → Prop} {p1 p2 p3 p4 p5 p6 p7 : Pos} {k1 : Nat}
    (hsc : scopeOf w 126 = some sc) (W : Wf w mg mb g) (S : St x g ((L, NsP m) :: l) s) (hh : A.handled = none) (hm : m "script" = some sv) (hs : IntL g ns sv) (hz : CzI g c.size n) (hlt : n + d < ns.length) (hn : ns.length ≤ 63)
    (h : ∀ i t s', 0 ≤ i → St x g ((L, NsP m) :: l) s' → Q (.int i t) s') :
    wpAny (model PP w) A (eval (.Call (.Name "abs" p1) [.Subscript (.Name "script" p2) (.BinOp (.Name "size" p3) .Add (.Constant (.int d) k1 p4) p5) p6] [] p7) (lwEnv sc c L)) Q E s := by
  have e2 := @_root_.id (scopeOf w 126 = some _) (by unfold scopeOf; rw [@_root_.id ((KK w).lookup 126 = some _) rfl])
  rw [e2] at hsc
  cases hsc
  clear e2
  refine el11 hz fun tz hz => ?_
  refine callBi ?_
  refine ldBW W S rfl rfl rfl rfl (by kernel_rfl) (by boot_fast) (in12 _ rfl (wpAny_items_cons (subs ?_)))
  refine ldL S rfl rfl (by k_mem) hm (wpAny_BinOp (ldZ S (.inl rfl) rfl rfl hz (cInt S fun t1 s1 S1 => oAdd S1 fun t2 s2 S2 => ?_)))
  have e : ns[((n : Int) + (d : Int)).toNat]? = some ns[n + d] := by
    rw [show ((n : Int) + (d : Int)).toNat = n + d by walk_at "om"]; simp [hlt]
  refine idxI hs S2.keep (by walk_at "om") (by walk_at "om") e fun t3 => wpAny_items_nil ?_
  refine oAbs S2 fun t4 s3 S3 => h _ t4 s3 ?_ S3
  split <;> walk_at "om"
theorem lw_cond {sc : Scope} {c : Cs} {L : Addr} {m : Str → Option Value} {ns : List Int} {sv : Value} {n d : Nat} {Q : Bool → Shared → Prop} {p1 p2 p3 p4 p5 p6 p7 : Pos} {k1 : Nat}
    (hsc : scopeOf w 126 = some sc) (W : Wf w mg mb g) (S : St x g ((L, NsP m) :: l) s) (hm : m "script" = some sv) (hs : IntL g ns sv) (hz : CzI g c.size n) (hn : ns.length ≤ 63)
    (h : ∀ s', St x g ((L, NsP m) :: l) s' → Q (decide (n + d < ns.length)) s') :
    wpAny (model PP w) A (isTrue (.Compare (.BinOp (.Name "size" p1) .Add (.Constant (.int d) k1 p2) p3) [.Lt] [.Call (.Name "len" p4) [.Name "script" p5] [] p6] p7) (lwEnv sc c L) (eval (.Compare (.BinOp (.Name "size" p1) .Add (.Constant (.int d) k1 p2) p3) [.Lt] [.Call (.Name "len" p4) [.Name "script" p5] [] p6] p7) (lwEnv sc c L))) Q E s := by
  have e2 := @_root_.id (scopeOf w 126 = some _) (by unfold scopeOf; rw [@_root_.id ((KK w).lookup 126 = some _) rfl])
  rw [e2] at hsc
  cases hsc
  clear e2
  refine el11 hz fun tz hz => ?_
  refine el23 hs fun sa svs e251_ hsl hsp => ?_; try clear hs; subst e251_
  have hslen := pairLen hsp
  refine wpAny_isTrue_Compare1 (wpAny_BinOp (ldZ S (.inl rfl) rfl rfl hz (cInt S fun t1 s1 S1 => oAdd S1 fun t2 s2 S2 => callBi ?_)))
  refine ldBW W S2 rfl rfl rfl rfl (by kernel_rfl) (by boot_fast) (in12 _ rfl (wpAny_items_cons (ldL S2 rfl rfl (by k_mem) hm (wpAny_items_nil ?_))))
  refine lenL S2 (isList_le hsl S2.keep) (by walk_at "om") fun t3 s3 S3 => oLt (wpAny_truthy_bool ?_)
  have e : decide ((n : Int) + (d : Int) < (svs.length : Int)) = decide (n + d < ns.length) := by
    rw [decide_eq_decide]; walk_at "om"
  rw [e]
  exact h s3 S3

set_option maxHeartbeats 4000000 in
theorem lw_2 {st : Stmt} {sc : Scope} {c : Cs} {L : Addr} {m : Str → Option Value} {ns : List Int} {sv : Value} {n : Nat} {Q : Flow → Shared → Prop}
    (hst : (bodyOf w 126)[2]? = some st) (hsc : scopeOf w 126 = some sc) (W : Wf w mg mb g) (S : St x g ((L, NsP m) :: (c.pick, CellP none) :: l) s) (hh : A.handled = none) (hm : m "script" = some sv) (hs : IntL g ns sv) (hn : ns.length ≤ 63) (hz : CzI g c.size n)
    (h : ∀ g' s' pk, Le g g' → 0 ≤ pk → CzI g' c.pick pk → St x g' ((L, NsP m) :: l) s' → Q .next s') :
    wpAny (model PP w) A (exec st (lwEnv sc c L)) Q E s := by
  have hsc' := hsc
  have e0 := @_root_.id ((KK w).lookup 126 = some _) rfl
  have e := @_root_.id ((bodyOf w 126)[2]? = some _) (by unfold bodyOf; rw [e0]; exact rfl)
  rw [e] at hst
  cases hst
  have hk : (lwEnv sc c L).kindOf "pick" = some .cell ∧ (lwEnv sc c L).scope.kind = .function := by
    have e2 := @_root_.id (scopeOf w 126 = some _) (by unfold scopeOf; rw [e0])
    rw [e2] at hsc
    cases hsc
    exact ⟨rfl, rfl⟩
  clear e e0 hsc
  refine wpAny_Assign_Name (cut (fun v s' => ∃ i t, v = .int i t ∧ 0 ≤ i ∧ St x g ((L, NsP m) :: (c.pick, CellP none) :: l) s') (wpAny_IfExp (lw_cond (d := 1) hsc' W S hm hs hz hn fun s1 S1 => ?_)) ?_)
  · by_cases hlt : n + 1 < ns.length
    · rw [if_pos (by simpa using hlt)]
      exact lw_read (d := 1) hsc' W S1 hh hm hs hz hlt hn fun i t s2 hi S2 => (in23 i t rfl hi S2)
    · rw [if_neg (by simpa using hlt)]
      exact cInt S1 fun t s2 S2 => (in23 _ t rfl (by decide) S2)
  · intro _ s2 hR2
    refine el23 hR2 fun i t e252_ hi S2 => ?_; try clear hR2; subst e252_
    exact setCell (S2.perm (.swap ..)) hk.1 hk.2 rfl fun g2 s3 k2 hc2 S3 => h g2 s3 i k2 hi ⟨t, hc2⟩ S3
theorem lw_3 {st : Stmt} {sc : Scope} {c : Cs} {L : Addr} {m : Str → Option Value} {ns : List Int} {sv : Value} {n : Nat} {Q : Flow → Shared → Prop}
    (hst : (bodyOf w 126)[3]? = some st) (hsc : scopeOf w 126 = some sc) (W : Wf w mg mb g) (S : St x g ((L, NsP m) :: l) s) (hh : A.handled = none) (hm : m "script" = some sv) (hs : IntL g ns sv) (hn : ns.length ≤ 63) (hz : CzI g c.size n)
    (h : ∀ s' so t, 0 ≤ so → so < 6 → St x g ((L, NsP (upd m "sort" (.int so t))) :: l) s' → Q .next s') :
    wpAny (model PP w) A (exec st (lwEnv sc c L)) Q E s := by
  have hsc' := hsc
  have e0 := @_root_.id ((KK w).lookup 126 = some _) rfl
  have e := @_root_.id ((bodyOf w 126)[3]? = some _) (by unfold bodyOf; rw [e0]; exact rfl)
  rw [e] at hst
  cases hst
  have hk : (lwEnv sc c L).kindOf "sort" = some .local ∧ (lwEnv sc c L).scope.kind = .function := by
    have e2 := @_root_.id (scopeOf w 126 = some _) (by unfold scopeOf; rw [e0])
    rw [e2] at hsc
    cases hsc
    exact ⟨rfl, rfl⟩
  clear e e0 hsc
  refine wpAny_Assign_Name (cut (fun v s' => ∃ i t, v = .int i t ∧ 0 ≤ i ∧ i < 6 ∧ St x g ((L, NsP m) :: l) s') (wpAny_IfExp (lw_cond (d := 2) hsc' W S hm hs hz hn fun s1 S1 => ?_)) ?_)
  · by_cases hlt : n + 2 < ns.length
    · rw [if_pos (by simpa using hlt)]
      refine wpAny_BinOp (lw_read (d := 2) hsc' W S1 hh hm hs hz hlt hn fun i t s2 hi S2 => cInt S2 fun t2 s3 S3 => oMod S3 (by decide) fun t3 s4 S4 => ?_)
      refine (in24 _ t3 rfl ?_ ?_ S4) <;> rw [fmodP (by decide)] <;> walk_at "om"
    · rw [if_neg (by simpa using hlt)]
      exact cInt S1 fun t s2 S2 => (in24 _ t rfl (by decide) (by decide) S2)
  · intro _ s2 hR2
    refine el24 hR2 fun i t e253_ hi hi6 S2 => ?_; try clear hR2; subst e253_
    exact stL S2 hk.1 hk.2 .head fun s3 S3 => h s3 i t hi hi6 S3
theorem lw_4 {st : Stmt} {sc : Scope} {c : Cs} {L : Addr} {m : Str → Option Value} {ns : List Int} {sv : Value} {n : Nat} {Q : Flow → Shared → Prop}
    (hst : (bodyOf w 126)[4]? = some st) (hsc : scopeOf w 126 = some sc) (W : Wf w mg mb g) (S : St x g ((L, NsP m) :: l) s) (hh : A.handled = none) (hm : m "script" = some sv) (hs : IntL g ns sv) (hn : ns.length ≤ 63) (hz : CzI g c.size n)
    (h : ∀ s' mk t, 0 ≤ mk → St x g ((L, NsP (upd m "mark" (.int mk t))) :: l) s' → Q .next s') :
    wpAny (model PP w) A (exec st (lwEnv sc c L)) Q E s := by
  have hsc' := hsc
  have e0 := @_root_.id ((KK w).lookup 126 = some _) rfl
  have e := @_root_.id ((bodyOf w 126)[4]? = some _) (by unfold bodyOf; rw [e0]; exact rfl)
  rw [e] at hst
  cases hst
  have hk : (lwEnv sc c L).kindOf "mark" = some .local ∧ (lwEnv sc c L).scope.kind = .function := by
    have e2 := @_root_.id (scopeOf w 126 = some _) (by unfold scopeOf; rw [e0])
    rw [e2] at hsc
    cases hsc
    exact ⟨rfl, rfl⟩
  clear e e0 hsc
  refine wpAny_Assign_Name (cut (fun v s' => ∃ i t, v = .int i t ∧ 0 ≤ i ∧ St x g ((L, NsP m) :: l) s') (wpAny_IfExp (lw_cond (d := 3) hsc' W S hm hs hz hn fun s1 S1 => ?_)) ?_)
  · by_cases hlt : n + 3 < ns.length
    · rw [if_pos (by simpa using hlt)]
      exact lw_read (d := 3) hsc' W S1 hh hm hs hz hlt hn fun i t s2 hi S2 => (in23 i t rfl hi S2)
    · rw [if_neg (by simpa using hlt)]
      exact cInt S1 fun t s2 S2 => (in23 _ t rfl (by decide) S2)
  · intro _ s2 hR2
    refine el23 hR2 fun i t e254_ hi S2 => ?_; try clear hR2; subst e254_
    exact stL S2 hk.1 hk.2 .head fun s3 S3 => h s3 i t hi S3
end Jr
end
-- JK
section
namespace Jr
open PySem PySem.W PySem.Calls PyProof.Rows
variable {x : Wd} {g : Heap} {l : List Ent} {s : Shared} {A : Around} {E : Value → Shared → Prop} {w : World} {mg mb : Str → Option Value}

def foreRow (ps f : List (List Int)) (k : Nat) : List Int :=
  ((List.range (k + 1)).filter (fun j => j == k || !((ps.getD k []).filter (fun p => (f.getD p.toNat []).contains (j : Int))).isEmpty)).map Int.ofNat
def foreN (ps : List (List Int)) : Nat → List (List Int)
  | 0 => []
  | k + 1 => foreN ps k ++ [foreRow ps (foreN ps k) k]

theorem map_getD_range {α : Type} (xs : List α) (d : α) : (List.range xs.length).map (fun i => xs.getD i d) = xs := by
  apply List.ext_getElem
  · simp
  · intro i h1 h2
    simp at h1
    simp [h1]
theorem filter_range {α : Type} (xs : List α) (d : α) (q : α → Bool) : ((List.range xs.length).filter (fun i => q (xs.getD i d))).map (fun i => xs.getD i d) = xs.filter q := by
  conv => rhs; rw [← map_getD_range xs d, List.filter_map]
  rfl
theorem pairMap {α β γ : Type} {F : γ → β → Prop} {f : α → γ} : ∀ {l₁ : List α} {l₂ : List β}, Paired (fun a b => F (f a) b) l₁ l₂ → Paired F (l₁.map f) l₂ := by
  intro l₁ l₂ h
  induction h with
  | nil => exact .nil
  | cons a _ ih => exact .cons a ih
theorem isEmpty_len {α β : Type} {a : List α} {b : List β} (h : a.length = b.length) : a.isEmpty = b.isEmpty := by
  cases a <;> cases b <;> simp_all

set_option pp.maxSteps 4000
set_option maxHeartbeats 4000000 in
theorem law_forebears {ps : List (List Int)} {pv : Value} {Q : Value → Shared → Prop} (W : Wf w mg mb g) (S : St x g l s) (hd : A.depth < 900) (hu : A.units < 900) (hh : A.handled = none) (hp : IntLL g ps pv) (hn : ps.length ≤ 100) (hz : ∀ row ∈ ps, row.length ≤ 100)
    (hlow : ∀ (k : Nat) (row : List Int) (p : Int), ps[k]? = some row → p ∈ row → 0 ≤ p ∧ p < k)
    (h : ∀ v g' s', Le g g' → St x g' l s' → IntLL g' (foreN ps ps.length) v → Q v s') : wpAny (model PP w) A (call (.ref 114) [pv] []) Q E s := by
  refine callFQc (args := ⟨[pv], []⟩) (binds := [("parents", pv)]) ["k", "found", "parents"] S (W.K 114 _ rfl) rfl (codeRec_of W.K (by kernel_rfl)) W.lim (by show A.depth < 1000; walk_at "om") (BindsTo.of_eq rfl) ?_
  intro L bs s hb S
  refine el31 (len3 hb) fun bk bf bp e19_ => ?_; subst e19_
  dsimp only [List.zip, List.zipWith, List.nil_append, List.cons_append, List.map] at S ⊢
  refine stored_cons (stC S rfl rfl rfl (.tail (.tail .head)) fun s S => stored_nil ⟨S.keep, ?_⟩)
  refine nameXs ?_; intro ev Ax Ex Qx
  refine wpAny_execs_cons (wpAny_Assign_Name (List_ (wpAny_items_nil ?_)))
  refine nwList S (by size_fits) fun fo s S => ?_
  refine stC S rfl rfl rfl (.tail (.tail .head)) fun s S => ?_
  refine wpAny_execs_cons (wpAny_For (callTy ?_))
  refine ldBW W S rfl rfl rfl rfl (by kernel_rfl) (by boot_fast) (in12 _ rfl ?_)
  refine wpAny_items_cons (callBi ?_)
  refine ldBW W S rfl rfl rfl rfl (by kernel_rfl) (by boot_fast) (in12 _ rfl ?_)
  refine wpAny_items_cons (ldC S rfl rfl rfl (by k_mem) (wpAny_items_nil ?_))
  refine el23 (id hp) fun pa pvs e20_ hpl hpp => ?_; subst e20_
  have hlen := pairLen hpp
  refine lenL S (isList_le hpl S.keep) (by walk_at "om") fun t1 s S => wpAny_items_nil ?_
  refine callRange S fun r s S => ?_
  refine iterRange S (by walk_at "om") (by walk_at "om") fun it s S I => ?_
  simp only [Int.toNat_natCast] at S I
  refine forIt (fun i g' l' => ∃ u vs m, l' = (fo, ListP vs) :: (bk, CellP u) :: (bf, CellP (some (.ref fo))) :: (bp, CellP (some (.ref pa))) :: (L, NsP m) :: l ∧ Paired (IntL g') (foreN ps i) vs) S I hh Pass.never (in32 _ _ _ rfl (.nil)) ?_ ?_
  · intro i v g' l' s hi hJ6 hg hJ8 S
    refine nameQ ?_; intro Qx
    refine el11 hJ6 fun tk e21_ => ?_; try clear hJ6; subst e21_
    refine el32 hJ8 fun u vs m e22_ hP => ?_; try clear hJ8; subst e22_
    rw [Int.zero_add] at *
    have W' := W.le hg
    have hv := pairLen hP
    have hfl : ∀ k, (foreN ps k).length = k := fun k => by induction k with
      | zero => rfl
      | succ k ih => simp [foreN, ih]
    refine wpAny_assign_Name (stC S rfl rfl rfl (.tail (.tail .head)) fun s S => ?_)
    refine nameQ ?_; intro Qy
    refine wpAny_execs_cons (compCA (x := x) (g := g') (y := "j") rfl rfl rfl rfl rfl (by decide) rfl (fun _ _ => rfl) hh (fun _ => rfl) ?_)
    refine callTy ?_
    refine ldBW W' S rfl rfl rfl rfl (by kernel_rfl) (by boot_fast) (in12 _ rfl ?_)
    refine wpAny_items_cons (wpAny_BinOp ?_)
    refine ldC S rfl rfl rfl (by k_mem) ?_
    refine cInt S fun t2 s S => oAdd S fun t3 s S => wpAny_items_nil ?_
    refine callRange S fun r s S => ?_
    refine itsRange S (by walk_at "om") (by walk_at "om") fun ii s hI => ?_
    refine (in44 g' _ _ _ (Le.refl _) hI (by walk_at "om") (in24 (fun j => j == i || !((ps.getD i []).filter (fun p => ((foreN ps i).getD p.toNat []).contains (j : Int))).isEmpty) (fun g k v => IntV k v) (fun _ _ _ _ _ q => q) ?_ ?_ ?_))
    · intro C b j v g2 m2 r2 s hj hR9 hg2 hr S
      refine el11 hR9 fun t4 e23_ => ?_; try clear hR9; subst e23_
      rw [Int.zero_add] at *
      have hrow : ps[i]? = some (ps.getD i []) := by simp [show i < ps.length by walk_at "om"]
      refine wpAny_tests_one (wpAny_isTrue_BoolOp (wpAny_allTrue_Or_cons (wpAny_isTrue_Compare1 ?_)))
      refine ldC S rfl rfl rfl (by k_mem) ?_
      refine ldC S rfl rfl rfl (.tail _ (.tail _ (hr _ (by k_mem)))) ?_
      refine oEq (wpAny_truthy_bool ?_)
      by_cases hji : (j : Int) = (i : Int)
      · rw [if_pos (by simpa using hji)]
        exact ⟨by simp; left; walk_at "om", (in12 g2 (Le.refl _) S)⟩
      · rw [if_neg (by simpa using hji)]
        have hji' : (j == i) = false := by simp; walk_at "om"
        simp only [hji', Bool.false_or]
        refine wpAny_allTrue_Or_cons (wpAny_isTrue_Compare1 ?_)
        refine compL (x := x) (g := g2) (y := "parent") rfl rfl (by decide) rfl rfl hh (fun _ => rfl) ?_
        refine subs ?_
        refine ldC S rfl rfl rfl (.tail _ (.tail _ (hr _ (by k_mem)))) ?_
        refine ldC S rfl rfl rfl (.tail _ (.tail _ (hr _ (by k_mem)))) ?_
        refine idxLL hp (hg.trans (hg2.trans S.keep)) (by walk_at "om") (by walk_at "om") (by rw [Int.toNat_natCast]; exact hrow) fun rv hrv => ?_
        refine el23 hrv fun ra rvs e24_ hrl hrp => ?_; try clear hrv; subst e24_
        have hrl' : g2.IsList ra rvs.toArray := isList_le hrl (hg.trans hg2)
        refine itsList S hrl' fun i3 s hI => ?_
        have hrlen := pairLen hrp
        have hz1 := hz _ (List.mem_of_getElem? hrow)
        refine (in44 g2 _ _ _ (Le.refl _) hI (by walk_at "om") (in24 (fun n => ((foreN ps i).getD ((ps.getD i []).getD n 0).toNat []).contains (j : Int)) (fun g k v => True) (fun _ _ _ _ _ q => q) ?_ ?_ ?_))
        · rintro C2 n v g3 m3 r3 s hn hv hg3 hr3 hm3 S
          refine el12 (pairGet' hrp hv) fun pp hpp1 z25_ => ?_; refine el11 z25_ fun u5 e26_ => ?_; try clear z25_; subst e26_
          have hlo := hlow i _ pp hrow (List.mem_of_getElem? hpp1)
          have hfi : (foreN ps i)[pp.toNat]? = some ((foreN ps i).getD pp.toNat []) := by
            have := hfl i
            simp [show pp.toNat < (foreN ps i).length by walk_at "om"]
          refine wpAny_tests_one (wpAny_isTrue_Compare1 ?_)
          refine ldC S rfl rfl rfl (.tail _ (hr3 _ (by k_mem))) ?_
          refine subs ?_
          refine ldC S rfl rfl rfl (.tail _ (hr3 _ (.tail _ (.tail _ (hr _ (by k_mem)))))) ?_
          refine ldL S rfl rfl (by k_mem) hm3 ?_
          refine el12 (pairGet hP hfi) fun fv hfv hfL => ?_
          refine idxL (S.list (.tail _ (hr3 _ (.tail _ (.tail _ (hr _ (by k_mem))))))) (by walk_at "om") (by walk_at "om") hfv ?_
          refine inI hfL (hg2.trans (hg3.trans S.keep)) (wpAny_truthy_bool ⟨?_, (in12 g3 (Le.refl _) S)⟩)
          have e : (ps.getD i []).getD n 0 = pp := by rw [List.getD_eq_getElem?_getD, hpp1]; rfl
          simp only [e]
        · rintro C2 n v g3 m3 r3 s hn hv hp3 hg3 hr3 hm3 S
          refine ldL S rfl rfl (by k_mem) hm3 ?_
          exact (in13 g3 (Le.refl _) S trivial)
        · intro acc g3 ys s hg3 hP3 S
          refine List_ (wpAny_items_nil (nwList S (by size_fits) fun eb s S => ?_))
          refine neNil (S.list (by k_mem)) (S.list (by k_mem)) (by rw [cLine_is]; try unfold Ax; try simp only [Around.deeper_units]; walk_at "om") (wpAny_truthy_bool ?_)
          have e : ys.isEmpty = ((ps.getD i []).filter (fun p => ((foreN ps i).getD p.toNat []).contains (j : Int))).isEmpty := by
            rw [← filter_range (ps.getD i []) 0, List.isEmpty_map]
            refine isEmpty_len ?_
            rw [← pairLen hP3, ← hrlen]
          rw [e]
          cases hb : ((ps.getD i []).filter (fun p => ((foreN ps i).getD p.toNat []).contains (j : Int))).isEmpty
          · exact ⟨rfl, (in12 g3 hg3 (S.drop.drop))⟩
          · exact wpAny_allTrue_Or_nil ⟨rfl, (in12 g3 hg3 (S.drop.drop))⟩
    · intro C b j v g2 m2 r2 s hj hR9 hp hg2 hr S
      refine el11 hR9 fun t4 e27_ => ?_; try clear hR9; subst e27_
      refine ldC S rfl rfl rfl (by k_mem) ?_
      exact (in13 g2 (Le.refl _) S ⟨_, by rw [Int.zero_add]⟩)
    · intro acc
      refine (in22 m _ (by walk_at "up") ?_)
      intro g2 ys s hg2 hP2 S
      refine el25 (S.freeze) fun g3 ao hg3 hao hao2 _ S => ?_
      refine wpAny_execs_cons (wpAny_Expr (callAppend ?_))
      refine ldC S rfl rfl rfl (by k_mem) (in23 fo vs rfl (S.get (by k_mem)) ?_)
      refine ldL S rfl rfl (by k_mem) upd_same ?_
      refine appendL S (.tail .head) (by rw [sizeLine_eq]; rw [← hv, hfl]; walk_at "om") fun s S => ?_
      refine wpAny_execs_nil (in23 g3 _ (hg2.trans hg3) S (in32 _ _ _ rfl ?_))
      show Paired _ (foreN ps i ++ [foreRow ps (foreN ps i) i]) _
      refine (pairMono (fun _ _ z => IntL.le z (hg2.trans hg3)) hP).snoc (in23 acc ys rfl (in13 ao hao (hao2.1) (hao2.2.2)) ?_)
      have e : ((i : Int) + 1).toNat = i + 1 := by walk_at "om"
      rw [e] at hP2
      exact pairMap hP2
  · intro g' l' s hg hR4 S
    refine el32 hR4 fun u vs m e28_ hP => ?_; try clear hR4; subst e28_
    refine wpAny_execs_cons (wpAny_Return_some ?_)
    refine ldC S rfl rfl rfl (by k_mem) ?_
    refine el25 (S.freeze) fun g3 ao hg3 hao hao2 _ S => ?_
    refine h _ g3 _ (hg.trans hg3) S.drop.drop.drop.drop (in23 fo vs rfl (in13 ao hao (hao2.1) (hao2.2.2)) ?_)
    rw [hlen]
    exact pairMono (fun _ _ z => IntL.le z hg3) hP
end Jr
end
-- KY
section
namespace Jr
open PySem PySem.W PySem.Calls PySem.SeqAt PySem.Builtin PyProof.Rows PySem.Spec
variable {x : Wd} {g : Heap} {l : List Ent} {w : World} {A : Around} {E : Value → Shared → Prop} {s : Shared} {env : Env} {mg mb : Str → Option Value}


theorem pow3_lt : ∀ k < 10, ((3 : Int) ^ k).natAbs < 1073741824 ∧ (3 : Int) ^ k ≠ 0 := by decide +kernel
theorem pow7_lt : ∀ k < 10, ((7 : Int) ^ k).natAbs < 1073741824 ∧ (7 : Int) ^ k ≠ 0 := by decide +kernel

set_option maxHeartbeats 4000000 in
theorem lw_5 {st : Stmt} {sc : Scope} {c : Cs} {L : Addr} {m : Str → Option Value} {n : Nat} {pk : Int} {Q : Flow → Shared → Prop}
    (hst : (bodyOf w 126)[5]? = some st) (hsc : scopeOf w 126 = some sc) (W : Wf w mg mb g) (S : St x g ((L, NsP m) :: (c.gone, CellP none) :: l) s) (hh : A.handled = none) (hz : CzI g c.size n) (hn : n ≤ 10) (hp : CzI g c.pick pk)
    (h : ∀ g' s' (p : Nat → Bool), Le g g' → CzL g' c.gone (((List.range n).filter p).map Int.ofNat) → St x g' ((L, NsP m) :: l) s' → Q .next s') :
    wpAny (model PP w) A (exec st (lwEnv sc c L)) Q E s := by
  have e0 := @_root_.id ((KK w).lookup 126 = some _) rfl
  have e := @_root_.id ((bodyOf w 126)[5]? = some _) (by unfold bodyOf; rw [e0]; exact rfl)
  rw [e] at hst
  cases hst
  have e2 := @_root_.id (scopeOf w 126 = some _) (by unfold scopeOf; rw [e0])
  rw [e2] at hsc
  cases hsc
  clear e e0 e2
  refine el11 hz fun tz hz => ?_
  refine el11 hp fun tp hp => ?_
  refine wpAny_Assign_Name (compL (x := x) (g := g) (y := "k") rfl rfl (by decide) rfl rfl hh (fun _ => rfl) ?_)
  refine callTy ?_
  refine ldBW W S rfl rfl rfl rfl (by kernel_rfl) (by boot_fast) ⟨_, rfl, wpAny_items_cons (ldZ S (.inl rfl) rfl rfl hz (wpAny_items_nil ?_))⟩
  refine callRange S fun r s1 S1 => itsRange S1 (by walk_at "om") (by walk_at "om") fun ii s2 hI => ?_
  rw [Int.toNat_natCast] at hI
  refine (in44 g _ _ _ (Le.refl _) hI (by walk_at "om") (in24 (fun i => ((pk.fdiv (7 ^ 6)).fmod 2 == 1) && (((pk.fdiv (7 ^ 7)).fdiv (3 ^ i)).fmod 3 == 0)) (fun g k v => IntV k v) (fun _ _ _ _ _ q => q) ?_ ?_ ?_))
  · intro C i v g1 m1 r1 s3 hi hR8 hg1 hr hm1 S3
    refine el11 hR8 fun t1 e255_ => ?_; try clear hR8; subst e255_
    rw [Int.zero_add] at *
    refine wpAny_tests_one (wpAny_isTrue_BoolOp (wpAny_allTrue_And_cons (wpAny_isTrue_Compare1 (wpAny_BinOp (wpAny_BinOp ?_)))))
    refine ldZ S3 (.inl rfl) rfl rfl (hp.le hg1) (wpAny_BinOp (cInt S3 fun t2 s4 S4 => cInt S4 fun t3 s5 S5 => oPow S5 (by decide) (by decide) (by decide) fun t4 s6 S6 => ?_))
    refine oDiv S6 (by decide) (by decide) fun t5 s7 S7 => cInt S7 fun t6 s8 S8 => oMod S8 (by decide) fun t7 s9 S9 => cInt S9 fun t8 s10 S10 => oEq (wpAny_truthy_bool ?_)
    cases hb : ((pk.fdiv (7 ^ 6)).fmod 2 == 1) with
    | false =>
      have hb' : ((pk.fdiv (7 ^ (6 : Int).toNat)).fmod 2 == 1) = false := hb
      rw [hb', if_neg (by decide)]
      exact ⟨rfl, (in12 g1 (Le.refl _) S10)⟩
    | true =>
      have hb' : ((pk.fdiv (7 ^ (6 : Int).toNat)).fmod 2 == 1) = true := hb
      rw [hb', if_pos rfl]
      refine wpAny_allTrue_And_cons (wpAny_isTrue_Compare1 (wpAny_BinOp (wpAny_BinOp (wpAny_BinOp ?_))))
      refine ldZ S10 (.inl rfl) rfl rfl (hp.le hg1) (wpAny_BinOp (cInt S10 fun t2 s4 S4 => cInt S4 fun t3 s5 S5 => oPow S5 (by decide) (by decide) (by decide) fun t4 s6 S6 => ?_))
      refine oDiv S6 (by decide) (by decide) fun t5 s7 S7 => wpAny_BinOp (cInt S7 fun t6 s8 S8 => ldL S8 rfl rfl (by k_mem) hm1 (oPow S8 (by walk_at "om") (by walk_at "om") (by decide) fun t9 s9 S9 => ?_))
      have h3 := pow3_lt i (by walk_at "om")
      rw [show ((i : Int)).toNat = i by walk_at "om"]
      refine oDiv S9 h3.2 h3.1 fun t10 s11 S11 => cInt S11 fun t11 s12 S12 => oMod S12 (by decide) fun t12 s13 S13 => cInt S13 fun t13 s14 S14 => oEq (wpAny_truthy_bool ?_)
      cases hq : (((pk.fdiv (7 ^ 7)).fdiv (3 ^ i)).fmod 3 == 0) with
      | false =>
        have hq' : (((pk.fdiv (7 ^ (7 : Int).toNat)).fdiv (3 ^ i)).fmod 3 == 0) = false := hq
        rw [hq', if_neg (by decide)]
        exact ⟨hq.symm, (in12 g1 (Le.refl _) S14)⟩
      | true =>
        have hq' : (((pk.fdiv (7 ^ (7 : Int).toNat)).fdiv (3 ^ i)).fmod 3 == 0) = true := hq
        rw [hq', if_pos rfl]
        exact wpAny_allTrue_And_nil ⟨hq.symm, (in12 g1 (Le.refl _) S14)⟩
  · intro C i v g1 m1 r1 s3 hi hR8 hpi hg1 hr hm1 S3
    refine el11 hR8 fun t1 e256_ => ?_; try clear hR8; subst e256_
    exact ldL S3 rfl rfl (by k_mem) hm1 (in13 g1 (Le.refl _) S3 ⟨t1, by rw [Int.zero_add]⟩)
  · intro acc g1 ys s3 hg1 hP S3
    refine el25 (S3.freeze) fun g2 oa k2 ea pa _ S4 => ?_
    refine setCell (S4.perm (.swap ..)) rfl rfl rfl fun g3 s4 k3 hc S5 => ?_
    exact h g3 s4 _ (hg1.trans (k2.trans k3)) (in12 _ hc (in23 acc ys rfl (isList_le (in13 oa ea (pa.1) (pa.2.2)) k3) (pairMap' hP))) S5
end Jr
end
-- KZ
section
namespace Jr
open PySem PySem.W PySem.Calls PySem.SeqAt PySem.Builtin PyProof.Rows PySem.Spec
variable {x : Wd} {g : Heap} {l : List Ent} {w : World} {A : Around} {E : Value → Shared → Prop} {s : Shared} {env : Env} {mg mb : Str → Option Value}


def SetG (g : Heap) (w : World) (a : Addr) (b : Bool) : Prop := ∃ o k, k < 1000 ∧ g.get? a = some o ∧ SetB PP w k b o
theorem SetG.le {g g' : Heap} {a : Addr} {b : Bool} (h : SetG g w a b) (k : Le g g') : SetG g' w a b := by obtain ⟨o, n, h1, h2, h3⟩ := h; exact (in23 o n h1 (k _ _ h2) h3)
theorem SetG.sh {a : Addr} {b : Bool} (h : SetG g w a b) : ShOk w g (.ref a) b where
  none := fun e => nomatch e
  run := fun _ {x g' l s A E Q} k S hq => by
    refine el23 h fun o n h1 h2 h3 => ?_; try clear h
    exact truthySet S (in12 o (S.keep _ _ (k _ _ h2)) h3) h1 hq
theorem shNone : ShOk w g .none false := ⟨fun _ => rfl, fun h => absurd rfl h⟩
theorem frSet {a : Addr} {k : Nat} {b : Bool} (S : St x g ((a, SetB PP w k b) :: l) s) (hk : k < 1000) : ∃ g', Le g g' ∧ SetG g' w a b ∧ St x g' l s := by
  refine el25 (S.freeze) fun g' o k1 e h _ S' => ?_
  exact (in13 g' k1 (in23 o k hk e h) S')

set_option maxHeartbeats 4000000 in
theorem lw_6 {st : Stmt} {sc : Scope} {c : Cs} {L : Addr} {m : Str → Option Value} {n : Nat} {so mk : Int} {t1 t2 : Tok} {Q : Flow → Shared → Prop}
    (hst : (bodyOf w 126)[6]? = some st) (hsc : scopeOf w 126 = some sc) (W : Wf w mg mb g) (S : St x g ((L, NsP m) :: (c.marks, CellP none) :: l) s) (hd : A.depth < 900) (hh : A.handled = none) (hz : CzI g c.size n) (hn : n ≤ 10) (hn2 : 2 ≤ n)
    (hso : m "sort" = some (.int so t1)) (hs0 : 0 ≤ so) (hs6 : so < 6) (hmk : m "mark" = some (.int mk t2)) (hm0 : 0 ≤ mk)
    (h : ∀ g' s' sh b, Le g g' → Cellz g' c.marks sh → ShOk w g' sh b → St x g' ((L, NsP m) :: l) s' → Q .next s') :
    wpAny (model PP w) A (exec st (lwEnv sc c L)) Q E s := by
  have e0 := @_root_.id ((KK w).lookup 126 = some _) rfl
  have e := @_root_.id ((bodyOf w 126)[6]? = some _) (by unfold bodyOf; rw [e0]; exact rfl)
  rw [e] at hst
  cases hst
  have e2 := @_root_.id (scopeOf w 126 = some _) (by unfold scopeOf; rw [e0])
  rw [e2] at hsc
  cases hsc
  clear e e0 e2
  refine el11 hz fun tz hz => ?_
  refine el22 (W.fn 121 rfl rfl) fun o121 fd121 h121 h121d => ?_
  have hmod : ∀ i : Int, 0 ≤ i → 0 ≤ i.fmod n ∧ i.fmod n < 100 := fun i hi => by rw [fmodP (by walk_at "om")]; exact ⟨Int.emod_nonneg _ (by walk_at "om"), by have := Int.emod_lt_of_pos i (b := n) (by walk_at "om"); walk_at "om"⟩
  refine wpAny_Assign_Name (subs (List_ (wpAny_items_cons (wpAny_Constant_none (wpAny_items_cons (callTy ?_))))))
  refine ldBW W S rfl rfl rfl rfl (by kernel_rfl) (by boot_fast) (in12 _ rfl (wpAny_items_nil (nwSet0 (prog := PP) S fun a1 s1 S1 => ?_)))
  refine el13 (frSet S1 (by decide)) fun g1 k1 G1 S2 => ?_
  refine wpAny_items_cons (setDisp ((W.le k1).K.keeps S2.keep) (by kernel_rfl) rfl rfl rfl (by decide) S2 fun a2 s2 S3 => ?_)
  refine cBytes S3 fun t3 s3 S4 => kds_fill_cons (addSet S4 (by decide) rfl fun _ s4 S5 => kds_fill_nil rfl ?_)
  refine el13 (frSet S5 (by decide)) fun g2 k2 G2 S6 => ?_
  have k02 := k1.trans k2
  refine wpAny_items_cons (setDisp ((W.le k02).K.keeps S6.keep) (by kernel_rfl) rfl rfl rfl (by decide) S6 fun a3 s5 S7 => ?_)
  refine callFn ?_
  refine ldGW (v := .ref 121) (W.le k02) S7 rfl rfl rfl (by kernel_rfl) (in33 121 o121 fd121 rfl h121d (wpAny_items_cons (wpAny_BinOp ?_)))
  refine ldL S7 rfl rfl (by k_mem) hmk (ldZ S7 (.inl rfl) rfl rfl (hz.le k02) (oMod S7 (by walk_at "om") fun t4 s6 S8 => wpAny_items_nil ⟨S8.keep _ _ (k02 _ _ h121), ?_⟩))
  refine law_name (W.le k02) S8 hd hh (hmod _ hm0).1 (hmod _ hm0).2 fun t5 s7 S9 => kds_fill_cons (addSet S9 (by decide) rfl fun _ s8 S10 => kds_fill_nil rfl ?_)
  refine el13 (frSet S10 (by decide)) fun g3 k3 G3 S11 => ?_
  have k03 := k02.trans k3
  refine wpAny_items_cons (setDisp ((W.le k03).K.keeps S11.keep) (by kernel_rfl) rfl rfl rfl (by decide) S11 fun a4 s9 S12 => ?_)
  refine callFn ?_
  refine ldGW (v := .ref 121) (W.le k03) S12 rfl rfl rfl (by kernel_rfl) (in33 121 o121 fd121 rfl h121d (wpAny_items_cons (wpAny_BinOp ?_)))
  refine ldL S12 rfl rfl (by k_mem) hmk (ldZ S12 (.inl rfl) rfl rfl (hz.le k03) (oMod S12 (by walk_at "om") fun t6 s10 S13 => wpAny_items_nil ⟨S13.keep _ _ (k03 _ _ h121), ?_⟩))
  refine law_name (W.le k03) S13 hd hh (hmod _ hm0).1 (hmod _ hm0).2 fun t7 s11 S14 => ?_
  refine callFn ?_
  refine ldGW (v := .ref 121) (W.le k03) S14 rfl rfl rfl (by kernel_rfl) (in33 121 o121 fd121 rfl h121d (wpAny_items_cons (wpAny_BinOp (wpAny_BinOp ?_))))
  have hdv : 0 ≤ mk.fdiv n := by rw [fdivP (by walk_at "om")]; exact Int.ediv_nonneg hm0 (by walk_at "om")
  refine ldL S14 rfl rfl (by k_mem) hmk (ldZ S14 (.inl rfl) rfl rfl (hz.le k03) (oDiv S14 (by walk_at "om") (by walk_at "om") fun t8 s12 S15 => ldZ S15 (.inl rfl) rfl rfl (hz.le k03) (oMod S15 (by walk_at "om") fun t9 s13 S16 => wpAny_items_nil ⟨S16.keep _ _ (k03 _ _ h121), ?_⟩)))
  refine law_name (W.le k03) S16 hd hh (hmod _ hdv).1 (hmod _ hdv).2 fun t10 s14 S17 => ?_
  refine kds_fill_cons (addSet S17 (by decide) rfl fun _ s15 S18 => kds_fill_cons (addSet S18 (by decide) rfl fun _ s16 S19 => kds_fill_nil rfl ?_))
  refine el13 (frSet S19 (by decide)) fun g4 k4 G4 S20 => ?_
  have k04 := k03.trans k4
  refine wpAny_items_cons (setDisp ((W.le k04).K.keeps S20.keep) (by kernel_rfl) rfl rfl rfl (by decide) S20 fun a5 s17 S21 => ?_)
  refine cBytes S21 fun t11 s18 S22 => kds_fill_cons (addSet S22 (by decide) rfl fun _ s19 S23 => kds_fill_nil rfl ?_)
  refine el13 (frSet S23 (by decide)) fun g5 k5 G5 S24 => ?_
  have k05 := k04.trans k5
  refine wpAny_items_nil (nwList S24 (by size_fits) fun la s20 S25 => ?_)
  refine ldL S25 rfl rfl (by k_mem) hso ?_
  obtain ⟨sh, b, hsh, hv⟩ : ∃ sh b, ShOk w g5 sh b ∧ ([Value.none, .ref a1, .ref a2, .ref a3, .ref a4, .ref a5] : List Value)[so.toNat]? = some sh := by
    have h6 : so = 0 ∨ so = 1 ∨ so = 2 ∨ so = 3 ∨ so = 4 ∨ so = 5 := by walk_at "om"
    rcases h6 with rfl | rfl | rfl | rfl | rfl | rfl
    · exact (in22 (.none) false shNone rfl)
    · exact (in22 (.ref a1) false ((G1.le ((k2.trans k3).trans (k4.trans k5))).sh) rfl)
    · exact (in22 (.ref a2) true ((G2.le (k3.trans (k4.trans k5))).sh) rfl)
    · exact (in22 (.ref a3) true ((G3.le (k4.trans k5)).sh) rfl)
    · exact (in22 (.ref a4) true ((G4.le k5).sh) rfl)
    · exact (in22 (.ref a5) true (G5.sh) rfl)
  refine idxL (S25.list (List.mem_cons_self ..)) hs0 (by walk_at "om") hv ?_
  refine setCell (S25.drop.perm (.swap ..)) rfl rfl rfl fun g6 s21 k6 hc S26 => ?_
  exact h g6 s21 sh b (k05.trans k6) hc (hsh.le k6) S26
end Jr
end
-- LA
section
namespace Jr
open PySem PySem.W PySem.Calls PySem.SeqAt PySem.Builtin PyProof.Rows PySem.Spec
variable {x : Wd} {g : Heap} {l : List Ent} {w : World} {A : Around} {E : Value → Shared → Prop} {s : Shared} {env : Env} {mg mb : Str → Option Value}


/-- what the lookups tell: the commits below i that are there -/
def prN (ps : List (List Int)) (gn : List Int) (i : Nat) : Nat → Option (List Nat) := fun k => if k < i ∧ gn.contains (k : Int) = false then some ((ps.getD k []).map Int.toNat) else none
def tmN (ts gn : List Int) (i : Nat) : Nat → Option Int := fun k => if k < i ∧ gn.contains (k : Int) = false then some (ts.getD k 0) else none
def DRel (V : Heap → Nat → Option (Value → Prop)) (g : Heap) (f : Nat → Option Value) : Prop := ∀ k, match V g k with
  | none => f k = none
  | some P => ∃ v, f k = some v ∧ P v
theorem DRel.none {V : Heap → Nat → Option (Value → Prop)} (h : ∀ k, V g k = .none) : DRel V g fun _ => .none := fun k => by rw [h k]
theorem DRel.skip {V V' : Heap → Nat → Option (Value → Prop)} {f : Nat → Option Value} (h : DRel V g f) (e : ∀ k, V' g k = V g k) : DRel V' g f := fun k => by rw [e]; exact h k
theorem DRel.set {V V' : Heap → Nat → Option (Value → Prop)} {f : Nat → Option Value} {i : Nat} {v : Value} {P : Value → Prop} (h : DRel V g f) (e : ∀ k, k ≠ i → V' g k = V g k) (ei : V' g i = some P) (hv : P v) : DRel V' g (fset f i v) := fun k => by
  unfold fset
  by_cases q : k = i
  · subst q; rw [ei]; exact (in12 v (by rw [if_pos rfl]) hv)
  · rw [e k q, if_neg q]; exact h k
theorem DRel.pr {pr : Nat → Option (List Nat)} {g' : Heap} {f : Nat → Option Value} (h : DRel (PrF pr) g f) (k : Le g g') : DRel (PrF pr) g' f := fun j => by
  have := h j
  unfold PrF at this ⊢
  cases e : pr j with
  | none => rw [e] at this; exact this
  | some ps =>
    rw [e] at this
    refine el12 this fun v h1 z257_ => ?_; try clear this; refine el23 z257_ fun a vs h2 h3 h4 => ?_; try clear z257_
    exact (in12 v h1 (in23 a vs h2 (isList_le h3 k) h4))
theorem DRel.tm {tm : Nat → Option Int} {g' : Heap} {f : Nat → Option Value} (h : DRel (TmF tm) g f) : DRel (TmF tm) g' f := h

theorem prN_succ {ps : List (List Int)} {gn : List Int} {i k : Nat} (h : k ≠ i) : prN ps gn (i + 1) k = prN ps gn i k := by
  unfold prN
  have : (k < i + 1) = (k < i) := by rw [eq_iff_iff]; walk_at "om"
  simp only [this]
theorem tmN_succ {ts gn : List Int} {i k : Nat} (h : k ≠ i) : tmN ts gn (i + 1) k = tmN ts gn i k := by
  unfold tmN
  have : (k < i + 1) = (k < i) := by rw [eq_iff_iff]; walk_at "om"
  simp only [this]

theorem lw_7 {st : Stmt} {sc : Scope} {c : Cs} {L : Addr} {m : Str → Option Value} {Q : Flow → Shared → Prop}
    (hst : (bodyOf w 126)[7]? = some st) (hsc : scopeOf w 126 = some sc) (W : Wf w mg mb g) (S : St x g ((L, NsP m) :: (c.table, CellP none) :: l) s)
    (h : ∀ g' s' d, Le g g' → d ≠ sysModules → Cellz g' c.table (.ref d) → St x g' ((L, NsP m) :: (d, DN PP w fun _ => none) :: l) s' → Q .next s') :
    wpAny (model PP w) A (exec st (lwEnv sc c L)) Q E s := by
  have e0 := @_root_.id ((KK w).lookup 126 = some _) rfl
  have e := @_root_.id ((bodyOf w 126)[7]? = some _) (by unfold bodyOf; rw [e0]; exact rfl)
  rw [e] at hst
  cases hst
  have e2 := @_root_.id (scopeOf w 126 = some _) (by unfold scopeOf; rw [e0])
  rw [e2] at hsc
  cases hsc
  clear e e0 e2
  refine wpAny_Assign_Name (dcNew S (by rw [W.K 126 _ rfl]; simp) fun d s1 hd S1 => ?_)
  have n3 : ∀ {y z v : Ent} {r : List Ent}, (y :: z :: v :: r).Perm (v :: y :: z :: r) := fun {y z v r} => ((List.Perm.swap ..).cons _).trans (.swap ..)
  refine setCell (S1.perm n3) rfl rfl rfl fun g2 s2 k2 hc S2 => ?_
  exact h g2 s2 d k2 hd hc (S2.perm (.swap ..))
theorem lw_8 {st : Stmt} {sc : Scope} {c : Cs} {L : Addr} {m : Str → Option Value} {Q : Flow → Shared → Prop}
    (hst : (bodyOf w 126)[8]? = some st) (hsc : scopeOf w 126 = some sc) (W : Wf w mg mb g) (S : St x g ((L, NsP m) :: (c.times, CellP none) :: l) s)
    (h : ∀ g' s' d, Le g g' → d ≠ sysModules → Cellz g' c.times (.ref d) → St x g' ((L, NsP m) :: (d, DN PP w fun _ => none) :: l) s' → Q .next s') :
    wpAny (model PP w) A (exec st (lwEnv sc c L)) Q E s := by
  have e0 := @_root_.id ((KK w).lookup 126 = some _) rfl
  have e := @_root_.id ((bodyOf w 126)[8]? = some _) (by unfold bodyOf; rw [e0]; exact rfl)
  rw [e] at hst
  cases hst
  have e2 := @_root_.id (scopeOf w 126 = some _) (by unfold scopeOf; rw [e0])
  rw [e2] at hsc
  cases hsc
  clear e e0 e2
  refine wpAny_Assign_Name (dcNew S (by rw [W.K 126 _ rfl]; simp) fun d s1 hd S1 => ?_)
  have n3 : ∀ {y z v : Ent} {r : List Ent}, (y :: z :: v :: r).Perm (v :: y :: z :: r) := fun {y z v r} => ((List.Perm.swap ..).cons _).trans (.swap ..)
  refine setCell (S1.perm n3) rfl rfl rfl fun g2 s2 k2 hc S2 => ?_
  exact h g2 s2 d k2 hd hc (S2.perm (.swap ..))

set_option maxHeartbeats 4000000 in
theorem lw_9 {st : Stmt} {sc : Scope} {c : Cs} {L td md : Addr} {m : Str → Option Value} {ps : List (List Int)} {ts gn : List Int} {Q : Flow → Shared → Prop}
    (hst : (bodyOf w 126)[9]? = some st) (hsc : scopeOf w 126 = some sc) (W : Wf w mg mb g) (S : St x g ((L, NsP m) :: (td, DN PP w fun _ => none) :: (md, DN PP w fun _ => none) :: l) s) (hd : A.depth < 900) (hu : A.units < 900) (hh : A.handled = none)
    (hp : CzLL g c.parents ps) (ht : CzL g c.stamps ts) (hz : CzI g c.size ps.length) (hg : CzL g c.gone gn) (hn : ps.length ≤ 10) (hG : Gr ps ts) (hct : Cellz g c.table (.ref td)) (hcm : Cellz g c.times (.ref md))
    (h : ∀ g' s' m' f1 f2, Le g g' → DRel (PrF (prN ps gn ps.length)) g' f1 → DRel (TmF (tmN ts gn ps.length)) g' f2 → St x g' ((L, NsP m') :: (td, DN PP w f1) :: (md, DN PP w f2) :: l) s' → Q .next s') :
    wpAny (model PP w) A (exec st (lwEnv sc c L)) Q (fun _ _ => False) s := by
  have e0 := @_root_.id ((KK w).lookup 126 = some _) rfl
  have e := @_root_.id ((bodyOf w 126)[9]? = some _) (by unfold bodyOf; rw [e0]; exact rfl)
  rw [e] at hst
  cases hst
  have e2 := @_root_.id (scopeOf w 126 = some _) (by unfold scopeOf; rw [e0])
  rw [e2] at hsc
  cases hsc
  clear e e0 e2
  refine el11 hz fun tz hz => ?_
  refine el22 (W.fn 121 rfl rfl) fun o121 fd121 h121 h121d => ?_
  refine wpAny_For (callTy ?_)
  refine ldBW W S rfl rfl rfl rfl (by kernel_rfl) (by boot_fast) ⟨_, rfl, wpAny_items_cons (ldZ S (.inl rfl) rfl rfl hz (wpAny_items_nil ?_))⟩
  refine callRange S fun r s1 S1 => iterRange S1 (by walk_at "om") (by walk_at "om") fun it s2 S2 I => ?_
  rw [Int.toNat_natCast] at S2 I
  refine forIt (fun i g' l' => ∃ m' f1 f2, l' = (L, NsP m') :: (td, DN PP w f1) :: (md, DN PP w f2) :: l ∧ DRel (PrF (prN ps gn i)) g' f1 ∧ DRel (TmF (tmN ts gn i)) g' f2) S2 I hh Pass.never
    (in33 m _ _ rfl (.none fun k => by simp [PrF, prN]) (.none fun k => by simp [TmF, tmN])) ?_ ?_
  · intro i v g1 _ s3 hi hJ6 hg1 hJ8 S3
    refine nameQ ?_; intro Qx
    refine el11 hJ6 fun tk e258_ => ?_; try clear hJ6; subst e258_
    refine el33 hJ8 fun m1 f1 f2 e259_ hf1 hf2 => ?_; try clear hJ8; subst e259_
    rw [Int.zero_add] at *
    have W1 := W.le hg1
    refine wpAny_assign_Name (stL S3 rfl rfl (.tail .head) fun s4 S4 => ?_)
    refine nameQ ?_; intro Qy
    refine el12 hg fun gv hgc hgl => ?_; try clear hg
    refine wpAny_execs_cons (wpAny_If (wpAny_isTrue_Compare1 ?_))
    refine ldL S4 rfl rfl (by k_mem) upd_same (ldZ S4 (.inl rfl) rfl rfl (hgc.le hg1) (notInI hgl (hg1.trans S4.keep) (wpAny_truthy_bool ?_)))
    cases hin : gn.contains (i : Int) with
    | true =>
      rw [if_neg (by decide)]
      refine wpAny_execs_nil (wpAny_execs_nil (in23 g1 _ (Le.refl _) S4 (in33 _ f1 f2 rfl (hf1.skip fun k => ?_) (hf2.skip fun k => ?_))))
      · unfold PrF
        by_cases e : k = i
        · have e1 : ∀ j, prN ps gn j k = none := fun j => by unfold prN; rw [if_neg fun h => by rw [e, hin] at h; cases h.2]
          rw [e1, e1]
        · rw [prN_succ e]
      · unfold TmF
        by_cases e : k = i
        · have e1 : ∀ j, tmN ts gn j k = none := fun j => by unfold tmN; rw [if_neg fun h => by rw [e, hin] at h; cases h.2]
          rw [e1, e1]
        · rw [tmN_succ e]
    | false =>
      rw [if_pos (by decide)]
      have hrow : ps[i]? = some (ps.getD i []) := by simp [show i < ps.length by walk_at "om"]
      refine el12 hp fun pv hpc hpl => ?_; try clear hp
      refine el12 ht fun tv htc htl => ?_; try clear ht
      refine wpAny_execs_cons (wpAny_Assign_Subscript (compL (x := x) (g := g1) (y := "parent") rfl rfl (by decide) rfl rfl hh (fun _ => rfl) (subs ?_)))
      refine ldZ S4 (.inl rfl) rfl rfl (hpc.le hg1) (ldL S4 rfl rfl (by k_mem) upd_same ?_)
      refine idxLL hpl (hg1.trans S4.keep) (by walk_at "om") (by walk_at "om") (by rw [Int.toNat_natCast]; exact hrow) fun rv hrv => ?_
      refine el23 hrv fun ra rvs e260_ hrl hrp => ?_; try clear hrv; subst e260_
      have hrl' : g1.IsList ra rvs.toArray := isList_le hrl hg1
      have hrlen := pairLen hrp
      have hr100 : (ps.getD i []).length ≤ 100 := hG.row _ (List.mem_of_getElem? hrow)
      have hlow : ∀ p ∈ ps.getD i [], 0 ≤ p ∧ p < 11 := fun p hp => by have := hG.low i _ p hrow hp; walk_at "om"
      refine itsList S4 hrl' fun i3 s5 hI => ?_
      refine (in44 g1 _ _ _ (Le.refl _) hI (by walk_at "om") (in24 (fun _ => true) (fun _ j v => NmV ((ps.getD i []).getD j 0).toNat v) (fun _ _ _ _ _ q => q) ?_ ?_ ?_))
      · rintro C j v g2 m2 r2 s6 hj hv hg2 hr hm2 S6
        exact wpAny_pure ⟨rfl, (in12 g2 (Le.refl _) S6)⟩
      · rintro C j v g2 m2 r2 s6 hj hv _ hg2 hr hm2 S6
        refine nameQ ?_; intro Qz
        refine el12 (pairGet' hrp hv) fun pp hpp z261_ => ?_; refine el11 z261_ fun u5 e262_ => ?_; try clear z261_; subst e262_
        have hb := hlow pp (List.mem_of_getElem? hpp)
        refine callFn ?_
        refine ldGW (v := .ref 121) (W1.le hg2) S6 rfl rfl rfl (by kernel_rfl) (in33 121 o121 fd121 rfl h121d (wpAny_items_cons (ldL S6 rfl rfl (by k_mem) hm2 (wpAny_items_nil ⟨S6.keep _ _ (hg2 _ _ (hg1 _ _ h121)), ?_⟩))))
        refine law_name (W1.le hg2) S6 (by show A.depth < 900; walk_at "om") hh hb.1 (by walk_at "om") fun t6 s7 S7 => ?_
        have e : (ps.getD i []).getD j 0 = pp := by rw [List.getD_eq_getElem?_getD, hpp]; rfl
        refine (in13 g2 (Le.refl _) S7 ?_)
        show NmV ((ps.getD i []).getD j 0).toNat _
        rw [e]
        refine ⟨by walk_at "om", ⟨t6, ?_⟩⟩
        rw [Int.toNat_of_nonneg hb.1]
      · intro acc g2 ys s6 hg2 hP S6
        refine el25 (S6.freeze) fun g3 oa k3 ea pa _ S7 => ?_
        have hg3 := hg2.trans k3
        have hys : Paired NmV ((ps.getD i []).map Int.toNat) ys := by
          have e : (List.range rvs.length).filter (fun _ => true) = List.range rvs.length := by simp
          rw [e] at hP
          have := pairMap' (f := fun j => ((ps.getD i []).getD j 0).toNat) hP
          have e2 : (List.range rvs.length).map (fun j => ((ps.getD i []).getD j 0).toNat) = (ps.getD i []).map Int.toNat := by
            have := congrArg (List.map Int.toNat) (map_getD_range (ps.getD i []) 0)
            rw [List.map_map] at this
            rw [← hrlen]; exact this
          rwa [e2] at this
        refine ldZ S7 (.inl rfl) rfl rfl (hct.le (hg1.trans hg3)) (callFn ?_)
        refine ldGW (v := .ref 121) (W1.le hg3) S7 rfl rfl rfl (by kernel_rfl) (in33 121 o121 fd121 rfl h121d (wpAny_items_cons (ldL S7 rfl rfl (by k_mem) upd_same (wpAny_items_nil ⟨S7.keep _ _ (hg3 _ _ (hg1 _ _ h121)), ?_⟩))))
        refine law_name (W1.le hg3) S7 hd hh (by walk_at "om") (by walk_at "om") fun t6 s7 S8 => ?_
        refine dcSet S8 (.tail (.tail .head)) ⟨by walk_at "om", t6, rfl⟩ fun s8 S9 => ?_
        refine wpAny_execs_cons (wpAny_Assign_Subscript (subs ?_))
        have htk : ts[i]? = some (ts.getD i 0) := by
          have := hG.len
          simp [show i < ts.length by walk_at "om"]
        refine ldZ S9 (.inl rfl) rfl rfl (htc.le (hg1.trans hg3)) (ldL S9 rfl rfl (by k_mem) upd_same ?_)
        refine idxI htl ((hg1.trans hg3).trans S9.keep) (by walk_at "om") (by walk_at "om") (by rw [Int.toNat_natCast]; exact htk) fun t7 => ?_
        refine ldZ S9 (.inl rfl) rfl rfl (hcm.le (hg1.trans hg3)) (callFn ?_)
        refine ldGW (v := .ref 121) (W1.le hg3) S9 rfl rfl rfl (by kernel_rfl) (in33 121 o121 fd121 rfl h121d (wpAny_items_cons (ldL S9 rfl rfl (by k_mem) upd_same (wpAny_items_nil ⟨S9.keep _ _ (hg3 _ _ (hg1 _ _ h121)), ?_⟩))))
        refine law_name (W1.le hg3) S9 hd hh (by walk_at "om") (by walk_at "om") fun t8 s9 S10 => ?_
        refine dcSet S10 (.tail (.tail (.tail .head))) ⟨by walk_at "om", t8, rfl⟩ fun s10 S11 => ?_
        refine wpAny_execs_nil (wpAny_execs_nil (in23 g3 _ hg3 S11 (in33 _ _ _ rfl ?_ ?_)))
        · refine (hf1.pr hg3).set (P := fun v => ∃ a vs, v = .ref a ∧ g3.IsList a vs.toArray ∧ Paired NmV ((ps.getD i []).map Int.toNat) vs) (fun k hk => ?_) ?_ (in23 acc ys rfl (in13 oa ea (pa.1) (pa.2.2)) hys)
          · unfold PrF; rw [prN_succ hk]
          · have e : prN ps gn (i + 1) i = some ((ps.getD i []).map Int.toNat) := by unfold prN; rw [if_pos ⟨by walk_at "om", hin⟩]
            unfold PrF; rw [e]; rfl
        · refine (DRel.tm (g' := g3) hf2).set (P := TmV (ts.getD i 0)) (fun k hk => ?_) ?_ ⟨t7, rfl⟩
          · unfold TmF; rw [tmN_succ hk]
          · have e : tmN ts gn (i + 1) i = some (ts.getD i 0) := by unfold tmN; rw [if_pos ⟨by walk_at "om", hin⟩]
            unfold TmF; rw [e]; rfl
  · intro g1 _ s3 hg1 hR4 S3
    refine el33 hR4 fun m1 f1 f2 e263_ hf1 hf2 => ?_; try clear hR4; subst e263_
    exact h g1 s3 m1 f1 f2 hg1 hf1 hf2 S3
end Jr
end
-- LB
section
namespace Jr
open PySem PySem.W PySem.Calls PySem.SeqAt PySem.Builtin PyProof.Rows PySem.Spec
variable {x : Wd} {g : Heap} {l : List Ent} {w : World} {A : Around} {E : Value → Shared → Prop} {s : Shared} {env : Env} {mg mb : Str → Option Value}


/-- the edges that count -/
def rowE (ps : List (List Int)) (gn : List Int) (k : Nat) : List Int := (ps.getD k []).filter fun p => !gn.contains (k : Int) && !gn.contains p
def psE (ps : List (List Int)) (gn : List Int) : List (List Int) := (List.range ps.length).map (rowE ps gn)
theorem psE_len {ps : List (List Int)} {gn : List Int} : (psE ps gn).length = ps.length := by simp [psE]
theorem psE_get {ps : List (List Int)} {gn : List Int} {k : Nat} {row : List Int} (h : (psE ps gn)[k]? = some row) : k < ps.length ∧ row = rowE ps gn k := by
  unfold psE at h
  rw [List.getElem?_map] at h
  cases e : (List.range ps.length)[k]? with
  | none => rw [e] at h; cases h
  | some j =>
    rw [e] at h
    refine el11 (List.getElem?_eq_some_iff.mp e) fun h1 h2 => ?_
    simp at h1 h2
    subst h2
    exact ⟨h1, (Option.some.inj h).symm⟩

set_option maxHeartbeats 4000000 in
theorem lw_10 {st : Stmt} {sc : Scope} {c : Cs} {L : Addr} {m : Str → Option Value} {ps : List (List Int)} {ts gn : List Int} {Q : Flow → Shared → Prop}
    (hst : (bodyOf w 126)[10]? = some st) (hsc : scopeOf w 126 = some sc) (W : Wf w mg mb g) (S : St x g ((L, NsP m) :: (c.forebears, CellP none) :: l) s) (hd : A.depth < 890) (hu : A.units < 800) (hh : A.handled = none)
    (hp : CzLL g c.parents ps) (hz : CzI g c.size ps.length) (hg : CzL g c.gone gn) (hn : ps.length ≤ 10) (hG : Gr ps ts)
    (h : ∀ g' s', Le g g' → CzLL g' c.forebears (foreN (psE ps gn) ps.length) → St x g' ((L, NsP m) :: l) s' → Q .next s') :
    wpAny (model PP w) A (exec st (lwEnv sc c L)) Q E s := by
  have e0 := @_root_.id ((KK w).lookup 126 = some _) rfl
  have e := @_root_.id ((bodyOf w 126)[10]? = some _) (by unfold bodyOf; rw [e0]; exact rfl)
  rw [e] at hst
  cases hst
  have e2 := @_root_.id (scopeOf w 126 = some _) (by unfold scopeOf; rw [e0])
  rw [e2] at hsc
  cases hsc
  clear e e0 e2
  refine el11 hz fun tz hz => ?_
  refine el12 hp fun pv hpc hpl => ?_; try clear hp
  refine el12 hg fun gv hgc hgl => ?_; try clear hg
  refine el22 (W.fn 114 rfl rfl) fun o114 fd114 h114 h114d => ?_
  refine wpAny_Assign_Name (callFn ?_)
  refine ldGW (v := .ref 114) W S rfl rfl rfl (by kernel_rfl) (in33 114 o114 fd114 rfl h114d (wpAny_items_cons ?_))
  refine compC (x := x) (g := g) (y := "k") rfl rfl (by decide) rfl (fun _ _ => rfl) hh (fun _ => rfl) ?_
  refine callTy ?_
  refine ldBW W S rfl rfl rfl rfl (by kernel_rfl) (by boot_fast) ⟨_, rfl, wpAny_items_cons (ldZ S (.inl rfl) rfl rfl hz (wpAny_items_nil ?_))⟩
  refine callRange S fun r s1 S1 => itsRange S1 (by walk_at "om") (by walk_at "om") fun ii s2 hI => ?_
  rw [Int.toNat_natCast] at hI
  refine (in44 g _ _ _ (Le.refl _) hI (by walk_at "om") (in24 (fun _ => true) (fun g k v => IntL g (rowE ps gn k) v) (fun _ _ _ _ k q => q.le k) ?_ ?_ ?_))
  · rintro C b i v g1 m1 r1 s3 hi hv hg1 hr S3
    exact wpAny_pure ⟨rfl, (in12 g1 (Le.refl _) S3)⟩
  · intro C b i v g1 m1 r1 s3 hi hR9 _ hg1 hr S3
    refine el11 hR9 fun t1 e264_ => ?_; try clear hR9; subst e264_
    rw [Int.zero_add] at *
    have hrow : ps[i]? = some (ps.getD i []) := by simp [show i < ps.length by walk_at "om"]
    have hr100 : (ps.getD i []).length ≤ 100 := hG.row _ (List.mem_of_getElem? hrow)
    refine compL (x := x) (g := g1) (y := "parent") rfl rfl (by decide) rfl rfl hh (fun _ => rfl) (subs ?_)
    refine ldZ S3 (.inl rfl) rfl rfl (hpc.le hg1) (ldC S3 rfl rfl rfl (by k_mem) ?_)
    refine idxLL hpl (hg1.trans S3.keep) (by walk_at "om") (by walk_at "om") (by rw [Int.toNat_natCast]; exact hrow) fun rv hrv => ?_
    refine el23 hrv fun ra rvs e265_ hrl hrp => ?_; try clear hrv; subst e265_
    have hrlen := pairLen hrp
    refine itsList S3 (isList_le hrl hg1) fun i3 s5 hI => ?_
    refine (in44 g1 _ _ _ (Le.refl _) hI (by walk_at "om") (in24 (fun j => !gn.contains (i : Int) && !gn.contains ((ps.getD i []).getD j 0)) (fun _ j v => IntV ((ps.getD i []).getD j 0) v) (fun _ _ _ _ _ q => q) ?_ ?_ ?_))
    · rintro C2 j v g2 m2 r2 s6 hj hv hg2 hr2 hm2 S6
      refine el12 (pairGet' hrp hv) fun pp hpp z266_ => ?_; refine el11 z266_ fun u5 e267_ => ?_; try clear z266_; subst e267_
      have e : (ps.getD i []).getD j 0 = pp := by rw [List.getD_eq_getElem?_getD, hpp]; rfl
      refine wpAny_tests_one (wpAny_isTrue_BoolOp (wpAny_allTrue_And_cons (wpAny_isTrue_Compare1 ?_)))
      refine ldC S6 rfl rfl rfl (.tail _ (hr2 _ (by k_mem))) (ldZ S6 (.inl rfl) rfl rfl (hgc.le (hg1.trans hg2)) (notInI hgl ((hg1.trans hg2).trans S6.keep) (wpAny_truthy_bool ?_)))
      cases hin : gn.contains (i : Int) with
      | true =>
        rw [if_neg (by decide)]
        exact ⟨by simp, (in12 g2 (Le.refl _) S6)⟩
      | false =>
        rw [if_pos (by decide)]
        refine wpAny_allTrue_And_cons (wpAny_isTrue_Compare1 ?_)
        refine ldL S6 rfl rfl (by k_mem) hm2 (ldZ S6 (.inl rfl) rfl rfl (hgc.le (hg1.trans hg2)) (notInI hgl ((hg1.trans hg2).trans S6.keep) (wpAny_truthy_bool ?_)))
        cases hin2 : gn.contains pp with
        | true =>
          rw [if_neg (by decide)]
          refine ⟨?_, (in12 g2 (Le.refl _) S6)⟩
          show false = (!false && !gn.contains ((ps.getD i []).getD j 0))
          rw [e, hin2]; rfl
        | false =>
          rw [if_pos (by decide)]
          refine wpAny_allTrue_And_nil ⟨?_, (in12 g2 (Le.refl _) S6)⟩
          show true = (!false && !gn.contains ((ps.getD i []).getD j 0))
          rw [e, hin2]; rfl
    · rintro C2 j v g2 m2 r2 s6 hj hv _ hg2 hr2 hm2 S6
      refine el12 (pairGet' hrp hv) fun pp hpp z268_ => ?_; refine el11 z268_ fun u5 e269_ => ?_; try clear z268_; subst e269_
      have e : (ps.getD i []).getD j 0 = pp := by rw [List.getD_eq_getElem?_getD, hpp]; rfl
      refine ldL S6 rfl rfl (by k_mem) hm2 (in13 g2 (Le.refl _) S6 ?_)
      show IntV ((ps.getD i []).getD j 0) _
      rw [e]; exact ⟨u5, rfl⟩
    · intro acc g2 ys s6 hg2 hP S6
      refine el25 (S6.freeze) fun g3 oa k3 ea pa _ S7 => ?_
      refine (in13 g3 (hg2.trans k3) S7 (in23 acc ys rfl (in13 oa ea (pa.1) (pa.2.2)) ?_))
      have := pairMap' (f := fun j => (ps.getD i []).getD j 0) hP
      rw [← hrlen] at this
      rwa [filter_range (ps.getD i []) 0 (fun p => !gn.contains (i : Int) && !gn.contains p)] at this
  · intro acc g1 ys s3 hg1 hP S3
    refine el25 (S3.freeze) fun g2 oa k2 ea pa _ S4 => ?_
    have k02 := hg1.trans k2
    refine wpAny_items_nil ⟨S4.keep _ _ (k02 _ _ h114), ?_⟩
    have hLL : IntLL g2 (psE ps gn) (.ref acc) := by
      have e : (List.range ps.length).filter (fun _ => true) = List.range ps.length := by simp
      rw [e] at hP
      exact (in23 acc ys rfl (in13 oa ea (pa.1) (pa.2.2)) (pairMap' (pairMono (fun _ _ q => q.le k2) hP)))
    refine law_forebears (W.le k02) S4 (by walk_at "om") (by walk_at "om") hh hLL (by rw [psE_len]; walk_at "om") (fun row hr => ?_) (fun k row p hk hp => ?_) fun v g3 s4 k3 S5 hv => ?_
    · refine el11 (List.mem_iff_getElem?.mp hr) fun k hk => ?_
      refine el02 (psE_get hk) fun h1 e270_ => ?_; subst e270_
      have hrow : ps[k]? = some (ps.getD k []) := by simp [h1]
      exact Nat.le_trans (List.length_filter_le _ _) (hG.row _ (List.mem_of_getElem? hrow))
    · refine el02 (psE_get hk) fun h1 e271_ => ?_; subst e271_
      have hrow : ps[k]? = some (ps.getD k []) := by simp [h1]
      have := hG.low k _ p hrow (List.mem_filter.mp hp).1
      exact ⟨this.1, this.2.1⟩
    · rw [psE_len] at hv
      refine setCell (S5.perm (.swap ..)) rfl rfl rfl fun g4 s5 k4 hc S6 => ?_
      exact h g4 s5 (k02.trans (k3.trans k4)) (in12 v hc (hv.le k4)) S6
end Jr
end
-- LC
section
namespace Jr
open PySem PySem.W PySem.Calls PySem.SeqAt PySem.Builtin PyProof.Rows PySem.Spec
variable {x : Wd} {g : Heap} {l : List Ent} {w : World} {A : Around} {E : Value → Shared → Prop} {s : Shared} {env : Env} {mg mb : Str → Option Value}


set_option maxHeartbeats 4000000 in
theorem lw_11 {st : Stmt} {sc : Scope} {c : Cs} {L : Addr} {m : Str → Option Value} {n : Nat} {pk : Int} {Q : Flow → Shared → Prop}
    (hst : (bodyOf w 126)[11]? = some st) (hsc : scopeOf w 126 = some sc) (W : Wf w mg mb g) (S : St x g ((L, NsP m) :: (c.first, CellP none) :: l) s) (hh : A.handled = none) (hz : CzI g c.size n) (hn : n ≤ 10) (hn2 : 2 ≤ n) (hp : CzI g c.pick pk)
    (h : ∀ g' s' fi, Le g g' → fi < n → CzI g' c.first (fi : Nat) → St x g' ((L, NsP m) :: l) s' → Q .next s') :
    wpAny (model PP w) A (exec st (lwEnv sc c L)) Q E s := by
  have e0 := @_root_.id ((KK w).lookup 126 = some _) rfl
  have e := @_root_.id ((bodyOf w 126)[11]? = some _) (by unfold bodyOf; rw [e0]; exact rfl)
  rw [e] at hst
  cases hst
  have e2 := @_root_.id (scopeOf w 126 = some _) (by unfold scopeOf; rw [e0])
  rw [e2] at hsc
  cases hsc
  clear e e0 e2
  refine el11 hz fun tz hz => ?_
  refine el11 hp fun tp hp => ?_
  refine wpAny_Assign_Name (wpAny_BinOp (wpAny_BinOp (ldZ S (.inl rfl) rfl rfl hz (cInt S fun t1 s1 S1 => oSub S1 fun t2 s2 S2 => wpAny_BinOp ?_))))
  refine ldZ S2 (.inl rfl) rfl rfl hp (callBi ?_)
  refine ldBW W S2 rfl rfl rfl rfl (by kernel_rfl) (by boot_fast) ⟨_, rfl, wpAny_items_cons (ldZ S2 (.inl rfl) rfl rfl hz (wpAny_items_cons (cInt S2 fun t3 s3 S3 => wpAny_items_nil ?_)))⟩
  refine min2 S3 hh fun t4 s4 S4 => ?_
  have hmin : 0 < (if (7 : Int) < n then (7 : Int) else (n : Int)) ∧ (if (7 : Int) < n then (7 : Int) else (n : Int)) ≤ n := by split <;> walk_at "om"
  refine oMod S4 (by walk_at "om") fun t5 s5 S5 => oSub S5 fun t6 s6 S6 => ?_
  have hm1 := Int.emod_nonneg pk (b := if (7 : Int) < n then (7 : Int) else (n : Int)) (by walk_at "om")
  have hm2 := Int.emod_lt_of_pos pk (b := if (7 : Int) < n then (7 : Int) else (n : Int)) (by walk_at "om")
  rw [fmodP hmin.1]
  refine setCell (S6.perm (.swap ..)) rfl rfl rfl fun g2 s7 k2 hc S7 => ?_
  refine h g2 s7 (((n : Int) - 1 - pk % (if (7 : Int) < n then (7 : Int) else (n : Int))).toNat) k2 (by walk_at "om") ⟨t6, ?_⟩ S7
  rw [Int.toNat_of_nonneg (by walk_at "om")]; exact hc

set_option maxHeartbeats 4000000 in
theorem lw_12 {st : Stmt} {sc : Scope} {c : Cs} {L : Addr} {m : Str → Option Value} {n : Nat} {pk : Int} {Q : Flow → Shared → Prop}
    (hst : (bodyOf w 126)[12]? = some st) (hsc : scopeOf w 126 = some sc) (W : Wf w mg mb g) (S : St x g ((L, NsP m) :: (c.others, CellP none) :: l) s) (hh : A.handled = none) (hz : CzI g c.size n) (hn : n ≤ 10) (hn2 : 2 ≤ n) (hp : CzI g c.pick pk)
    (h : ∀ g' s' (os : List Nat), Le g g' → os.length ≤ 3 → (∀ o ∈ os, o < n) → CzL g' c.others (os.map Int.ofNat) → St x g' ((L, NsP m) :: l) s' → Q .next s') :
    wpAny (model PP w) A (exec st (lwEnv sc c L)) Q E s := by
  have e0 := @_root_.id ((KK w).lookup 126 = some _) rfl
  have e := @_root_.id ((bodyOf w 126)[12]? = some _) (by unfold bodyOf; rw [e0]; exact rfl)
  rw [e] at hst
  cases hst
  have e2 := @_root_.id (scopeOf w 126 = some _) (by unfold scopeOf; rw [e0])
  rw [e2] at hsc
  cases hsc
  clear e e0 e2
  refine el11 hz fun tz hz => ?_
  refine el11 hp fun tp hp => ?_
  refine wpAny_Assign_Name (compL (x := x) (g := g) (y := "j") rfl rfl (by decide) rfl rfl hh (fun _ => rfl) ?_)
  refine callTy ?_
  refine ldBW W S rfl rfl rfl rfl (by kernel_rfl) (by boot_fast) (in12 _ rfl (wpAny_items_cons (wpAny_BinOp (wpAny_BinOp ?_))))
  refine ldZ S (.inl rfl) rfl rfl hp (wpAny_BinOp (cInt S fun t1 s1 S1 => cInt S1 fun t2 s2 S2 => oPow S2 (by decide) (by decide) (by decide) fun t3 s3 S3 => ?_))
  refine oDiv S3 (by decide) (by decide) fun t4 s4 S4 => cInt S4 fun t5 s5 S5 => oMod S5 (by decide) fun t6 s6 S6 => wpAny_items_nil ?_
  have hq : 0 ≤ (pk.fdiv (7 ^ (4 : Int).toNat)).fmod 4 ∧ (pk.fdiv (7 ^ (4 : Int).toNat)).fmod 4 < 4 := by rw [fmodP (b := 4) (by decide)]; walk_at "om"
  generalize (pk.fdiv (7 ^ (4 : Int).toNat)).fmod 4 = q at *
  refine callRange S6 fun r s1 S1 => itsRange S1 (by walk_at "om") (by walk_at "om") fun ii s2 hI => ?_
  refine (in44 g _ _ _ (Le.refl _) hI (by walk_at "om") (in24 (fun _ => true) (fun g j v => IntV (((((n : Int) - 1 - pk.fdiv (7 ^ (1 + j))).fmod n).toNat : Nat) : Int) v) (fun _ _ _ _ _ q => q) ?_ ?_ ?_))
  · rintro C i v g1 m1 r1 s3 hi hv hg1 hr hm1 S3
    exact wpAny_pure ⟨rfl, (in12 g1 (Le.refl _) S3)⟩
  · intro C i v g1 m1 r1 s3 hi hR8 _ hg1 hr hm1 S3
    refine el11 hR8 fun t7 e277_ => ?_; try clear hR8; subst e277_
    refine nameQ ?_; intro Qz
    rw [Int.zero_add] at *
    refine wpAny_BinOp (wpAny_BinOp (wpAny_BinOp (ldZ S3 (.inl rfl) rfl rfl (hz.le hg1) (cInt S3 fun t8 s4 S4 => oSub S4 fun t9 s5 S5 => wpAny_BinOp ?_))))
    refine ldZ S5 (.inl rfl) rfl rfl (hp.le hg1) (wpAny_BinOp (cInt S5 fun t10 s6 S6 => wpAny_BinOp (cInt S6 fun t11 s7 S7 => ldL S7 rfl rfl (by k_mem) hm1 (oAdd S7 fun t12 s8 S8 => ?_))))
    have h7 := pow7_lt (1 + i) (by walk_at "om")
    refine oPow S8 (by walk_at "om") (by walk_at "om") (by decide) fun t13 s9 S9 => ?_
    rw [show ((1 : Int) + (i : Int)).toNat = 1 + i by walk_at "om"]
    refine oDiv S9 h7.2 h7.1 fun t14 s10 S10 => oSub S10 fun t15 s11 S11 => ldZ S11 (.inl rfl) rfl rfl (hz.le hg1) (oMod S11 (by walk_at "om") fun t16 s12 S12 => ?_)
    refine (in13 g1 (Le.refl _) S12 ⟨t16, ?_⟩)
    rw [Int.toNat_of_nonneg]
    rw [fmodP (by walk_at "om")]; exact Int.emod_nonneg _ (by walk_at "om")
  · intro acc g1 ys s3 hg1 hP S3
    refine el25 (S3.freeze) fun g2 oa k2 ea pa _ S4 => ?_
    refine setCell (S4.perm (.swap ..)) rfl rfl rfl fun g3 s4 k3 hc S5 => ?_
    have e : (List.range q.toNat).filter (fun _ => true) = List.range q.toNat := by simp
    rw [e] at hP
    refine h g3 s4 ((List.range q.toNat).map fun j => (((n : Int) - 1 - pk.fdiv (7 ^ (1 + j))).fmod n).toNat) (hg1.trans (k2.trans k3)) (by simp; walk_at "om") ?_ (in12 _ hc (in23 acc ys rfl (isList_le (in13 oa ea (pa.1) (pa.2.2)) k3) ?_)) S5
    · intro o ho
      refine el12 (List.mem_map.mp ho) fun j _ e278_ => ?_; subst e278_
      have h1 := Int.emod_nonneg ((n : Int) - 1 - pk.fdiv (7 ^ (1 + j))) (b := n) (by walk_at "om")
      have h2 := Int.emod_lt_of_pos ((n : Int) - 1 - pk.fdiv (7 ^ (1 + j))) (b := n) (by walk_at "om")
      rw [fmodP (by walk_at "om")]; walk_at "om"
    · rw [List.map_map]
      exact pairMap' hP
end Jr
end
-- LD
section
namespace Jr
open PySem PySem.W PySem.Calls PySem.SeqAt PySem.Builtin PyProof.Rows PySem.Spec
variable {x : Wd} {g : Heap} {l : List Ent} {w : World} {A : Around} {E : Value → Shared → Prop} {s : Shared} {env : Env} {mg mb : Str → Option Value}


def Qt : Int → Int → Str := fun _ _ => "law.<locals>.told.<locals>.<lambda>"
/-- told, as it was made -/
structure Told (w : World) (g : Heap) (f P' : Addr) (c : Cs) : Prop where
  ex : ∃ nm' prm bd sc doc pm c' ctv, defAt (bodyOf w 126) 13 = some (nm', prm, bd, sc) ∧ g.get? f = some (fnMade nm' "law.<locals>.told" prm bd sc [("times", c.times), ("table", c.table), ("marks", c.marks)] doc pm c' ctv) ∧ g.CodeRec (.ref c') "law.<locals>.told" ∧ CodeHd g c' P'
theorem Told.le {g g' : Heap} {f P' : Addr} {c : Cs} (h : Told w g f P' c) (k : Le g g') : Told w g' f P' c := by
  refine el71 (h.ex) fun a1 a2 a3 a4 a5 a6 a7 z272_ => ?_; refine el14 z272_ fun a8 h1 h2 h3 h4 => ?_; try clear z272_
  exact ⟨a1, a2, a3, a4, a5, a6, a7, a8, h1, k _ _ h2, codeRec_le h3 k, h4.keeps k⟩

set_option maxHeartbeats 4000000 in
theorem lw_13 {st : Stmt} {sc : Scope} {c : Cs} {L : Addr} {m : Str → Option Value} {Q : Flow → Shared → Prop}
    (hst : (bodyOf w 126)[13]? = some st) (hsc : scopeOf w 126 = some sc) (W : Wf w mg mb g) (S : St x g ((L, NsP m) :: (c.told, CellP none) :: (123, (· = tabObj #[])) :: l) s)
    (h : ∀ g' s' f P' pt', Le g g' → Told w g' f P' c → Cellz g' c.told (.ref f) → St x g' ((L, NsP m) :: (P', (· = tabObj #[])) :: (123, (· = tabObj pt')) :: l) s' → Q .next s') :
    wpAny (model PP w) A (exec st (lwEnv sc c L)) Q E s := by
  have e0 := @_root_.id ((KK w).lookup 126 = some _) rfl
  have hdef : ∃ nm' prm bd' sc', defAt (bodyOf w 126) 13 = some (nm', prm, bd', sc') ∧ st = .FunctionDef nm' prm bd' [] none [] sc' none nm' ⟨155, 4, 165, 28⟩ ∧ nm' = "told" ∧ prm.defaults = [] ∧ prm.kw_defaults = [] ∧ (∀ env, annTrees prm none env = []) ∧
      closureFor sc' (lwEnv sc c L) = pure [(("times" : Str), c.times), (("table" : Str), c.table), (("marks" : Str), c.marks)] := by
    have e := @_root_.id ((bodyOf w 126)[13]? = some _) (by unfold bodyOf; rw [e0]; exact rfl)
    rw [e] at hst
    cases hst
    exact ⟨_, _, _, _, by unfold bodyOf; rw [e0]; exact rfl, rfl, rfl, rfl, rfl, fun _ => rfl, rfl⟩
  refine el47 hdef fun nm' prm bd' sc' hdA e273_ e274_ hp1 hp2 hp3 hp4 => ?_; try clear hdef; subst e273_; subst e274_
  have hk : (lwEnv sc c L).kindOf "told" = some .cell ∧ (lwEnv sc c L).scope.kind = .function ∧ qualnameIn (lwEnv sc c L) "told" "told" = "law.<locals>.told" := by
    have e2 := @_root_.id (scopeOf w 126 = some _) (by unfold scopeOf; rw [e0])
    rw [e2] at hsc
    cases hsc
    exact ⟨rfl, rfl, rfl⟩
  have n3 : ∀ {y z v : Ent} {r : List Ent}, (y :: z :: v :: r).Perm (v :: y :: z :: r) := fun {y z v r} => ((List.Perm.swap ..).cons _).trans (.swap ..)
  refine nestDef_K hp1 hp2 (hp3 _) ?_
  refine mkDefT (P := 123) (c := 125) W (S.perm n3) (codeHd_of_K W.K (by kernel_rfl)) hp4 rfl rfl fun g1 f c' P' ctv doc ps' s1 k1 S1 hrec hC hf => ?_
  rw [hk.2.2] at hrec hf
  -- (P', ..) :: (123, ..) :: (L, ..) :: (told, ..) :: l
  have S2 : St x g1 ((c.told, CellP none) :: (L, NsP m) :: (P', (· = tabObj #[])) :: (123, (· = tabObj ps')) :: l) s1 :=
    S1.perm (((n3.trans ((List.Perm.swap ..).cons _)).cons _).trans (.swap ..) |>.trans ((List.Perm.swap ..).cons _))
  refine setCell S2 hk.1 hk.2.1 rfl fun g2 s2 k2 hc S4 => ?_
  exact h g2 s2 f P' ps' (k1.trans k2) ⟨_, _, _, _, doc, _, c', ctv, hdA, k2 _ _ hf, codeRec_le hrec k2, hC.keeps k2⟩ hc S4
end Jr
end
-- LE
section
namespace Jr
open PySem PySem.W PySem.Calls PySem.SeqAt PySem.Builtin PyProof.Rows PySem.Spec
variable {x : Wd} {g : Heap} {l : List Ent} {w : World} {A : Around} {E : Value → Shared → Prop} {s : Shared} {env : Env} {mg mb : Str → Option Value}


def Tab (w : World) (g : Heap) (c : Addr) (V : Heap → Nat → Option (Value → Prop)) : Prop := ∃ d f, Cellz g c (.ref d) ∧ d ≠ sysModules ∧ (∃ o, g.get? d = some o ∧ DN PP w f o) ∧ DRel V g f
theorem Tab.pr {g g' : Heap} {c : Addr} {pr : Nat → Option (List Nat)} (h : Tab w g c (PrF pr)) (k : Le g g') : Tab w g' c (PrF pr) := by obtain ⟨d, f, h1, h2, ⟨o, h3, h4⟩, h5⟩ := h; exact (in24 d f (h1.le k) h2 (in12 o (k _ _ h3) h4) (h5.pr k))
theorem Tab.tm {g g' : Heap} {c : Addr} {tm : Nat → Option Int} (h : Tab w g c (TmF tm)) (k : Le g g') : Tab w g' c (TmF tm) := by obtain ⟨d, f, h1, h2, ⟨o, h3, h4⟩, h5⟩ := h; exact (in24 d f (h1.le k) h2 (in12 o (k _ _ h3) h4) h5)

/-- what told leans on -/
structure TGiv (w : World) (mg mb : Str → Option Value) (g : Heap) (c : Cs) (f P' : Addr) (sh : Value) (b : Bool) (pr : Nat → Option (List Nat)) (tm : Nat → Option Int) (Dom : Nat → Prop) (Qn : Int → Int → Str) : Prop where
  W : Wf w mg mb g
  told : Told w g f P' c
  marks : Cellz g c.marks sh
  sh : ShOk w g sh b
  table : Tab w g c.table (PrF pr)
  times : Tab w g c.times (TmF tm)
  pt : PT pr tm
  q1 : Qn 30 4 = "_find_lcas.<locals>._has_candidates"
  q2 : Qn 89 21 = "_find_lcas.<locals>.<lambda>"
  d2 : ∀ k ps, Dom k → pr k = some ps → ∀ r ∈ ps, Dom r
  d3 : ∀ k, Dom k → k < 11
theorem TGiv.le {g g' : Heap} {c : Cs} {f P' : Addr} {sh : Value} {b : Bool} {pr : Nat → Option (List Nat)} {tm : Nat → Option Int} {Dom : Nat → Prop} {Qn : Int → Int → Str} (h : TGiv w mg mb g c f P' sh b pr tm Dom Qn) (k : Le g g') : TGiv w mg mb g' c f P' sh b pr tm Dom Qn :=
  ⟨h.W.le k, h.told.le k, h.marks.le k, h.sh.le k, h.table.pr k, h.times.tm k, h.pt, h.q1, h.q2, h.d2, h.d3⟩

theorem mkLk {P' c' cb : Addr} {pt : Array Value} {y : Str} {pa p1 p2 p3 pos : Pos} {V : Heap → Nat → Option (Value → Prop)} {Q : Value → Shared → Prop}
    (W : Wf w mg mb g) (S : St x g ((P', (· = tabObj pt)) :: l) s) (T : TabOk g Qt pt) (C : CodeHd g c' P') (hy : y = "table" ∨ y = "times") (hcl : closureFor (lamS y) env = pure [(y, cb)]) (hge : env.globals = mainGlobals) (hcode : env.code = .ref c')
    (hqual : env.qual ++ "<lambda>" = ("law.<locals>.told.<locals>.<lambda>" : Str)) (hd : ∃ d f, Cellz g cb (.ref d) ∧ d ≠ sysModules ∧ (∃ o, g.get? d = some o ∧ DN PP w f o) ∧ (∀ k g', f k = none → V g' k = none) ∧ ∀ k v g', f k = some v → Le g g' → ∃ P, V g' k = some P ∧ P v)
    (h : ∀ g' fa pt' s', Le g g' → St x g' ((P', (· = tabObj pt')) :: l) s' → TabOk g' Qt pt' → LkF w g' fa V → Q (.ref fa) s') :
    wpAny (model PP w) A (eval (.Lambda (lamP pa) (lamB y p1 p2 p3) (lamS y) pos) env) Q E s := by
  refine el25 hd fun d f h1 h2 z275_ h5 h6 => ?_; try clear hd; refine el12 z275_ fun o h3 h4 => ?_; try clear z275_
  refine kla_eval rfl (mkLam (P := P') (c := c') (Qn := Qt) W S C T hcl hge hcode hqual.symm fun g1 fa c2 ctv pt1 s1 k1 S1 T1 hrec hf => ?_)
  refine h g1 fa pt1 s1 k1 S1 T1 ?_
  exact lkOf hf hrec (W.le k1).lim hy (h1.le k1) ⟨o, k1 _ _ h3, h4⟩ h2 h5 fun k v g' hv k' => h6 k v g' hv (k1.trans k')
theorem Tab.use_pr {c : Addr} {pr : Nat → Option (List Nat)} (h : Tab w g c (PrF pr)) : ∃ d f, Cellz g c (.ref d) ∧ d ≠ sysModules ∧ (∃ o, g.get? d = some o ∧ DN PP w f o) ∧ (∀ k g', f k = none → PrF pr g' k = none) ∧ ∀ k v g', f k = some v → Le g g' → ∃ P, PrF pr g' k = some P ∧ P v := by
  obtain ⟨d, f, h1, h2, h3, h4⟩ := h
  refine (in25 d f h1 h2 h3 (fun k g' hk => ?_) (fun k v g' hv hg => ?_))
  · have := h4 k
    unfold PrF at this ⊢
    cases e : pr k with
    | none => rfl
    | some ps => rw [e] at this; obtain ⟨v, h5, _⟩ := this; rw [hk] at h5; cases h5
  · have := h4 k
    unfold PrF at this ⊢
    cases e : pr k with
    | none => rw [e] at this; rw [hv] at this; cases this
    | some ps =>
      rw [e] at this
      refine el12 this fun v' h5 z276_ => ?_; try clear this; refine el23 z276_ fun a vs h6 h7 h8 => ?_; try clear z276_
      rw [hv] at h5; cases h5
      exact ⟨_, rfl, a, vs, h6, isList_le h7 hg, h8⟩
theorem Tab.use_tm {c : Addr} {tm : Nat → Option Int} (h : Tab w g c (TmF tm)) : ∃ d f, Cellz g c (.ref d) ∧ d ≠ sysModules ∧ (∃ o, g.get? d = some o ∧ DN PP w f o) ∧ (∀ k g', f k = none → TmF tm g' k = none) ∧ ∀ k v g', f k = some v → Le g g' → ∃ P, TmF tm g' k = some P ∧ P v := by
  obtain ⟨d, f, h1, h2, h3, h4⟩ := h
  refine (in25 d f h1 h2 h3 (fun k g' hk => ?_) (fun k v g' hv hg => ?_))
  · have := h4 k
    unfold TmF at this ⊢
    cases e : tm k with
    | none => rfl
    | some ps => rw [e] at this; obtain ⟨v, h5, _⟩ := this; rw [hk] at h5; cases h5
  · have := h4 k
    unfold TmF at this ⊢
    cases e : tm k with
    | none => rw [e] at this; rw [hv] at this; cases this
    | some ps =>
      rw [e] at this
      refine el12 this fun v' h5 h6 => ?_; try clear this
      rw [hv] at h5; cases h5
      exact (in12 _ rfl h6)

/-- an item of a frozen tuple -/
theorem tupItem {prog : Program} {value slice : PySem.Expr} {ta : Addr} {vs : List Value} {j : Nat} {v : Value} {t : Tok} {o : Obj} {Q : Value → Shared → Prop} (S : St x g l s) (h1 : g.get? ta = some o) (h2 : TupP vs o) (hj : vs[j]? = some v) (hj2 : j < 1000) (h : Q v s)
    (hs : subscripted slice false (.ref ta) (.int (j : Int) t) = operate [.ref ta, .int (j : Int) t] (getItem (.ref ta) (.int (j : Int) t)) := by with_unfolding_all rfl) : wpAny (model prog w) A (subscriptTail value slice (.ref ta) (.int (j : Int) t)) Q E s := by
  refine PyProof.Rows.tail_any (S.isTup (in12 o h1 h2)).typeIs PySem.F.slot_tuple_getitem.lookup ?_ hs
  have hl := (List.getElem?_eq_some_iff.mp hj).1
  have hi : seqIndex? (j : Int) vs.toArray.size = some j := by
    unfold seqIndex?
    have : ¬ ((j : Int) < 0) := by walk_at "om"
    simp [hl, this]
  exact PyProof.Rows.getItem_tuple (S.isTup (in12 o h1 h2)) (j := j) (x := v) (by walk_at "om") (by walk_at "om") hi (by simpa using hj) h
end Jr
end
-- LF
section
namespace Jr
open PySem PySem.W PySem.Calls PySem.SeqAt PySem.Builtin PyProof.Rows PySem.Spec
variable {x : Wd} {g : Heap} {l : List Ent} {w : World} {A : Around} {E : Value → Shared → Prop} {s : Shared} {env : Env} {mg mb : Str → Option Value}


set_option maxHeartbeats 4000000 in
theorem told_base {c : Cs} {f P' tw : Addr} {sh idv : Value} {b : Bool} {pr : Nat → Option (List Nat)} {tm : Nat → Option Int} {Dom : Nat → Prop} {Qn : Int → Int → Str} {ps pt : Array Value} {c1 : Nat} {c2s : List Nat} {tb : Tok} {Q : Value → Shared → Prop}
    (G : TGiv w mg mb g c f P' sh b pr tm Dom Qn) (S : St x g ((P', (· = tabObj pt)) :: (87, (· = tabObj ps)) :: l) s) (T' : TabOk g Qt pt) (T : TabOk g Qn ps) (hd : A.depth < 700) (hu : A.units < 2000) (hh : A.handled = none) (hF : FrOk A.frames l)
    (hw : ∃ o, g.get? tw = some o ∧ TupP [.str "base" tb, idv] o) (hi : IntL g ((c1 :: c2s).map Int.ofNat) idv) (hlen : c2s.length ≤ 30) (hD : ∀ c ∈ c1 :: c2s, Dom c)
    (hR : ∀ fl q cs, Run pr tm 0 (fl0 c1 c2s) (q0 tm c1 c2s) fl q cs → Fall cs)
    (h1 : ∀ x' g' ps' pt' s' acc ys ks, Le g g' → St x' g' ((acc, ListP ys) :: (P', (· = tabObj pt')) :: (87, (· = tabObj ps')) :: l) s' → Side x x' → TabOk g' Qt pt' → TabOk g' Qn ps' → Paired NmV ks ys → FmR b pr tm c1 c2s ks → Q (.ref acc) s')
    (h2 : ∀ x' g' ps' pt' s' t, Le g g' → St x' g' ((P', (· = tabObj pt')) :: (87, (· = tabObj ps')) :: l) s' → Side x x' → TabOk g' Qt pt' → TabOk g' Qn ps' → b = false → (∃ k, Dom k ∧ (tm k = none ∨ pr k = none)) → (c1 ∉ c2s ∧ c2s ≠ []) → Q (.str "missing" t) s') :
    wpAny (model PP w) A (call (.ref f) [.ref tw] []) Q E s := by
  refine el71 (G.told.ex) fun nm' prm bd sc doc pm c' z279_ => ?_; refine el14 z279_ fun ctv hDf hf hrec hC => ?_; try clear z279_
  have e0 := @_root_.id ((KK w).lookup 126 = some _) rfl
  have e := @_root_.id (defAt (bodyOf w 126) 13 = some _) (by unfold bodyOf; rw [e0]; exact rfl)
  rw [e] at hDf
  cases hDf
  clear e e0
  have W := G.W
  refine el12 hw fun ow how htw => ?_; try clear hw
  refine callFQ0 (args := ⟨[.ref tw], []⟩) (binds := [("words", .ref tw)]) S hf rfl hrec W.lim (by show A.depth < 1000; walk_at "om") (BindsTo.of_eq rfl) ?_
  intro L s1 S1
  dsimp only
  refine stored_cons (stL S1 rfl rfl (m := fun _ => none) .head fun s2 S2 => ?_)
  refine stored_nil ⟨S2.keep, ?_⟩
  refine nameXs ?_; intro ev Ax Ex Qx
  clear S1
  generalize hM : upd (fun _ => none) "words" (.ref tw) = m at *
  have m1 : m "words" = some (.ref tw) := by subst hM; exact upd_same
  clear hM
  have FL := fun env hk hL => FrL.deeper (A := A) (l := l) (env := env) (L := L) hF hk hL
  refine wpAny_execs_cons (tryKey (mg := mg) (mb := mb) (L := L) (FL _ rfl rfl).top rfl rfl rfl rfl rfl ?_)
  refine wpAny_execs_cons (wpAny_If (wpAny_isTrue_Compare1 (subs ?_)))
  refine ldL S2 rfl rfl (by k_mem) m1 (cInt S2 fun t1 s3 S3 => tupItem (j := 0) S3 how htw rfl (by decide) (cStr S3 fun t2 s4 S4 => PyProof.Rows.eq_str (wpAny_truthy_bool ?_)))
  rw [if_pos (by decide)]
  refine el22 (W.fn 97 rfl rfl) fun o97 fd97 h97 h97d => ?_
  refine el22 (W.fn 121 rfl rfl) fun o121 fd121 h121 h121d => ?_
  refine wpAny_execs_cons (wpAny_Return_some (callFn ?_))
  refine ldGW (v := .ref 97) W S4 rfl rfl rfl (by kernel_rfl) (in33 97 o97 fd97 rfl h97d (wpAny_items_cons ?_))
  refine mkLk (cb := c.table) W (S4.perm (.swap ..)) T' hC (.inl rfl) rfl rfl rfl rfl G.table.use_pr fun g1 fa1 pt1 s5 k1 S5 T1 lk1 => wpAny_items_cons ?_
  refine mkLk (cb := c.times) (W.le k1) S5 T1 (hC.keeps k1) (.inr rfl) rfl rfl rfl rfl (G.times.tm k1).use_tm fun g2 fa2 pt2 s6 k2 S6 T2 lk2 => wpAny_items_cons ?_
  have k02 := k1.trans k2
  refine ldZ S6 (.inr rfl) rfl rfl (G.marks.le k02) (wpAny_items_cons ?_)
  refine compL (x := x) (g := g2) (y := "k") rfl rfl (by decide) rfl rfl hh (fun _ => rfl) (subs ?_)
  refine ldL S6 rfl rfl (by k_mem) m1 (cInt S6 fun t3 s7 S7 => tupItem (j := 1) S7 (k02 _ _ how) htw rfl (by decide) ?_)
  refine el23 hi fun ia ivs e280_ hil hip => ?_; try clear hi; subst e280_
  have hiplen := pairLen hip
  refine itsList S7 (isList_le hil k02) fun ii s8 hI => ?_
  refine (in44 g2 _ _ _ (Le.refl _) hI (by simp at hiplen; walk_at "om") (in24 (fun _ => true) (fun _ j v => NmV ((c1 :: c2s).getD j 0) v) (fun _ _ _ _ _ q => q) ?_ ?_ ?_))
  · rintro C j v g3 m3 r3 s9 hj hv hg3 hr hm3 S9
    exact wpAny_pure ⟨rfl, (in12 g3 (Le.refl _) S9)⟩
  · rintro C j v g3 m3 r3 s9 hj hv _ hg3 hr hm3 S9
    refine nameQ ?_; intro Qz
    refine el12 (pairGet' hip hv) fun pp hpp z281_ => ?_; refine el11 z281_ fun u5 e282_ => ?_; try clear z281_; subst e282_
    rw [List.getElem?_map] at hpp
    cases hcj : (c1 :: c2s)[j]? with
    | none => rw [hcj] at hpp; cases hpp
    | some cj =>
      rw [hcj] at hpp
      have hpp' : (cj : Int) = pp := Option.some.inj hpp
      subst hpp'
      have hb := G.d3 _ (hD cj (List.mem_of_getElem? hcj))
      refine callFn ?_
      refine ldGW (v := .ref 121) (W.le (k02.trans hg3)) S9 rfl rfl rfl (by kernel_rfl) (in33 121 o121 fd121 rfl h121d (wpAny_items_cons (ldL S9 rfl rfl (by k_mem) hm3 (wpAny_items_nil ⟨S9.keep _ _ ((k02.trans hg3) _ _ h121), ?_⟩))))
      refine law_name (W.le (k02.trans hg3)) S9 (by show A.depth + 1 < 900; walk_at "om") hh (by walk_at "om") (by walk_at "om") fun t6 s10 S10 => (in13 g3 (Le.refl _) S10 ?_)
      have e : (c1 :: c2s).getD j 0 = cj := by rw [List.getD_eq_getElem?_getD, hcj]; rfl
      show NmV ((c1 :: c2s).getD j 0) _
      rw [e]
      exact ⟨hb, ⟨t6, rfl⟩⟩
  · intro acc g3 ys s9 hg3 hP S9
    refine el25 (S9.freeze) fun g4 oa k4 ea pa _ S10 => ?_
    have k24 := hg3.trans k4
    have k04 := k02.trans k24
    have hys : Paired NmV (c1 :: c2s) ys := by
      have e : (List.range ivs.length).filter (fun _ => true) = List.range ivs.length := by simp
      rw [e] at hP
      have := pairMap' (f := fun j => (c1 :: c2s).getD j 0) hP
      have e2 : ivs.length = (c1 :: c2s).length := by rw [← hiplen]; simp
      rw [e2, map_getD_range] at this
      exact this
    refine wpAny_items_nil ⟨S10.keep _ _ (k04 _ _ h97), ?_⟩
    have H : Hand w g4 fa1 fa2 sh b pr tm Dom Qn := ⟨lk1.le (k2.trans k24), lk2.le k24, G.sh.le k04, G.pt, G.q1, G.q2, G.d2, G.d3⟩
    have n3 : ∀ {y z v : Ent} {r : List Ent}, (y :: z :: v :: r).Perm (v :: y :: z :: r) := fun {y z v r} => ((List.Perm.swap ..).cons _).trans (.swap ..)
    -- (P', ..) :: (L, ..) :: (87, ..) :: l
    refine law_fmb (Dom := Dom) (b := b) (W.le k04) (S10.perm n3) (T.le k04) (by show A.depth + 1 < 780; walk_at "om") (by show A.units + 3 < 2800; walk_at "om") hh (FrOk.deeper hF rfl rfl (.tail _ (.head _)) fun q hq => .tail _ (.tail _ hq)) H (in13 oa ea (pa.1) (pa.2.2)) hys hlen hD hR ?_ ?_
    · intro x' g5 acc2 ys2 ks ps5 s11 k5 S11 hx T5 hks hfm
      refine h1 x' g5 ps5 pt2 s11 acc2 ys2 ks (k04.trans k5) ?_ hx (T2.le (k24.trans k5)) T5 hks hfm
      have S12 : St x' g5 ((acc2, ListP ys2) :: (87, (· = tabObj ps5)) :: (P', (· = tabObj pt2)) :: l) s11 := S11.sub ((((List.Sublist.refl _).cons _).cons_cons _).cons_cons _ |>.cons_cons _)
      exact S12.perm ((List.Perm.swap ..).cons _)
    · intro x' g5 e T3 ps5 s11 k5 S11 hx T5 hb hk hc
      refine (in55 e T3 x' g5 _ rfl (W.le (k04.trans k5)) S11 (FrOk.deeper (L := L) (m := m) hF rfl rfl (by simp) (fun q hq => by simp [hq])) (fun T4 s12 S12 => ?_))
      refine wpAny_execs_cons (wpAny_Return_some (cStr S12 fun t4 s13 S13 => ?_))
      refine h2 x' g5 ps5 pt2 s13 t4 (k04.trans k5) ?_ hx (T2.le (k24.trans k5)) T5 hb hk hc
      have S14 : St x' g5 ((87, (· = tabObj ps5)) :: (P', (· = tabObj pt2)) :: l) s13 := S13.drop.drop.sub ((((List.Sublist.refl _).cons _).cons_cons _).cons_cons _)
      exact S14.perm (.swap ..)
end Jr
end
-- LG
section
namespace Jr
open PySem PySem.W PySem.Calls PySem.SeqAt PySem.Builtin PyProof.Rows PySem.Spec
variable {x : Wd} {g : Heap} {l : List Ent} {w : World} {A : Around} {E : Value → Shared → Prop} {s : Shared} {env : Env} {mg mb : Str → Option Value}


set_option maxHeartbeats 4000000 in
theorem told_fwd {c : Cs} {f P' tw : Addr} {sh : Value} {b : Bool} {pr : Nat → Option (List Nat)} {tm : Nat → Option Int} {Dom : Nat → Prop} {Qn : Int → Int → Str} {ps pt : Array Value} {c1 c2 : Nat} {tb t1 t2 : Tok} {Q : Value → Shared → Prop}
    (G : TGiv w mg mb g c f P' sh b pr tm Dom Qn) (S : St x g ((P', (· = tabObj pt)) :: (87, (· = tabObj ps)) :: l) s) (T' : TabOk g Qt pt) (T : TabOk g Qn ps) (hd : A.depth < 700) (hu : A.units < 2000) (hh : A.handled = none) (hF : FrOk A.frames l)
    (hw : ∃ o, g.get? tw = some o ∧ TupP [.str "forward" tb, .int c1 t1, .int c2 t2] o) (hD1 : Dom c1) (hD2 : Dom c2)
    (hR : ∀ mn, tm c1 = some mn → ∀ fl q cs, Run pr tm mn (fl0 c1 [c2]) (q0 tm c1 [c2]) fl q cs → Fall cs)
    (h1 : ∀ x' g' ps' pt' r s', Le g g' → St x' g' ((P', (· = tabObj pt')) :: (87, (· = tabObj ps')) :: l) s' → Side x x' → TabOk g' Qt pt' → TabOk g' Qn ps' → CfR b pr tm c1 c2 r → Q (.bool r) s')
    (h2 : ∀ x' g' ps' pt' s' t, Le g g' → St x' g' ((P', (· = tabObj pt')) :: (87, (· = tabObj ps')) :: l) s' → Side x x' → TabOk g' Qt pt' → TabOk g' Qn ps' → b = false → (∃ k, Dom k ∧ (tm k = none ∨ pr k = none)) → c1 ≠ c2 → Q (.str "missing" t) s') :
    wpAny (model PP w) A (call (.ref f) [.ref tw] []) Q E s := by
  refine el71 (G.told.ex) fun nm' prm bd sc doc pm c' z283_ => ?_; refine el14 z283_ fun ctv hDf hf hrec hC => ?_; try clear z283_
  have e0 := @_root_.id ((KK w).lookup 126 = some _) rfl
  have e := @_root_.id (defAt (bodyOf w 126) 13 = some _) (by unfold bodyOf; rw [e0]; exact rfl)
  rw [e] at hDf
  cases hDf
  clear e e0
  have W := G.W
  have hc1 := G.d3 _ hD1
  have hc2 := G.d3 _ hD2
  refine el12 hw fun ow how htw => ?_; try clear hw
  refine callFQ0 (args := ⟨[.ref tw], []⟩) (binds := [("words", .ref tw)]) S hf rfl hrec W.lim (by show A.depth < 1000; walk_at "om") (BindsTo.of_eq rfl) ?_
  intro L s1 S1
  dsimp only
  refine stored_cons (stL S1 rfl rfl (m := fun _ => none) .head fun s2 S2 => ?_)
  refine stored_nil ⟨S2.keep, ?_⟩
  refine nameXs ?_; intro ev Ax Ex Qx
  clear S1
  generalize hM : upd (fun _ => none) "words" (.ref tw) = m at *
  have m1 : m "words" = some (.ref tw) := by subst hM; exact upd_same
  clear hM
  have FL := fun env hk hL => FrL.deeper (A := A) (l := l) (env := env) (L := L) hF hk hL
  refine wpAny_execs_cons (tryKey (mg := mg) (mb := mb) (L := L) (FL _ rfl rfl).top rfl rfl rfl rfl rfl ?_)
  refine wpAny_execs_cons (wpAny_If (wpAny_isTrue_Compare1 (subs ?_)))
  refine ldL S2 rfl rfl (by k_mem) m1 (cInt S2 fun u1 s3 S3 => tupItem (j := 0) S3 how htw rfl (by decide) (cStr S3 fun u2 s4 S4 => PyProof.Rows.eq_str (wpAny_truthy_bool ?_)))
  rw [if_neg (by decide)]
  refine el22 (W.fn 104 rfl rfl) fun o104 fd104 h104 h104d => ?_
  refine el22 (W.fn 121 rfl rfl) fun o121 fd121 h121 h121d => ?_
  refine wpAny_execs_nil (wpAny_execs_cons (wpAny_Return_some (callFn ?_)))
  refine ldGW (v := .ref 104) W S4 rfl rfl rfl (by kernel_rfl) (in33 104 o104 fd104 rfl h104d (wpAny_items_cons ?_))
  refine mkLk (cb := c.table) W (S4.perm (.swap ..)) T' hC (.inl rfl) rfl rfl rfl rfl G.table.use_pr fun g1 fa1 pt1 s5 k1 S5 T1 lk1 => wpAny_items_cons ?_
  refine mkLk (cb := c.times) (W.le k1) S5 T1 (hC.keeps k1) (.inr rfl) rfl rfl rfl rfl (G.times.tm k1).use_tm fun g2 fa2 pt2 s6 k2 S6 T2 lk2 => wpAny_items_cons ?_
  have k02 := k1.trans k2
  refine ldZ S6 (.inr rfl) rfl rfl (G.marks.le k02) (wpAny_items_cons (callFn ?_))
  refine ldGW (v := .ref 121) (W.le k02) S6 rfl rfl rfl (by kernel_rfl) (in33 121 o121 fd121 rfl h121d (wpAny_items_cons (subs ?_)))
  refine ldL S6 rfl rfl (by k_mem) m1 (cInt S6 fun u3 s7 S7 => tupItem (j := 1) S7 (k02 _ _ how) htw rfl (by decide) (wpAny_items_nil ⟨S7.keep _ _ (k02 _ _ h121), ?_⟩))
  refine law_name (W.le k02) S7 (by show A.depth + 1 < 900; walk_at "om") hh (by walk_at "om") (by walk_at "om") fun u4 s8 S8 => wpAny_items_cons (callFn ?_)
  refine ldGW (v := .ref 121) (W.le k02) S8 rfl rfl rfl (by kernel_rfl) (in33 121 o121 fd121 rfl h121d (wpAny_items_cons (subs ?_)))
  refine ldL S8 rfl rfl (by k_mem) m1 (cInt S8 fun u5 s9 S9 => tupItem (j := 2) S9 (k02 _ _ how) htw rfl (by decide) (wpAny_items_nil ⟨S9.keep _ _ (k02 _ _ h121), ?_⟩))
  refine law_name (W.le k02) S9 (by show A.depth + 1 < 900; walk_at "om") hh (by walk_at "om") (by walk_at "om") fun u6 s10 S10 => wpAny_items_nil ⟨S10.keep _ _ (k02 _ _ h104), ?_⟩
  have H : Hand w g2 fa1 fa2 sh b pr tm Dom Qn := ⟨lk1.le k2, lk2, G.sh.le k02, G.pt, G.q1, G.q2, G.d2, G.d3⟩
  have n3 : ∀ {y z v : Ent} {r : List Ent}, (y :: z :: v :: r).Perm (v :: y :: z :: r) := fun {y z v r} => ((List.Perm.swap ..).cons _).trans (.swap ..)
  refine law_cff (Dom := Dom) (b := b) (W.le k02) (S10.perm n3) (T.le k02) (by show A.depth + 1 < 780; walk_at "om") (by show A.units + 3 < 2800; walk_at "om") hh (FrOk.deeper hF rfl rfl (.tail _ (.head _)) fun q hq => .tail _ (.tail _ hq)) H ⟨hc1, ⟨u4, rfl⟩⟩ ⟨hc2, ⟨u6, rfl⟩⟩ hD1 hD2 hR ?_ ?_
  · intro x' g5 ps5 r s11 k5 S11 hx T5 hr
    refine h1 x' g5 ps5 pt2 r s11 (k02.trans k5) ?_ hx (T2.le k5) T5 hr
    have S12 : St x' g5 ((87, (· = tabObj ps5)) :: (P', (· = tabObj pt2)) :: l) s11 := S11.sub ((((List.Sublist.refl _).cons _).cons_cons _).cons_cons _)
    exact S12.perm (.swap ..)
  · intro x' g5 e T3 ps5 s11 k5 S11 hx T5 hb hk hc
    refine (in55 e T3 x' g5 _ rfl (W.le (k02.trans k5)) S11 (FrOk.deeper (L := L) (m := m) hF rfl rfl (by simp) (fun q hq => by simp [hq])) (fun T4 s12 S12 => ?_))
    refine wpAny_execs_cons (wpAny_Return_some (cStr S12 fun u7 s13 S13 => ?_))
    refine h2 x' g5 ps5 pt2 s13 u7 (k02.trans k5) ?_ hx (T2.le k5) T5 hb hk hc
    have S14 : St x' g5 ((87, (· = tabObj ps5)) :: (P', (· = tabObj pt2)) :: l) s13 := S13.drop.drop.sub ((((List.Sublist.refl _).cons _).cons_cons _).cons_cons _)
    exact S14.perm (.swap ..)
end Jr
end
-- LH
section
namespace Jr
open PySem PySem.W PySem.Calls PySem.SeqAt PySem.Builtin PyProof.Rows PySem.Spec
variable {x : Wd} {g : Heap} {l : List Ent} {w : World} {A : Around} {E : Value → Shared → Prop} {s : Shared} {env : Env} {mg mb : Str → Option Value} {prog : Program}

/-! all(..) of a list of True -/
theorem allLoop {R : Result → Shared → Prop} {it : Addr} {P : Nat → Obj → Prop} {n : Nat} {V : Nat → Value → Prop} (hh : A.handled = none) (I : ItOk prog w g it P n V) (hV : ∀ i v, V i v → v = .bool true) : ∀ (k i : Nat) (s : Shared), n - i = k → i ≤ n → St x g ((it, P i) :: l) s →
    (∀ s', St x g l s' → R (.ok (.ret (.bool true))) s') → codeAny (model prog w) A (.builtin "all.loop" ⟨[.ref it], []⟩) R s := by
  intro k
  induction k with
  | zero =>
    intro i s hk hi S hR
    have hin : i = n := by omega
    subst hin
    refine codeAny_builtin PySem.F.entry_all_loop ?_
    rw [Around.under_plainId PySem.F.plain_all_loop _]
    show wpAny _ A.in1 (pyNext (.ref it) >>= _) _ _ s
    refine wpAny_bind (I.stop (Le.refl _) hh S fun s' S' => ?_)
    exact wpAny_bind (wpAny_rule (wpAny_pure (hR s' S')))
  | succ k ih =>
    intro i s hk hi S hR
    have hlt : i < n := by omega
    refine codeAny_builtin PySem.F.entry_all_loop ?_
    rw [Around.under_plainId PySem.F.plain_all_loop _]
    show wpAny _ A.in1 (pyNext (.ref it) >>= _) _ _ s
    refine wpAny_bind (I.next (Le.refl _) S .head hlt fun v s' hv S' => ?_)
    have := hV i v hv
    subst this
    refine wpAny_bind (wpAny_holding (wpAny_truthy_bool ?_))
    refine wpAny_bind (wpAny_letGo ?_)
    simp only [if_true]
    exact wpAny_pure ⟨plainId_quiet PySem.F.plain_all_loop _, ih (i + 1) _ (by omega) hlt S' hR⟩
theorem allL {la : Addr} {vs : List Value} {Q : Value → Shared → Prop} (S : St x g l s) (hh : A.handled = none) (hl : g.IsList la vs.toArray) (hv : ∀ v ∈ vs, v = .bool true) (h : ∀ s', St x g l s' → Q (.bool true) s') : wpAny (model prog w) A (call (.builtin "all") [.ref la] []) Q E s := by
  refine PySem.call_function_tree PySem.F.kind_all PySem.F.plain_all PySem.F.entry_all (PySem.F.args_all1 _) ?_
  unfold Builtin.«all»
  refine wpAny_bind (m := oneArg "all" _) (wpAny_pure ?_)
  refine wpAny_bind (iterList S hl fun it s' S' I => ?_)
  exact wpAny_pure ⟨plainId_quiet PySem.F.plain_all_loop _, allLoop hh I (fun i v h => hv v (List.mem_of_getElem? h)) vs.length 0 s' rfl (Nat.zero_le _) S' h⟩
end Jr
end
-- LI
section
namespace Jr
open PySem PySem.W PySem.Calls PySem.SeqAt PySem.Builtin PyProof.Rows PySem.Spec
variable {x : Wd} {g : Heap} {l : List Ent} {w : World} {A : Around} {E : Value → Shared → Prop} {s : Shared} {mg mb : Str → Option Value} {prog : Program}

/-- a comprehension whose turns may change the generators and the ledger -/
theorem compLX {elt iter : PySem.Expr} {y : Str} {py : Pos} {ifs : List PySem.Expr} {scope : Scope} {pos : Pos} {env : Env} {Q : Value → Shared → Prop} {cl : List (Str × Addr)}
    (hclos : closureFor scope env = pure cl) (hkind : scope.kind = .function) (hnames : ∀ y ∈ scope.names, y.2 = .local → scope.names.lookup y.1 = some .local) (hcell : cellNs scope.names = []) (hy : scope.names.lookup y = some .local) (hh : A.handled = none)
    (hs : ∀ v, foldedSetIterable iter env v = pure v)
    (hiter : wpAny (model prog w) A (eval iter env) (fun v s₁ => wpAny (model prog w) A (pyIter v) (fun i s₂ => ∃ g₂ l₂ n V, Le g g₂ ∧ Its prog w x g₂ l₂ s₂ n V i ∧ n ≤ 1000 ∧
      ∃ (I : Wd → Heap → List Ent → Prop) (El : Value → Prop), I x g₂ l₂ ∧
      (∀ C i v x' g' m pre l' s', i < n → V i v → Le g₂ g' → m y = some v → I x' g' l' → St x' g' ((C, NsP m) :: (pre ++ l')) s' →
        wpAny (model prog w) A (forIn ifs true fun c b => if b = true then do let ok ← isTrue c (cpEnv scope cl C env) (eval c (cpEnv scope cl C env)); pure (ForInStep.yield ok) else pure (ForInStep.yield b))
          (fun ok s₃ => if ok = true then wpAny (model prog w) A (eval elt (cpEnv scope cl C env)) (fun u s₄ => El u ∧ ∃ x'' g'' l'', Le g' g'' ∧ St x'' g'' ((C, NsP m) :: (pre ++ l'')) s₄ ∧ I x'' g'' l'') (fun _ _ => False) s₃
            else ∃ x'' g'' l'', Le g' g'' ∧ St x'' g'' ((C, NsP m) :: (pre ++ l'')) s₃ ∧ I x'' g'' l'') (fun _ _ => False) s') ∧
      (∀ acc x' g' l' ys s', Le g₂ g' → I x' g' l' → (∀ u ∈ ys, El u) → St x' g' ((acc, ListP ys) :: l') s' → Q (.ref acc) s')) E s₁) E s) :
    wpAny (model prog w) A (eval (.ListComp elt [⟨.Name y py, iter, ifs, 0⟩] scope pos) env) Q E s := by
  rw [eval_ListComp]
  refine wpAny_comprehension_free (g := ⟨.Name y py, iter, ifs, 0⟩) (gs := []) (use := none) rfl hs hclos hkind hnames (wpAny_mono hiter (fun v s₁ h₁ => wpAny_mono h₁ (fun i s₂ h₂ => ?_) fun _ _ e => e) fun _ _ e => e)
  refine el44 h₂ fun g₂ l₂ n V hg₂ z284_ hn z285_ => ?_; try clear h₂; refine el24 z284_ fun it P e286_ S₂ I hself => ?_; try clear z284_; subst e286_; refine el23 z285_ fun J El h0 turn fin => ?_; try clear z285_
  refine nwList S₂ (by decide) fun acc s₃ S₃ => ?_
  refine nwComp S₃ fun C bs s₄ hbs S₄ => ?_
  rw [hcell] at hbs
  obtain rfl : bs = [] := List.length_eq_zero_iff.mp hbs
  have ecl : (cellNs scope.names).reverse.zip ([] : List Addr) ++ cl = cl := by rw [hcell]; rfl
  rw [ecl]
  have fin' : ∀ x' g' l' ys m s', Le g₂ g' → J x' g' l' → (∀ u ∈ ys, El u) → St x' g' ((C, NsP m) :: (acc, ListP ys) :: l') s' → compPost (model prog w) A E none Q (.ref acc) C (.ok .next) s' := by
    intro x' g' l' ys m s' hg hJ hys S'
    refine (in12 m (S'.ns (List.mem_cons_self ..)) (fun h' hs' => fin acc x' g' l' ys _ hg hJ hys ?_))
    have S2 := S'.drop
    refine ⟨fun b o e => ?_, fun p hp => ?_, S2.nodup, S2.gens, S2.os⟩
    · show h'.get? b = some o
      rw [hs'.2 b (fun q => by rw [q, S'.out (List.mem_cons_self ..)] at e; cases e)]
      exact S2.keep b o e
    · refine el02 (S2.own p hp) fun k1 z287_ => ?_; refine el12 z287_ fun o k2 k3 => ?_; try clear z287_
      refine ⟨k1, (in12 o ?_ k3)⟩
      show h'.get? p.1 = some o
      rw [hs'.2 _ (fun q => ?_)]
      · exact k2
      · exact (List.nodup_cons.mp S'.nodup).1 (by rw [← q]; exact List.mem_map_of_mem (f := (·.1)) hp)
  have n3 : ∀ {y z v : Ent} {r : List Ent}, (y :: z :: v :: r).Perm (v :: y :: z :: r) := fun {y z v r} => ((List.Perm.swap ..).cons _).trans (.swap ..)
  have loop : ∀ s₅, St x g₂ ((C, NsP fun _ => none) :: (acc, ListP []) :: (it, P 0) :: l₂) s₅ →
      codeAny (model prog w) A (.compLoop (.ListComp elt [⟨.Name y py, iter, ifs, 0⟩] scope pos) 0 (.ref it) (.ref acc) (cpEnv scope cl C env)) (compPost (model prog w) A E none Q (.ref acc) C) s₅ := by
    intro s₅ S₅
    refine compTurnCode (fun k s' => ∃ i x' g' l' ys m, k = n - i ∧ i ≤ n ∧ ys.length ≤ i ∧ Le g₂ g' ∧ J x' g' l' ∧ (∀ u ∈ ys, El u) ∧ St x' g' ((C, NsP m) :: (acc, ListP ys) :: (it, P i) :: l') s') ?_ n
      ⟨0, x, g₂, l₂, [], fun _ => none, rfl, Nat.zero_le _, Nat.le_refl _, Le.refl _, h0, (fun _ h => nomatch h), S₅⟩
    intro k s' hR2
    refine el67 hR2 fun i x' g' l' ys m e288_ hi hys hg hJ hEl S' => ?_; try clear hR2; subst e288_
    by_cases hlt : i < n
    · refine I.next hg S' (.tail (.tail .head)) hlt fun v s₁ hv S₁ => ?_
      refine el12 (S₁.get (a := it) (P := P (i + 1)) (.tail _ (.tail _ (.head _)))) fun o ho hP => ?_
      refine el23 (I.quiet _ _ hP) fun nm vs q1 q2 q3 => ?_
      refine letOwned ho q1 q2 q3 ?_
      refine wpAny_assign_Name (stL S₁ (lookup_relabel_local hy) hkind .head fun s₂ S₂' => ?_)
      refine wpAny_mono (turn C i v x' g' _ [(acc, ListP ys), (it, P (i + 1))] l' s₂ hlt hv hg upd_same hJ S₂') (fun ok s₃ h₃ => ?_) fun _ _ e => e
      cases ok with
      | false =>
        rw [if_neg (by decide)] at h₃ ⊢
        refine el33 h₃ fun x'' g'' l'' k2 k3 k4 => ?_; try clear h₃
        exact (in12 (n - (i + 1)) (by walk_at "om") (in67 (i + 1) x'' g'' l'' ys _ rfl hlt (by walk_at "om") (hg.trans k2) k4 hEl k3))
      | true =>
        rw [if_pos rfl] at h₃ ⊢
        refine wpAny_mono h₃ (fun u s₄ h₄ => ?_) fun _ _ e => e
        refine el02 h₄ fun hu z289_ => ?_; try clear h₄; refine el33 z289_ fun x'' g'' l'' k2 k3 k4 => ?_; try clear z289_
        refine appendL k3 (.tail .head) (by rw [sizeLine_eq]; walk_at "om") fun s₆ S₆ => ?_
        refine (in12 (n - (i + 1)) (by walk_at "om") (in67 (i + 1) x'' g'' l'' (ys ++ [u]) _ rfl hlt (by simp; walk_at "om") (hg.trans k2) k4 (fun z hz => ?_) S₆))
        rcases List.mem_append.mp hz with hz | hz
        · exact hEl z hz
        · rw [List.mem_singleton.mp hz]; exact hu
    · obtain rfl : i = n := by walk_at "om"
      exact I.stop hg hh (S'.perm n3) fun s₁ S₁ => fin' x' g' l' ys m s₁ hg hJ hEl S₁
  refine codeAny_compStart_list (loop _ S₄) ?_
  exact hself _ _ _ _ _ (S₄.perm n3) (loop _ S₄)
end Jr
end
-- LJ
section
namespace Jr
open PySem PySem.W PySem.Calls PySem.SeqAt PySem.Builtin PyProof.Rows PySem.Spec
variable {x : Wd} {g : Heap} {l : List Ent} {w : World} {A : Around} {E : Value → Shared → Prop} {s : Shared} {env : Env} {mg mb : Str → Option Value}


def NmL (g : Heap) (ks : List Nat) (v : Value) : Prop := ∃ a vs, v = .ref a ∧ g.IsList a vs.toArray ∧ Paired NmV ks vs
theorem NmL.le {g g' : Heap} {ks : List Nat} {v : Value} (h : NmL g ks v) (k : Le g g') : NmL g' ks v := by obtain ⟨a, vs, h1, h2, h3⟩ := h; exact (in23 a vs h1 (isList_le h2 k) h3)
def BaseV (g : Heap) (b : Bool) (pr : Nat → Option (List Nat)) (tm : Nat → Option Int) (Dom : Nat → Prop) (c1 : Nat) (c2s : List Nat) (v : Value) : Prop :=
  (∃ ks, NmL g ks v ∧ FmR b pr tm c1 c2s ks) ∨ (∃ t, v = .str "missing" t ∧ b = false ∧ (∃ k, Dom k ∧ (tm k = none ∨ pr k = none)) ∧ c1 ∉ c2s ∧ c2s ≠ [])
def FwdV (b : Bool) (pr : Nat → Option (List Nat)) (tm : Nat → Option Int) (Dom : Nat → Prop) (c1 c2 : Nat) (v : Value) : Prop :=
  (∃ r, v = .bool r ∧ CfR b pr tm c1 c2 r) ∨ (∃ t, v = .str "missing" t ∧ b = false ∧ (∃ k, Dom k ∧ (tm k = none ∨ pr k = none)) ∧ c1 ≠ c2)

theorem permMid {l1 l2 : List Ent} {a b : Ent} : (l1 ++ a :: b :: l2).Perm (a :: b :: (l1 ++ l2)) := by
  refine List.perm_middle.trans (.cons _ ?_)
  exact List.perm_middle

/-- told(('base', [first] + others)) -/
theorem callBase {c : Cs} {f P' : Addr} {sh : Value} {b : Bool} {pr : Nat → Option (List Nat)} {tm : Nat → Option Int} {Dom : Nat → Prop} {Qn : Int → Int → Str} {ps pt : Array Value} {c1 : Nat} {c2s : List Nat} {l1 l2 : List Ent} {p1 p2 p3 p4 p5 p6 p7 p8 : Pos} {k1 k2 : Nat} {Q : Value → Shared → Prop}
    (G : TGiv w mg mb g c f P' sh b pr tm Dom Qn) (S : St x g (l1 ++ (P', (· = tabObj pt)) :: (87, (· = tabObj ps)) :: l2) s) (T' : TabOk g Qt pt) (T : TabOk g Qn ps) (hd : A.depth < 700) (hu : A.units < 2000) (hh : A.handled = none) (hF : FrOk A.frames (l1 ++ l2))
    (hkf : env.scope.kind = .function) (hk0 : env.kindOf "told" = some .cell) (hk1 : env.kindOf "first" = some .cell) (hk2 : env.kindOf "others" = some .cell) (hc0 : env.cells.lookup ("told" : Str) = some c.told) (hc1 : env.cells.lookup ("first" : Str) = some c.first) (hc2 : env.cells.lookup ("others" : Str) = some c.others)
    (htold : Cellz g c.told (.ref f)) (hfi : CzI g c.first (c1 : Nat)) (hos : CzL g c.others (c2s.map Int.ofNat)) (hlen : c2s.length ≤ 30) (hD : ∀ c ∈ c1 :: c2s, Dom c)
    (hR : ∀ fl q cs, Run pr tm 0 (fl0 c1 c2s) (q0 tm c1 c2s) fl q cs → Fall cs)
    (h : ∀ x' g' ps' pt' s' v, Le g g' → St x' g' (l1 ++ (P', (· = tabObj pt')) :: (87, (· = tabObj ps')) :: l2) s' → Side x x' → TabOk g' Qt pt' → TabOk g' Qn ps' → BaseV g' b pr tm Dom c1 c2s v → Q v s') :
    wpAny (model PP w) A (eval (.Call (.Name "told" p1) [.Tuple [.Constant (.str "base") k1 p2, .BinOp (.List [.Name "first" p3] p4) .Add (.Name "others" p5) p6] k2 p7] [] p8) env) Q E s := by
  obtain ⟨of, hof, fdf, hfd⟩ : ∃ o, g.get? f = some o ∧ ∃ fd, o.data = .func fd := by
    refine el71 (G.told.ex) fun _ _ _ _ _ _ _ z290_ => ?_; refine el13 z290_ fun _ _ h2 _ => ?_; try clear z290_
    exact ⟨_, h2, _, rfl⟩
  refine el11 hfi fun tf hfi => ?_
  refine el12 hos fun ov hoc z291_ => ?_; try clear hos; refine el23 z291_ fun oa ovs e292_ hol hop => ?_; try clear z291_; subst e292_
  have hoplen := pairLen hop
  refine callFn ?_
  refine ldZ S (.inl hk0) hkf hc0 htold (in33 f of fdf rfl hfd (wpAny_items_cons (Tuple_ (wpAny_items_cons (cStr S fun t1 s1 S1 => wpAny_items_cons (wpAny_BinOp (List_ (wpAny_items_cons ?_))))))))
  refine ldZ S1 (.inl hk1) hkf hc1 hfi (wpAny_items_nil (nwList S1 (by size_fits) fun a1 s2 S2 => ?_))
  refine ldZ S2 (.inl hk2) hkf hc2 hoc ?_
  simp at hoplen
  refine addLL S2 (S2.list (List.mem_cons_self ..)) (isList_le hol S2.keep) (by rw [sizeLine_eq]; simp; walk_at "om") fun a2 s3 S3 => ?_
  refine el25 (S3.freeze) fun g3 o3 k3 e3 q3 _ S4 => ?_
  refine wpAny_items_nil (nwTuple S4.drop (by size_fits) fun tw s4 S5 => ?_)
  refine el25 (S5.freeze) fun g4 o4 k4 e4 q4 _ S6 => ?_
  have k04 := k3.trans k4
  refine wpAny_items_nil ⟨S6.keep _ _ (k04 _ _ hof), ?_⟩
  have hids : IntL g4 ((c1 :: c2s).map Int.ofNat) (.ref a2) := (in23 a2 _ rfl (isList_le (in13 o3 e3 (q3.1) (q3.2.2)) k4) (.cons ⟨tf, rfl⟩ hop))
  refine told_base (G.le k04) (S6.perm permMid) (T'.le k04) (T.le k04) hd hu hh hF (in12 o4 e4 q4) hids hlen hD hR ?_ ?_
  · intro x' g' ps' pt' s' acc ys ks k5 S7 hx T1 T2 hks hfm
    refine el25 (S7.freeze) fun g6 o6 k6 e6 q6 _ S8 => ?_
    exact h x' g6 ps' pt' s' (.ref acc) (k04.trans (k5.trans k6)) (S8.perm permMid.symm) hx (T1.le k6) (T2.le k6) (.inl (in12 ks (in23 acc ys rfl (in13 o6 e6 (q6.1) (q6.2.2)) hks) hfm))
  · intro x' g' ps' pt' s' t k5 S7 hx T1 T2 hb hk hc
    exact h x' g' ps' pt' s' _ (k04.trans k5) (S7.perm permMid.symm) hx T1 T2 (.inr (in14 t rfl hb hk hc))

/-- told(('forward', first, e)) -/
theorem callFwd {c : Cs} {f P' : Addr} {sh : Value} {b : Bool} {pr : Nat → Option (List Nat)} {tm : Nat → Option Int} {Dom : Nat → Prop} {Qn : Int → Int → Str} {ps pt : Array Value} {c1 c2 : Nat} {l1 l2 : List Ent} {p1 p2 p3 p7 p8 : Pos} {k1 k2 : Nat} {e2 : PySem.Expr} {Q : Value → Shared → Prop}
    (G : TGiv w mg mb g c f P' sh b pr tm Dom Qn) (S : St x g (l1 ++ (P', (· = tabObj pt)) :: (87, (· = tabObj ps)) :: l2) s) (T' : TabOk g Qt pt) (T : TabOk g Qn ps) (hd : A.depth < 700) (hu : A.units < 2000) (hh : A.handled = none) (hF : FrOk A.frames (l1 ++ l2))
    (hkf : env.scope.kind = .function) (hk0 : env.kindOf "told" = some .cell) (hk1 : env.kindOf "first" = some .cell) (hc0 : env.cells.lookup ("told" : Str) = some c.told) (hc1 : env.cells.lookup ("first" : Str) = some c.first)
    (htold : Cellz g c.told (.ref f)) (hfi : CzI g c.first (c1 : Nat)) (hD1 : Dom c1) (hD2 : Dom c2)
    (he2 : ∀ s' (Q' : Value → Shared → Prop), St x g (l1 ++ (P', (· = tabObj pt)) :: (87, (· = tabObj ps)) :: l2) s' → (∀ t, Q' (.int (c2 : Nat) t) s') → wpAny (model PP w) A (eval e2 env) Q' E s')
    (hst : starEach [e2] env = [(false, eval e2 env)])
    (hR : ∀ mn, tm c1 = some mn → ∀ fl q cs, Run pr tm mn (fl0 c1 [c2]) (q0 tm c1 [c2]) fl q cs → Fall cs)
    (h : ∀ x' g' ps' pt' s' v, Le g g' → St x' g' (l1 ++ (P', (· = tabObj pt')) :: (87, (· = tabObj ps')) :: l2) s' → Side x x' → TabOk g' Qt pt' → TabOk g' Qn ps' → FwdV b pr tm Dom c1 c2 v → Q v s') :
    wpAny (model PP w) A (eval (.Call (.Name "told" p1) [.Tuple [.Constant (.str "forward") k1 p2, .Name "first" p3, e2] k2 p7] [] p8) env) Q E s := by
  obtain ⟨of, hof, fdf, hfd⟩ : ∃ o, g.get? f = some o ∧ ∃ fd, o.data = .func fd := by
    refine el71 (G.told.ex) fun _ _ _ _ _ _ _ z293_ => ?_; refine el13 z293_ fun _ _ h2 _ => ?_; try clear z293_
    exact ⟨_, h2, _, rfl⟩
  refine el11 hfi fun tf hfi => ?_
  refine callFn ?_
  refine ldZ S (.inl hk0) hkf hc0 htold (in33 f of fdf rfl hfd (wpAny_items_cons (Tuple_ (wpAny_items_cons (cStr S fun t1 s1 S1 => wpAny_items_cons (ldZ S1 (.inl hk1) hkf hc1 hfi ?_))))))
  rw [hst]
  refine spliced_cons (he2 _ _ S1 fun t2 => spliced_nil ?_)
  refine nwTuple S1 (by size_fits) fun tw s4 S5 => ?_
  refine el25 (S5.freeze) fun g4 o4 k4 e4 q4 _ S6 => ?_
  refine wpAny_items_nil ⟨S6.keep _ _ (k4 _ _ hof), ?_⟩
  refine told_fwd (G.le k4) (S6.perm permMid) (T'.le k4) (T.le k4) hd hu hh hF (in12 o4 e4 q4) hD1 hD2 hR ?_ ?_
  · intro x' g' ps' pt' r s' k5 S7 hx T1 T2 hr
    exact h x' g' ps' pt' s' (.bool r) (k4.trans k5) (S7.perm permMid.symm) hx T1 T2 (.inl (in12 r rfl hr))
  · intro x' g' ps' pt' s' t k5 S7 hx T1 T2 hb hk hc
    exact h x' g' ps' pt' s' _ (k4.trans k5) (S7.perm permMid.symm) hx T1 T2 (.inr (in14 t rfl hb hk hc))
end Jr
end
-- LK
section
namespace Jr
open PySem PySem.W PySem.Calls PySem.SeqAt PySem.Builtin PyProof.Rows PySem.Spec
variable {x : Wd} {g : Heap} {l : List Ent} {w : World} {A : Around} {E : Value → Shared → Prop} {s : Shared} {env : Env} {mg mb : Str → Option Value}


/-- what the law has laid when it comes to ask -/
structure LwG (w : World) (mg mb : Str → Option Value) (g : Heap) (c : Cs) (f P' : Addr) (sh : Value) (b : Bool) (ps : List (List Int)) (ts gn : List Int) (fi : Nat) (os : List Nat) (Qn : Int → Int → Str) : Prop where
  G : TGiv w mg mb g c f P' sh b (prN ps gn ps.length) (tmN ts gn ps.length) (fun k => k < ps.length) Qn
  stamps : CzL g c.stamps ts
  size : CzI g c.size ps.length
  gone : CzL g c.gone gn
  fore : CzLL g c.forebears (foreN (psE ps gn) ps.length)
  first : CzI g c.first (fi : Nat)
  others : CzL g c.others (os.map Int.ofNat)
  told : Cellz g c.told (.ref f)
  gr : Gr ps ts
  n2 : 2 ≤ ps.length
  n10 : ps.length ≤ 10
  fi : fi < ps.length
  osl : ∀ o ∈ os, o < ps.length
  ol : os.length ≤ 3
  hR : ∀ mn c1 c2s fl q cs, Run (prN ps gn ps.length) (tmN ts gn ps.length) mn (fl0 c1 c2s) (q0 (tmN ts gn ps.length) c1 c2s) fl q cs → Fall cs
theorem LwG.le {g g' : Heap} {c : Cs} {f P' : Addr} {sh : Value} {b : Bool} {ps : List (List Int)} {ts gn : List Int} {fi : Nat} {os : List Nat} {Qn : Int → Int → Str} (h : LwG w mg mb g c f P' sh b ps ts gn fi os Qn) (k : Le g g') : LwG w mg mb g' c f P' sh b ps ts gn fi os Qn :=
  ⟨h.G.le k, h.stamps.le k, h.size.le k, h.gone.le k, h.fore.le k, h.first.le k, h.others.le k, h.told.le k, h.gr, h.n2, h.n10, h.fi, h.osl, h.ol, h.hR⟩
theorem LwG.D {c : Cs} {f P' : Addr} {sh : Value} {b : Bool} {ps : List (List Int)} {ts gn : List Int} {fi : Nat} {os : List Nat} {Qn : Int → Int → Str} (h : LwG w mg mb g c f P' sh b ps ts gn fi os Qn) : ∀ k ∈ fi :: os, k < ps.length := fun k hk => by
  rcases List.mem_cons.mp hk with rfl | hk
  · exact h.fi
  · exact h.osl k hk
theorem tmN_gone {ts gn : List Int} {n k : Nat} (h : gn.contains (k : Int) = true) : tmN ts gn n k = none := by
  unfold tmN; rw [if_neg fun q => by rw [h] at q; cases q.2]
theorem tmN_here {ts gn : List Int} {n k : Nat} (hk : k < n) (h : gn.contains (k : Int) = false) : tmN ts gn n k = some (ts.getD k 0) := by
  unfold tmN; rw [if_pos ⟨hk, h⟩]

/-- told of base, where nothing is marked -/
theorem base_alone {ps : List (List Int)} {ts gn : List Int} {fi : Nat} {os : List Nat} {v : Value} (h : BaseV g false (prN ps gn ps.length) (tmN ts gn ps.length) (fun k => k < ps.length) fi os v) (hc : os = [] ∨ fi ∈ os) : NmL g [fi] v := by
  rcases h with ⟨ks, h1, h2⟩ | ⟨t, _, _, _, h3, h4⟩
  · rcases h2 with ⟨_, rfl⟩ | ⟨⟨h3, h4⟩, _⟩
    · exact h1
    · rcases hc with hc | hc
      · exact absurd hc h4
      · exact absurd hc h3
  · rcases hc with hc | hc
    · exact absurd hc h4
    · exact absurd hc h3
theorem base_gone {ps : List (List Int)} {ts gn : List Int} {fi : Nat} {os : List Nat} {v : Value} (h : BaseV g false (prN ps gn ps.length) (tmN ts gn ps.length) (fun k => k < ps.length) fi os v) (hc : ¬ (os = [] ∨ fi ∈ os)) {k : Nat} (hk : k ∈ fi :: os) (hg : gn.contains (k : Int) = true) : ∃ t, v = .str "missing" t := by
  rcases h with ⟨ks, h1, h2⟩ | ⟨t, h, _⟩
  · rcases h2 with ⟨h2, _⟩ | ⟨_, fl, its, cs, cs', _, _, _, _, _, _, h3⟩
    · exact absurd h2.symm hc
    · rcases h3 k hk with h3 | h3
      · exact absurd (tmN_gone hg) h3
      · cases h3
  · exact ⟨t, h⟩
theorem fwd_gone {ps : List (List Int)} {ts gn : List Int} {n fi k : Nat} {v : Value} {Dom : Nat → Prop} (h : FwdV false (prN ps gn n) (tmN ts gn n) Dom fi k v) (hne : k ≠ fi) (hg : gn.contains (fi : Int) = true ∨ gn.contains (k : Int) = true) : ∃ t, v = .str "missing" t := by
  rcases h with ⟨r, rfl, h2⟩ | ⟨t, h, _⟩
  · rcases h2 with ⟨h2, _⟩ | ⟨_, ⟨_, h2, _⟩ | ⟨mn, ks, h3, h4, _⟩⟩
    · exact absurd h2.symm hne
    · cases h2
    · refine el47 h4 fun fl its cs cs' _ _ _ _ _ _ h5 => ?_; try clear h4
      rcases hg with hg | hg
      · rw [tmN_gone hg] at h3; cases h3
      · rcases h5 k (by simp) with h5 | h5
        · exact absurd (tmN_gone hg) h5
        · cases h5
  · exact ⟨t, h⟩
theorem fwd_self {b : Bool} {pr : Nat → Option (List Nat)} {tm : Nat → Option Int} {Dom : Nat → Prop} {k : Nat} {v : Value} (h : FwdV b pr tm Dom k k v) : v = .bool true := by
  rcases h with ⟨r, rfl, h2⟩ | ⟨t, _, _, _, h⟩
  · rcases h2 with ⟨_, rfl⟩ | ⟨h, _⟩
    · rfl
    · exact absurd rfl h
  · exact absurd rfl h
end Jr
end
-- LL
section
namespace Jr
open PySem PySem.W PySem.Calls PySem.SeqAt PySem.Builtin PyProof.Rows PySem.Spec
variable {x : Wd} {g : Heap} {l : List Ent} {w : World} {A : Around} {E : Value → Shared → Prop} {s : Shared} {env : Env} {mg mb : Str → Option Value}


theorem contains_ofNat {os : List Nat} {k : Nat} : (os.map Int.ofNat).contains (k : Int) = decide (k ∈ os) := by
  rw [Bool.eq_iff_iff, List.contains_iff_mem, decide_eq_true_iff, List.mem_map]
  constructor
  · intro hR0
    refine el12 hR0 fun a ha e => ?_; try clear hR0
    have : a = k := Int.ofNat.inj e
    subst this; exact ha
  · exact fun h => (in12 k h rfl)

set_option maxHeartbeats 8000000 in
theorem lw_14 {st : Stmt} {sc : Scope} {c : Cs} {L f P' : Addr} {m : Str → Option Value} {sh : Value} {b : Bool} {ps : List (List Int)} {ts gn : List Int} {fi : Nat} {os : List Nat} {Qn : Int → Int → Str} {pt qt : Array Value} {Q : Flow → Shared → Prop}
    (hst : (bodyOf w 126)[14]? = some st) (hsc : scopeOf w 126 = some sc) (G : LwG w mg mb g c f P' sh b ps ts gn fi os Qn) (S : St x g ((L, NsP m) :: (P', (· = tabObj pt)) :: (87, (· = tabObj qt)) :: l) s) (T' : TabOk g Qt pt) (T : TabOk g Qn qt)
    (hd : A.depth < 690) (hu : A.units < 800) (hh : A.handled = none) (hF : ∀ r, FrOk A.frames ((L, NsP r) :: l))
    (h1 : b = false → gn ≠ [] → ∀ x' g' qt' s', Le g g' → St x' g' ((87, (· = tabObj qt')) :: l) s' → Side x x' → Q (.ret (.bool true)) s')
    (h2 : (b = true ∨ gn = []) → ∀ s', St x g ((L, NsP m) :: (P', (· = tabObj pt)) :: (87, (· = tabObj qt)) :: l) s' → Q .next s') :
    wpAny (model PP w) A (exec st (lwEnv sc c L)) Q E s := by
  have e0 := @_root_.id ((KK w).lookup 126 = some _) rfl
  have e := @_root_.id ((bodyOf w 126)[14]? = some _) (by unfold bodyOf; rw [e0]; exact rfl)
  rw [e] at hst
  cases hst
  have e2 := @_root_.id (scopeOf w 126 = some _) (by unfold scopeOf; rw [e0])
  rw [e2] at hsc
  cases hsc
  clear e e0 e2
  have W := G.G.W
  refine el12 (id G.gone) fun gv hgc hgl => ?_
  refine el23 (id hgl) fun ga gvs e34_ hgal hgap => ?_; subst e34_
  have hglen := pairLen hgap
  refine wpAny_If (wpAny_isTrue_BoolOp (wpAny_allTrue_And_cons (wpAny_isTrue_Not (wpAny_isTrue_value ?_))))
  refine ldZ S (.inl rfl) rfl rfl G.G.marks (truthySh G.G.sh S fun s1 S1 => ?_)
  cases b with
  | true =>
    rw [if_neg (by decide), if_neg (by decide)]
    exact wpAny_execs_nil (h2 (.inl rfl) s1 S1)
  | false =>
  rw [if_pos (by decide)]
  refine wpAny_allTrue_And_cons (wpAny_isTrue_Compare1 ?_)
  refine ldZ S1 (.inl rfl) rfl rfl hgc (List_ (wpAny_items_nil (nwList S1 (by size_fits) fun a1 s2 S2 => ?_)))
  refine neNil (isList_le hgal S2.keep) (S2.list (List.mem_cons_self ..)) (by rw [cLine_is]; walk_at "om") (wpAny_truthy_bool ?_)
  by_cases hgn : gn = []
  · have hgv : gvs = [] := by rw [hgn] at hglen; exact List.length_eq_zero_iff.mp hglen.symm
    rw [hgv, if_neg (by decide), if_neg (by decide)]
    exact wpAny_execs_nil (h2 (.inr hgn) s2 S2.drop)
  have hgv : gvs.isEmpty = false := by
    cases gvs with
    | nil => exact absurd (List.length_eq_zero_iff.mp hglen) hgn
    | cons _ _ => rfl
  rw [hgv, if_pos (by decide)]
  refine wpAny_allTrue_And_nil ?_
  rw [if_pos rfl]
  have S3 := S2.drop
  -- base
  refine wpAny_execs_cons (wpAny_Assign_Name (callBase (mg := mg) (mb := mb) (g := g) (l1 := [(L, NsP m)]) (l2 := l) (c1 := fi) (c2s := os) G.G S3 T' T (by walk_at "om") (by walk_at "om") hh (hF m) rfl rfl rfl rfl rfl rfl rfl G.told G.first G.others (by have := G.ol; walk_at "om") G.D (G.hR 0 fi os) fun x1 g1 qt1 pt1 s3 v k1 S4 hx1 T1 T2 hb => ?_))
  have G1 := G.le k1
  have W1 := G1.G.W
  refine el12 (id G1.gone) fun gv1 hgc1 hgl1 => ?_
  refine el12 (id G1.others) fun ov1 hoc1 hol1 => ?_
  refine el23 (id hol1) fun oa ovs e35_ hoal hoap => ?_; subst e35_
  have holen := pairLen hoap
  refine el11 (id G1.first) fun tf1 hfc1 => ?_
  have hol3 := G.ol
  simp at holen
  refine el22 (W1.fn 121 rfl rfl) fun o121 fd121 h121 h121d => ?_
  refine stL S4 rfl rfl .head fun s4 S5 => ?_
  -- after the checks of base
  refine wpAny_execs_cons (cut (fun r s' => r = .next ∧ ∃ g2, Le g1 g2 ∧ St x1 g2 ((L, NsP (upd m "base" v)) :: (P', (· = tabObj pt1)) :: (87, (· = tabObj qt1)) :: l) s') (wpAny_If (wpAny_isTrue_BoolOp (wpAny_allTrue_Or_cons (wpAny_isTrue_Compare1 ?_)))) ?_)
  · refine ldZ S5 (.inl rfl) rfl rfl hoc1 (List_ (wpAny_items_nil (nwList S5 (by size_fits) fun a2 s5 S6 => ?_)))
    refine eqNil (isList_le hoal S6.keep) (S6.list (List.mem_cons_self ..)) (by rw [cLine_is]; walk_at "om") (wpAny_truthy_bool ?_)
    have S7 := S6.drop
    by_cases hos : os = [] ∨ fi ∈ os
    · refine el23 (base_alone hb hos) fun ba bvs e36_ hbal hbap => ?_; subst e36_
      by_cases ho : os = []
      all_goals first
        | (have : ovs = [] := by rw [ho] at holen; exact List.length_eq_zero_iff.mp holen.symm
           rw [this, if_pos (by decide)])
        | (have hov : ovs.isEmpty = false := by
             cases ovs with
             | nil => exact absurd (List.length_eq_zero_iff.mp holen) ho
             | cons _ _ => rfl
           rw [hov, if_neg (by decide)]
           refine wpAny_allTrue_Or_cons (wpAny_isTrue_Compare1 ?_)
           refine ldZ S7 (.inl rfl) rfl rfl hfc1 (ldZ S7 (.inl rfl) rfl rfl hoc1 (inI hol1 S7.keep (wpAny_truthy_bool ?_)))
           have hin : fi ∈ os := hos.resolve_left ho
           rw [contains_ofNat, decide_eq_true hin, if_pos rfl])
      all_goals
        rw [if_pos (by decide)]
        refine wpAny_execs_cons (wpAny_If (wpAny_isTrue_Compare1 ?_))
        refine ldL S7 rfl rfl (by k_mem) upd_same (List_ (wpAny_items_cons (callFn ?_)))
        refine ldGW (v := .ref 121) W1 S7 rfl rfl rfl (by kernel_rfl) (in33 121 o121 fd121 rfl h121d (wpAny_items_cons (ldZ S7 (.inl rfl) rfl rfl hfc1 (wpAny_items_nil ⟨S7.keep _ _ h121, ?_⟩))))
        refine law_name W1 S7 (by walk_at "om") hh (by walk_at "om") (by have := G.fi; have := G.n10; walk_at "om") fun t1 s7 S9 => wpAny_items_nil (nwList S9 (by size_fits) fun a3 s8 S10 => ?_)
        refine neNames (isList_le hbal S10.keep) (S10.list (List.mem_cons_self ..)) hbap (.cons ⟨by have := G.fi; have := G.n10; walk_at "om", ⟨t1, rfl⟩⟩ .nil) (by rw [cLine_is]; walk_at "om") (wpAny_truthy_bool ?_)
        rw [if_neg (by simp)]
        exact wpAny_execs_nil (wpAny_execs_nil ⟨rfl, (in12 g1 (Le.refl _) (S10.drop))⟩)
    · have ho : os ≠ [] := fun e => hos (.inl e)
      have hin : ¬ fi ∈ os := fun e => hos (.inr e)
      have hov : ovs.isEmpty = false := by
        cases ovs with
        | nil => exact absurd (List.length_eq_zero_iff.mp holen) ho
        | cons _ _ => rfl
      rw [hov, if_neg (by decide)]
      refine wpAny_allTrue_Or_cons (wpAny_isTrue_Compare1 ?_)
      refine ldZ S7 (.inl rfl) rfl rfl hfc1 (ldZ S7 (.inl rfl) rfl rfl hoc1 (inI hol1 S7.keep (wpAny_truthy_bool ?_)))
      rw [contains_ofNat, decide_eq_false hin, if_neg (by decide)]
      refine wpAny_allTrue_Or_nil ?_
      rw [if_neg (by decide)]
      refine wpAny_execs_cons (wpAny_If (wpAny_isTrue_BoolOp (wpAny_allTrue_And_cons (wpAny_isTrue_Compare1 ?_))))
      refine compL (x := x1) (g := g1) (y := "k") rfl rfl (by decide) rfl rfl hh (fun _ => rfl) (wpAny_BinOp (List_ (wpAny_items_cons ?_)))
      refine ldZ S7 (.inl rfl) rfl rfl hfc1 (wpAny_items_nil (nwList S7 (by size_fits) fun a4 s6 S8 => ldZ S8 (.inl rfl) rfl rfl hoc1 ?_))
      refine addLL S8 (S8.list (List.mem_cons_self ..)) (isList_le hoal S8.keep) (by rw [sizeLine_eq]; simp; walk_at "om") fun a5 s7 S9 => ?_
      refine el25 (S9.freeze) fun g2 o2 k2 e2 q2 _ S10 => ?_
      have hids : Paired IntV ((fi :: os).map Int.ofNat) ([Value.int (fi : Nat) tf1] ++ ovs) := .cons ⟨tf1, rfl⟩ hoap
      refine itsList S10.drop (in13 o2 e2 (q2.1) (q2.2.2)) fun ii s8 hI => ?_
      refine (in44 g2 _ _ _ k2 hI (by simp; walk_at "om") (in24 (fun j => gn.contains (((fi :: os).getD j 0 : Nat) : Int)) (fun _ _ _ => True) (fun _ _ _ _ _ q => q) ?_ ?_ ?_))
      · rintro C j v2 g3 m3 r3 s9 hj hv hg3 hr hm3 S11
        refine el12 (pairGet' hids hv) fun pp hpp z37_ => ?_; refine el11 z37_ fun u5 e38_ => ?_; try clear z37_; subst e38_
        rw [List.getElem?_map] at hpp
        cases hcj : (fi :: os)[j]? with
        | none => rw [hcj] at hpp; cases hpp
        | some cj =>
          rw [hcj] at hpp
          have hpp' : (cj : Int) = pp := Option.some.inj hpp
          subst hpp'
          have e : (fi :: os).getD j 0 = cj := by rw [List.getD_eq_getElem?_getD, hcj]; rfl
          refine wpAny_tests_one (wpAny_isTrue_Compare1 ?_)
          refine ldL S11 rfl rfl (by k_mem) hm3 (ldZ S11 (.inl rfl) rfl rfl (hgc1.le (k2.trans hg3)) (inI hgl1 ((k2.trans hg3).trans S11.keep) (wpAny_truthy_bool ⟨?_, (in12 g3 (Le.refl _) S11)⟩)))
          show _ = gn.contains (((fi :: os).getD j 0 : Nat) : Int)
          rw [e]
      · rintro C j v2 g3 m3 r3 s9 hj hv _ hg3 hr hm3 S11
        exact ldL S11 rfl rfl (by k_mem) hm3 (in13 g3 (Le.refl _) S11 trivial)
      · intro acc g3 ys s9 hg3 hP S11
        refine List_ (wpAny_items_nil (nwList S11 (by size_fits) fun a6 s10 S12 => ?_))
        refine neNil (S12.list (.tail _ (.head _))) (S12.list (List.mem_cons_self ..)) (by rw [cLine_is]; walk_at "om") (wpAny_truthy_bool ?_)
        have hylen := pairLen hP
        have S13 := S12.drop.drop
        cases hys : ys.isEmpty with
        | true =>
          rw [if_neg (by decide), if_neg (by decide)]
          exact wpAny_execs_nil (wpAny_execs_nil ⟨rfl, (in12 g3 (k2.trans hg3) S13)⟩)
        | false =>
          rw [if_pos (by decide)]
          obtain ⟨j, hj⟩ : ∃ j, j ∈ (List.range ([Value.int (fi : Nat) tf1] ++ ovs).length).filter (fun j => gn.contains (((fi :: os).getD j 0 : Nat) : Int)) := by
            refine List.exists_mem_of_length_pos ?_
            rw [hylen]
            cases ys with
            | nil => cases hys
            | cons _ _ => simp
          refine el02 (List.mem_filter.mp hj) fun hj1 hj2 => ?_
          have hj3 : j < (fi :: os).length := by have := List.mem_range.mp hj1; simp at this ⊢; walk_at "om"
          have hmem : (fi :: os).getD j 0 ∈ fi :: os := by
            have : (fi :: os).getD j 0 = (fi :: os)[j] := by rw [List.getD_eq_getElem?_getD, List.getElem?_eq_getElem hj3]; rfl
            rw [this]; exact List.getElem_mem hj3
          refine el11 (base_gone hb hos hmem hj2) fun tm' e39_ => ?_; subst e39_
          refine wpAny_allTrue_And_cons (wpAny_isTrue_Compare1 ?_)
          refine ldL S13 rfl rfl (by k_mem) upd_same (cStr S13 fun t3 s11 S14 => PyProof.Rows.ne_str (wpAny_truthy_bool ?_))
          rw [if_neg (by decide), if_neg (by decide)]
          exact wpAny_execs_nil (wpAny_execs_nil ⟨rfl, (in12 g3 (k2.trans hg3) S14)⟩)
  · intro _ s5 hR2
    refine el02 hR2 fun e40_ z41_ => ?_; try clear hR2; subst e40_; refine el12 z41_ fun g2 k2 S6 => ?_; try clear z41_
    have k02 := k1.trans k2
    have G2 := G1.le k2
    refine el11 (id G2.first) fun tf2 hfc2 => ?_
    -- told of itself
    refine wpAny_execs_cons (wpAny_If (wpAny_isTrue_Compare1 (callFwd (mg := mg) (mb := mb) (g := g2) (l1 := [(L, NsP (upd m "base" v))]) (l2 := l) (c1 := fi) (c2 := fi) G2.G S6 (T1.le k2) (T2.le k2) (by walk_at "om") (by walk_at "om") hh (hF _) rfl rfl rfl rfl rfl G2.told G2.first G2.fi G2.fi
      (fun s' Q' S' hq => ldZ S' (.inl rfl) rfl rfl hfc2 (hq tf2)) rfl (fun mn _ => G.hR mn fi [fi]) fun x3 g3 qt3 pt3 s6 u k3 S7 hx3 T3 T4 hu => ?_)))
    obtain rfl := fwd_self hu
    refine cBool (wpAny_isNot_plain rfl (wpAny_truthy_bool ?_))
    rw [if_neg (by decide)]
    have k03 := k02.trans k3
    have G3 := G2.le k3
    have W3 := G3.G.W
    have hx03 : Side x x3 := ⟨hx3.1.trans hx1.1, fun h => hx3.2 (hx1.2 h)⟩
    refine el11 (id G3.size) fun tz3 hz3 => ?_
    refine el11 (id G3.first) fun tf3 hfc3 => ?_
    refine el12 (id G3.gone) fun gv3 hgc3 hgl3 => ?_
    have hn10 := G.n10
    refine wpAny_execs_nil (wpAny_execs_cons (wpAny_Return_some (callBi ?_)))
    refine ldBW W3 S7 rfl rfl rfl rfl (by kernel_rfl) (by boot_fast) (in12 _ rfl (wpAny_items_cons ?_))
    refine compLX (x := x3) (g := g3) (y := "k") rfl rfl (by decide) rfl rfl hh (fun _ => rfl) ?_
    refine callTy ?_
    refine ldBW W3 S7 rfl rfl rfl rfl (by kernel_rfl) (by boot_fast) (in12 _ rfl (wpAny_items_cons (ldZ S7 (.inl rfl) rfl rfl hz3 (wpAny_items_nil ?_))))
    refine callRange S7 fun r s7 S8 => itsRange S8 (by walk_at "om") (by walk_at "om") fun ii s8 hI => ?_
    rw [Int.toNat_natCast] at hI
    refine ⟨g3, _, _, _, Le.refl _, hI, by walk_at "om", fun x' g' l' => ∃ pt' qt', l' = (L, NsP (upd m "base" v)) :: (P', (· = tabObj pt')) :: (87, (· = tabObj qt')) :: l ∧ Side x x' ∧ TabOk g' Qt pt' ∧ TabOk g' Qn qt', fun v => v = .bool true, (in24 pt3 qt3 rfl hx03 T3 T4), ?_, ?_⟩
    · intro C i vi x4 g4 m4 pre _ s9 hi hR10 hg4 hm4 hR13 S9
      refine el11 hR10 fun ti e42_ => ?_; try clear hR10; subst e42_
      refine el24 hR13 fun pt4 qt4 e43_ hx4 T5 T6 => ?_; try clear hR13; subst e43_
      rw [Int.zero_add] at *
      have G4 := G3.le hg4
      have out : ∀ s', St x4 g4 ((C, NsP m4) :: (pre ++ (L, NsP (upd m "base" v)) :: (P', (· = tabObj pt4)) :: (87, (· = tabObj qt4)) :: l)) s' → ∃ x'' g'' l'', Le g4 g'' ∧ St x'' g'' ((C, NsP m4) :: (pre ++ l'')) s' ∧ ∃ pt' qt', l'' = (L, NsP (upd m "base" v)) :: (P', (· = tabObj pt')) :: (87, (· = tabObj qt')) :: l ∧ Side x x'' ∧ TabOk g'' Qt pt' ∧ TabOk g'' Qn qt' :=
        fun s' S' => (in33 x4 g4 _ (Le.refl _) S' (in24 pt4 qt4 rfl hx4 T5 T6))
      refine wpAny_tests_one (wpAny_isTrue_BoolOp (wpAny_allTrue_And_cons (wpAny_isTrue_Compare1 ?_)))
      refine ldL S9 rfl rfl (by k_mem) hm4 (ldZ S9 (.inl rfl) rfl rfl (hfc3.le hg4) (PyProof.Rows.ne_int (wpAny_truthy_bool ?_)))
      by_cases hne : i = fi
      · rw [if_neg (by simp [hne]), if_neg (by decide)]
        exact out _ S9
      rw [if_pos (bne_iff_ne.mpr fun e => hne (by walk_at "om"))]
      refine wpAny_allTrue_And_cons (wpAny_isTrue_BoolOp (wpAny_allTrue_Or_cons (wpAny_isTrue_Compare1 ?_)))
      refine ldZ S9 (.inl rfl) rfl rfl (hfc3.le hg4) (ldZ S9 (.inl rfl) rfl rfl (hgc3.le hg4) (inI hgl3 (hg4.trans S9.keep) (wpAny_truthy_bool ?_)))
      by_cases hg : gn.contains (fi : Int) = true ∨ gn.contains (i : Int) = true
      · by_cases hg1 : gn.contains (fi : Int) = true
        all_goals first
          | (rw [hg1, if_pos (by decide), if_pos (by decide)]; refine wpAny_allTrue_And_nil ?_)
          | (rw [Bool.eq_false_iff.mpr hg1, if_neg (by decide)]
             refine wpAny_allTrue_Or_cons (wpAny_isTrue_Compare1 ?_)
             refine ldL S9 rfl rfl (by k_mem) hm4 (ldZ S9 (.inl rfl) rfl rfl (hgc3.le hg4) (inI hgl3 (hg4.trans S9.keep) (wpAny_truthy_bool ?_)))
             rw [hg.resolve_left hg1, if_pos (by decide), if_pos (by decide)]
             refine wpAny_allTrue_And_nil ?_)
        all_goals
          rw [if_pos (by decide)]
          have S9' : St x4 g4 (((C, NsP m4) :: (pre ++ [(L, NsP (upd m "base" v))])) ++ (P', (· = tabObj pt4)) :: (87, (· = tabObj qt4)) :: l) s9 := by simpa using S9
          refine wpAny_Compare1 (callFwd (mg := mg) (mb := mb) (g := g4) (l1 := (C, NsP m4) :: (pre ++ [(L, NsP (upd m "base" v))])) (l2 := l) (c1 := fi) (c2 := i) G4.G S9' T5 T6 (by walk_at "om") (by walk_at "om") hh ((hF (upd m "base" v)).sub fun q hq => by simp at hq ⊢; rcases hq with hq | hq <;> simp [hq]) rfl rfl rfl rfl rfl G4.told G4.first G4.fi hi
            (fun s' Q' S' hq => ldL S' rfl rfl (by k_mem) hm4 (hq ti)) rfl (fun mn _ => G.hR mn fi [i]) fun x5 g5 qt5 pt5 s10 u k5 S10 hx5 T7 T8 hu => ?_)
          obtain ⟨tu, rfl⟩ := fwd_gone hu hne hg
          refine cStr S10 fun t3 s11 S11 => PyProof.Rows.eq_str ⟨rfl, (in33 x5 g5 ((L, NsP (upd m "base" v)) :: (P', (· = tabObj pt5)) :: (87, (· = tabObj qt5)) :: l) k5 (by simpa using S11) (in24 pt5 qt5 rfl ⟨hx5.1.trans hx4.1, fun h => hx5.2 (hx4.2 h)⟩ T7 T8))⟩
      · have hg1 : gn.contains (fi : Int) = false := Bool.eq_false_iff.mpr fun e => hg (.inl e)
        have hg2 : gn.contains (i : Int) = false := Bool.eq_false_iff.mpr fun e => hg (.inr e)
        rw [hg1, if_neg (by decide)]
        refine wpAny_allTrue_Or_cons (wpAny_isTrue_Compare1 ?_)
        refine ldL S9 rfl rfl (by k_mem) hm4 (ldZ S9 (.inl rfl) rfl rfl (hgc3.le hg4) (inI hgl3 (hg4.trans S9.keep) (wpAny_truthy_bool ?_)))
        rw [hg2, if_neg (by decide)]
        refine wpAny_allTrue_Or_nil ?_
        rw [if_neg (by decide), if_neg (by decide)]
        exact out _ S9
    · intro acc x4 g4 _ ys s9 hg4 hR7 hys S9
      refine el24 hR7 fun pt4 qt4 e44_ hx4 T5 T6 => ?_; try clear hR7; subst e44_
      refine el25 (S9.freeze) fun g5 o5 k5 e5 q5 _ S10 => ?_
      refine wpAny_items_nil (allL S10 hh (in13 o5 e5 (q5.1) (q5.2.2)) hys fun s10 S11 => ?_)
      exact h1 rfl hgn x4 g5 qt4 s10 (k03.trans (hg4.trans k5)) S11.drop.drop hx4
end Jr
end
-- LM
section
namespace Jr
open PySem PySem.W PySem.Calls PySem.SeqAt PySem.Builtin PyProof.Rows PySem.Spec
variable {x : Wd} {g : Heap} {l : List Ent} {w : World} {A : Around} {E : Value → Shared → Prop} {s : Shared} {env : Env} {mg mb : Str → Option Value}


def comL (fb : List (List Int)) (fi : Nat) (os : List Nat) : List Int :=
  if os = [] then [(fi : Int)] else (fb.getD fi []).filter fun k => !((os.map Int.ofNat).filter fun j => (fb.getD j.toNat []).contains k).isEmpty
def grL (fb : List (List Int)) (cm : List Int) : List Int := cm.filter fun k => (cm.filter fun j => j != k && (fb.getD j.toNat []).contains k).isEmpty
theorem foreN_len {ps : List (List Int)} : ∀ k, (foreN ps k).length = k := by
  intro k
  induction k with
  | zero => rfl
  | succ k ih => simp [foreN, ih]
theorem ne_nil_isEmpty {α β : Type} {a : List α} {b : List β} (h : a.length = b.length) : a.isEmpty = b.isEmpty := isEmpty_len h

set_option maxHeartbeats 8000000 in
theorem lw_15 {st : Stmt} {sc : Scope} {c : Cs} {L f P' : Addr} {m : Str → Option Value} {sh : Value} {b : Bool} {ps : List (List Int)} {ts gn : List Int} {fi : Nat} {os : List Nat} {Qn : Int → Int → Str} {Q : Flow → Shared → Prop}
    (hst : (bodyOf w 126)[15]? = some st) (hsc : scopeOf w 126 = some sc) (G : LwG w mg mb g c f P' sh b ps ts gn fi os Qn) (S : St x g ((L, NsP m) :: (c.common, CellP none) :: l) s) (hu : A.units < 800) (hh : A.handled = none)
    (hrow : (((foreN (psE ps gn) ps.length)).getD fi []).length ≤ 100)
    (h : ∀ g' s', Le g g' → CzL g' c.common (comL (foreN (psE ps gn) ps.length) fi os) → St x g' ((L, NsP m) :: l) s' → Q .next s') :
    wpAny (model PP w) A (exec st (lwEnv sc c L)) Q E s := by
  have e0 := @_root_.id ((KK w).lookup 126 = some _) rfl
  have e := @_root_.id ((bodyOf w 126)[15]? = some _) (by unfold bodyOf; rw [e0]; exact rfl)
  rw [e] at hst
  cases hst
  have e2 := @_root_.id (scopeOf w 126 = some _) (by unfold scopeOf; rw [e0])
  rw [e2] at hsc
  cases hsc
  clear e e0 e2
  have W := G.G.W
  have hfi := G.fi
  have hn10 := G.n10
  refine el11 (id G.first) fun tf hfc => ?_
  refine el12 (id G.others) fun ov hoc hol => ?_
  refine el23 (id hol) fun oa ovs e302_ hoal hoap => ?_; subst e302_
  have holen := pairLen hoap
  have hol3 := G.ol
  simp at holen
  refine el12 (id G.fore) fun fv hfbc hfbl => ?_
  have hfbn : (foreN (psE ps gn) ps.length).length = ps.length := foreN_len _
  generalize hfb : foreN (psE ps gn) ps.length = fb at *
  refine wpAny_Assign_Name (cut (fun v s' => ∃ a vs g1, v = .ref a ∧ Le g g1 ∧ Paired IntV (comL fb fi os) vs ∧ St x g1 ((a, ListP vs) :: (L, NsP m) :: (c.common, CellP none) :: l) s') (wpAny_IfExp (wpAny_isTrue_Compare1 ?_)) ?_)
  · refine ldZ S (.inl rfl) rfl rfl hoc (List_ (wpAny_items_nil (nwList S (by size_fits) fun a1 s1 S1 => ?_)))
    refine neNil (isList_le hoal S1.keep) (S1.list (List.mem_cons_self ..)) (by rw [cLine_is]; walk_at "om") (wpAny_truthy_bool ?_)
    have S2 := S1.drop
    by_cases hos : os = []
    · have : ovs = [] := by rw [hos] at holen; exact List.length_eq_zero_iff.mp holen.symm
      rw [this, if_neg (by decide)]
      refine List_ (wpAny_items_cons (ldZ S2 (.inl rfl) rfl rfl hfc (wpAny_items_nil (nwList S2 (by size_fits) fun a2 s2 S3 => ?_))))
      refine (in34 a2 _ g rfl (Le.refl _) ?_ S3)
      unfold comL; rw [if_pos hos]
      exact .cons ⟨tf, rfl⟩ .nil
    · have hov : ovs.isEmpty = false := by
        cases ovs with
        | nil => exact absurd (List.length_eq_zero_iff.mp holen) hos
        | cons _ _ => rfl
      rw [hov, if_pos (by decide)]
      have hrowf : fb[fi]? = some (fb.getD fi []) := by simp [show fi < fb.length by walk_at "om"]
      refine compC (x := x) (g := g) (y := "k") rfl rfl (by decide) rfl (fun _ _ => rfl) hh (fun _ => rfl) (subs ?_)
      refine ldZ S2 (.inl rfl) rfl rfl hfbc (ldZ S2 (.inl rfl) rfl rfl hfc ?_)
      refine idxLL hfbl S2.keep (by walk_at "om") (by walk_at "om") (by rw [Int.toNat_natCast]; exact hrowf) fun rv hrv => ?_
      refine el23 hrv fun ra rvs e303_ hrl hrp => ?_; try clear hrv; subst e303_
      have hrlen := pairLen hrp
      refine itsList S2 hrl fun i1 s2 hI => ?_
      refine (in44 g _ _ _ (Le.refl _) hI (by walk_at "om") (in24 (fun i => !((os.map Int.ofNat).filter fun j => (fb.getD j.toNat []).contains ((fb.getD fi []).getD i 0)).isEmpty) (fun _ i v => IntV ((fb.getD fi []).getD i 0) v) (fun _ _ _ _ _ q => q) ?_ ?_ ?_))
      · rintro C bb i v g1 m1 r1 s3 hi hv hg1 hr S3
        refine nameQ ?_; intro Qz
        refine el12 (pairGet' hrp hv) fun kk hkk z304_ => ?_; refine el11 z304_ fun u5 e305_ => ?_; try clear z304_; subst e305_
        have ek : (fb.getD fi []).getD i 0 = kk := by rw [List.getD_eq_getElem?_getD, hkk]; rfl
        refine wpAny_tests_one (wpAny_isTrue_Compare1 ?_)
        refine compL (x := x) (g := g1) (y := "j") rfl rfl (by decide) rfl rfl hh (fun _ => rfl) ?_
        refine ldZ S3 (.inl rfl) rfl rfl (hoc.le hg1) (itsList S3 (isList_le hoal hg1) fun i3 s4 hI2 => ?_)
        refine (in44 g1 _ _ _ (Le.refl _) hI2 (by walk_at "om") (in24 (fun j => (fb.getD (((os.map Int.ofNat).getD j 0).toNat) []).contains kk) (fun _ _ _ => True) (fun _ _ _ _ _ q => q) ?_ ?_ ?_))
        · rintro C2 j v2 g2 m2 r2 s5 hj hv2 hg2 hr2 hm2 S5
          refine nameQ ?_; intro Qz
          refine el12 (pairGet' hoap hv2) fun jj hjj z306_ => ?_; refine el11 z306_ fun u6 e307_ => ?_; try clear z306_; subst e307_
          have ej : (os.map Int.ofNat).getD j 0 = jj := by rw [List.getD_eq_getElem?_getD, hjj]; rfl
          have hjb : 0 ≤ jj ∧ jj < ps.length := by
            refine el12 (List.mem_map.mp (List.mem_of_getElem? hjj)) fun o ho e308_ => ?_; subst e308_
            have := G.osl o ho
            exact ⟨Int.natCast_nonneg _, by show (o : Int) < _; walk_at "om"⟩
          have hrowj : fb[jj.toNat]? = some (fb.getD jj.toNat []) := by simp [show jj.toNat < fb.length by walk_at "om"]
          refine wpAny_tests_one (wpAny_isTrue_Compare1 ?_)
          refine ldC S5 rfl rfl rfl (.tail _ (hr2 _ (by k_mem))) (subs ?_)
          refine ldZ S5 (.inl rfl) rfl rfl (hfbc.le (hg1.trans hg2)) (ldL S5 rfl rfl (by k_mem) hm2 ?_)
          refine idxLL hfbl ((hg1.trans hg2).trans S5.keep) (by walk_at "om") (by walk_at "om") hrowj fun rv2 hrv2 => ?_
          refine inI hrv2 ((hg1.trans hg2).trans S5.keep) (wpAny_truthy_bool ⟨?_, (in12 g2 (Le.refl _) S5)⟩)
          show _ = (fb.getD (((os.map Int.ofNat).getD j 0).toNat) []).contains kk
          rw [ej]
        · rintro C2 j v2 g2 m2 r2 s5 hj hv2 _ hg2 hr2 hm2 S5
          refine nameQ ?_; intro Qz
          exact ldL S5 rfl rfl (by k_mem) hm2 (in13 g2 (Le.refl _) S5 trivial)
        · intro acc g2 ys s5 hg2 hP S5
          refine List_ (wpAny_items_nil (nwList S5 (by size_fits) fun eb s6 S6 => ?_))
          refine neNil (S6.list (by k_mem)) (S6.list (List.mem_cons_self ..)) (by rw [cLine_is]; walk_at "om") (wpAny_truthy_bool ⟨?_, (in12 g2 hg2 (S6.drop.drop))⟩)
          show (!ys.isEmpty) = !((os.map Int.ofNat).filter fun j => (fb.getD j.toNat []).contains ((fb.getD fi []).getD i 0)).isEmpty
          rw [ek]
          congr 1
          rw [← filter_range (os.map Int.ofNat) 0, List.isEmpty_map]
          refine isEmpty_len ?_
          have e3 := pairLen hP
          rw [← e3]
          simp [holen]
      · rintro C bb i v g1 m1 r1 s3 hi hv _ hg1 hr S3
        refine nameQ ?_; intro Qz
        refine el12 (pairGet' hrp hv) fun kk hkk z309_ => ?_; refine el11 z309_ fun u5 e310_ => ?_; try clear z309_; subst e310_
        have ek : (fb.getD fi []).getD i 0 = kk := by rw [List.getD_eq_getElem?_getD, hkk]; rfl
        refine ldC S3 rfl rfl rfl (by k_mem) (in13 g1 (Le.refl _) S3 ?_)
        show IntV ((fb.getD fi []).getD i 0) _
        rw [ek]; exact ⟨u5, rfl⟩
      · intro acc g1 ys s3 hg1 hP S3
        refine (in34 acc ys g1 rfl hg1 ?_ S3)
        unfold comL
        rw [if_neg hos, ← filter_range (fb.getD fi []) 0]
        refine pairMap' ?_
        rw [hrlen]; exact hP
  · intro _ s2 hR2
    refine el34 hR2 fun a vs g1 e311_ hg1 hP S2 => ?_; try clear hR2; subst e311_
    refine el25 (S2.freeze) fun g2 o2 k2 e2 q2 _ S3 => ?_
    refine setCell (S3.perm (.swap ..)) rfl rfl rfl fun g3 s3 k3 hc S4 => ?_
    exact h g3 s3 (hg1.trans (k2.trans k3)) (in12 _ hc (in23 a vs rfl (isList_le (in13 o2 e2 (q2.1) (q2.2.2)) k3) hP)) S4
end Jr
end
-- LN
section
namespace Jr
open PySem PySem.W PySem.Calls PySem.SeqAt PySem.Builtin PyProof.Rows PySem.Spec
variable {x : Wd} {g : Heap} {l : List Ent} {w : World} {A : Around} {E : Value → Shared → Prop} {s : Shared} {env : Env} {mg mb : Str → Option Value}


set_option maxHeartbeats 8000000 in
theorem lw_16 {st : Stmt} {sc : Scope} {c : Cs} {L : Addr} {m : Str → Option Value} {fb : List (List Int)} {cm : List Int} {n : Nat} {Q : Flow → Shared → Prop}
    (hst : (bodyOf w 126)[16]? = some st) (hsc : scopeOf w 126 = some sc) (S : St x g ((L, NsP m) :: l) s) (hu : A.units < 800) (hh : A.handled = none)
    (hfb : CzLL g c.forebears fb) (hcm : CzL g c.common cm) (hfn : fb.length = n) (hn : n ≤ 10) (hcl : cm.length ≤ 100) (hcb : ∀ k ∈ cm, 0 ≤ k ∧ k < (n : Int))
    (h : ∀ g' s' acc ys, Le g g' → Paired IntV (grL fb cm) ys → St x g' ((acc, ListP ys) :: (L, NsP (upd m "greatest" (.ref acc))) :: l) s' → Q .next s') :
    wpAny (model PP w) A (exec st (lwEnv sc c L)) Q E s := by
  have e0 := @_root_.id ((KK w).lookup 126 = some _) rfl
  have e := @_root_.id ((bodyOf w 126)[16]? = some _) (by unfold bodyOf; rw [e0]; exact rfl)
  rw [e] at hst
  cases hst
  have e2 := @_root_.id (scopeOf w 126 = some _) (by unfold scopeOf; rw [e0])
  rw [e2] at hsc
  cases hsc
  clear e e0 e2
  refine el12 hfb fun fv hfbc hfbl => ?_; try clear hfb
  refine el12 hcm fun cv hcc z294_ => ?_; try clear hcm; refine el23 z294_ fun ca cvs e295_ hcal hcp => ?_; try clear z294_; subst e295_
  have hclen := pairLen hcp
  refine compCA (x := x) (g := g) (y := "k") rfl rfl rfl rfl rfl (by decide) rfl (fun _ _ => rfl) hh (fun _ => rfl) ?_
  refine ldZ S (.inl rfl) rfl rfl hcc (itsList S hcal fun i1 s2 hI => ?_)
  refine (in44 g _ _ _ (Le.refl _) hI (by walk_at "om") (in24 (fun i => (cm.filter fun j => j != cm.getD i 0 && (fb.getD j.toNat []).contains (cm.getD i 0)).isEmpty) (fun _ i v => IntV (cm.getD i 0) v) (fun _ _ _ _ _ q => q) ?_ ?_ ?_))
  · rintro C bb i v g1 m1 r1 s3 hi hv hg1 hr S3
    refine nameQ ?_; intro Qz
    refine el12 (pairGet' hcp hv) fun kk hkk z296_ => ?_; refine el11 z296_ fun u5 e297_ => ?_; try clear z296_; subst e297_
    have ek : cm.getD i 0 = kk := by rw [List.getD_eq_getElem?_getD, hkk]; rfl
    refine wpAny_tests_one (wpAny_isTrue_Compare1 ?_)
    refine compL (x := x) (g := g1) (y := "j") rfl rfl (by decide) rfl rfl hh (fun _ => rfl) ?_
    refine ldZ S3 (.inl rfl) rfl rfl (hcc.le hg1) (itsList S3 (isList_le hcal hg1) fun i3 s4 hI2 => ?_)
    refine (in44 g1 _ _ _ (Le.refl _) hI2 (by walk_at "om") (in24 (fun j => cm.getD j 0 != kk && (fb.getD ((cm.getD j 0).toNat) []).contains kk) (fun _ _ _ => True) (fun _ _ _ _ _ q => q) ?_ ?_ ?_))
    · rintro C2 j v2 g2 m2 r2 s5 hj hv2 hg2 hr2 hm2 S5
      refine nameQ ?_; intro Qz
      refine el12 (pairGet' hcp hv2) fun jj hjj z298_ => ?_; refine el11 z298_ fun u6 e299_ => ?_; try clear z298_; subst e299_
      have ej : cm.getD j 0 = jj := by rw [List.getD_eq_getElem?_getD, hjj]; rfl
      have hjb := hcb jj (List.mem_of_getElem? hjj)
      have hrowj : fb[jj.toNat]? = some (fb.getD jj.toNat []) := by simp [show jj.toNat < fb.length by walk_at "om"]
      refine wpAny_tests_one (wpAny_isTrue_BoolOp (wpAny_allTrue_And_cons (wpAny_isTrue_Compare1 ?_)))
      refine ldL S5 rfl rfl (by k_mem) hm2 (ldC S5 rfl rfl rfl (.tail _ (hr2 _ (by k_mem))) (PyProof.Rows.ne_int (wpAny_truthy_bool ?_)))
      cases hne : jj != kk with
      | false =>
        rw [if_neg (by decide)]
        refine ⟨?_, (in12 g2 (Le.refl _) S5)⟩
        show _ = (cm.getD j 0 != kk && (fb.getD ((cm.getD j 0).toNat) []).contains kk)
        rw [ej, hne]; rfl
      | true =>
        rw [if_pos rfl]
        refine wpAny_allTrue_And_cons (wpAny_isTrue_Compare1 ?_)
        refine ldC S5 rfl rfl rfl (.tail _ (hr2 _ (by k_mem))) (subs ?_)
        refine ldZ S5 (.inl rfl) rfl rfl (hfbc.le (hg1.trans hg2)) (ldL S5 rfl rfl (by k_mem) hm2 ?_)
        refine idxLL hfbl ((hg1.trans hg2).trans S5.keep) (by walk_at "om") (by walk_at "om") hrowj fun rv2 hrv2 => ?_
        refine inI hrv2 ((hg1.trans hg2).trans S5.keep) (wpAny_truthy_bool ?_)
        cases hin : (fb.getD jj.toNat []).contains kk with
        | false =>
          rw [if_neg (by decide)]
          refine ⟨?_, (in12 g2 (Le.refl _) S5)⟩
          show _ = (cm.getD j 0 != kk && (fb.getD ((cm.getD j 0).toNat) []).contains kk)
          rw [ej, hne, hin]; rfl
        | true =>
          rw [if_pos rfl]
          refine wpAny_allTrue_And_nil ⟨?_, (in12 g2 (Le.refl _) S5)⟩
          show _ = (cm.getD j 0 != kk && (fb.getD ((cm.getD j 0).toNat) []).contains kk)
          rw [ej, hne, hin]; rfl
    · rintro C2 j v2 g2 m2 r2 s5 hj hv2 _ hg2 hr2 hm2 S5
      refine nameQ ?_; intro Qz
      exact ldL S5 rfl rfl (by k_mem) hm2 (in13 g2 (Le.refl _) S5 trivial)
    · intro acc g2 ys s5 hg2 hP S5
      refine List_ (wpAny_items_nil (nwList S5 (by size_fits) fun eb s6 S6 => ?_))
      refine eqNil (S6.list (by k_mem)) (S6.list (List.mem_cons_self ..)) (by rw [cLine_is]; walk_at "om") (wpAny_truthy_bool ⟨?_, (in12 g2 hg2 (S6.drop.drop))⟩)
      show ys.isEmpty = (cm.filter fun j => j != cm.getD i 0 && (fb.getD j.toNat []).contains (cm.getD i 0)).isEmpty
      rw [ek, ← filter_range cm 0 (fun j => j != kk && (fb.getD j.toNat []).contains kk), List.isEmpty_map]
      refine isEmpty_len ?_
      rw [← pairLen hP, hclen]
  · rintro C bb i v g1 m1 r1 s3 hi hv _ hg1 hr S3
    refine nameQ ?_; intro Qz
    refine el12 (pairGet' hcp hv) fun kk hkk z300_ => ?_; refine el11 z300_ fun u5 e301_ => ?_; try clear z300_; subst e301_
    have ek : cm.getD i 0 = kk := by rw [List.getD_eq_getElem?_getD, hkk]; rfl
    refine ldC S3 rfl rfl rfl (by k_mem) (in13 g1 (Le.refl _) S3 ?_)
    show IntV (cm.getD i 0) _
    rw [ek]; exact ⟨u5, rfl⟩
  · intro acc
    refine (in22 m _ (.head) (fun g1 ys s3 hg1 hP S3 => h g1 s3 acc ys hg1 ?_ S3))
    unfold grL
    rw [← filter_range cm 0 (fun k => (cm.filter fun j => j != k && (fb.getD j.toNat []).contains k).isEmpty)]
    refine pairMap' ?_
    rw [hclen]; exact hP
end Jr
end
-- LO
section
namespace Jr
open PySem PySem.W PySem.Calls PyProof.Rows

/-! the sort of distinct keys, as a tree of questions -/
def PermN (n : Nat) (p : Array Nat) : Prop := p.toList.Perm (List.range n)
theorem PermN.size {n : Nat} {p : Array Nat} (h : PermN n p) : p.size = n := by have := h.length_eq; simpa using this
theorem PermN.lt {n : Nat} {p : Array Nat} (h : PermN n p) {i : Nat} (hi : i < n) : p.getD i 0 < n := by
  have hs := h.size
  have e : p.getD i 0 = p[i]'(by walk_at "om") := by simp [Array.getD, show i < p.size by walk_at "om"]
  rw [e]
  exact List.mem_range.mp (h.mem_iff.mp (by simp))
theorem PermN.inj {n : Nat} {p : Array Nat} (h : PermN n p) {i j : Nat} (hi : i < n) (hj : j < n) (e : p.getD i 0 = p.getD j 0) : i = j := by
  have hs := h.size
  have hn : p.toList.Nodup := h.nodup_iff.mpr List.nodup_range
  have e1 : p.getD i 0 = p.toList[i]'(by simp; walk_at "om") := by simp [Array.getD, show i < p.size by walk_at "om"]
  have e2 : p.getD j 0 = p.toList[j]'(by simp; walk_at "om") := by simp [Array.getD, show j < p.size by walk_at "om"]
  rw [e1, e2] at e
  exact (List.getElem_inj hn).mp e
section
variable {n : Nat} {K : Nat → Int} {cmp : Nat → Nat → (Bool → Shared → Prop) → Shared → Prop} {s : Shared}
def kA (K : Nat → Int) (p : Array Nat) (i : Nat) : Int := K (p.getD i 0)
structure CmpOk (n : Nat) (K : Nat → Int) (cmp : Nat → Nat → (Bool → Shared → Prop) → Shared → Prop) (s : Shared) : Prop where
  ask : ∀ i j (C : Bool → Shared → Prop), i < n → j < n → C (decide (K i < K j)) s → cmp i j C s
  inj : ∀ i j, i < n → j < n → K i = K j → i = j
theorem CmpOk.at_ {p : Array Nat} (H : CmpOk n K cmp s) (hp : PermN n p) {i j : Nat} {C : Bool → Shared → Prop} (hi : i < n) (hj : j < n) (hne : i ≠ j) (h1 : kA K p i < kA K p j → C true s) (h2 : kA K p j < kA K p i → C false s) : cmp (p.getD i 0) (p.getD j 0) C s := by
  refine H.ask _ _ _ (hp.lt hi) (hp.lt hj) ?_
  by_cases h : K (p.getD i 0) < K (p.getD j 0)
  · rw [decide_eq_true h]; exact h1 h
  · rw [decide_eq_false h]
    refine h2 ?_
    have : K (p.getD i 0) ≠ K (p.getD j 0) := fun e => hne (hp.inj hi hj (H.inj _ _ (hp.lt hi) (hp.lt hj) e))
    unfold kA; walk_at "om"
theorem s_asc (H : CmpOk n K cmp s) {p : Array Nat} (hp : PermN n p) : ∀ f m {Q : Nat → Shared → Prop}, 1 ≤ m → m + f = n → (∀ m', m ≤ m' → m' ≤ n → (∀ i, m ≤ i → i < m' → kA K p (i - 1) < kA K p i) → (m' < n → kA K p m' < kA K p (m' - 1)) → Q m' s) → (kas_asc p f m).kasWp cmp Q s := by
  intro f
  induction f with
  | zero => exact fun m Q h1 h2 h => h m (Nat.le_refl _) (by walk_at "om") (fun i _ _ => by walk_at "om") (fun _ => by walk_at "om")
  | succ f ih =>
    intro m Q h1 h2 h
    show cmp (p.getD m 0) (p.getD (m - 1) 0) (fun b s' => (if b = true then KasT.ret m else kas_asc p f (m + 1)).kasWp cmp Q s') s
    refine H.at_ hp (by walk_at "om") (by walk_at "om") (by walk_at "om") (fun hlt => ?_) fun hlt => ?_
    · rw [if_pos rfl]
      exact h m (Nat.le_refl _) (by walk_at "om") (fun i _ _ => by walk_at "om") fun _ => hlt
    · rw [if_neg (by decide)]
      refine ih (m + 1) (by walk_at "om") (by walk_at "om") fun m' a b c d => h m' (by walk_at "om") b (fun i hi hi2 => ?_) d
      rcases Nat.lt_or_ge m i with h3 | h3
      · exact c i h3 hi2
      · obtain rfl : i = m := by walk_at "om"
        exact hlt
theorem s_desc (H : CmpOk n K cmp s) {p : Array Nat} (hp : PermN n p) : ∀ f m {Q : Array Nat × Nat × Nat → Shared → Prop}, 2 ≤ m → m + f = n → (∀ m', m ≤ m' → m' ≤ n → (∀ i, m ≤ i → i < m' → kA K p i < kA K p (i - 1)) → Q (p, m', 0) s) → (kas_desc f p m 0).kasWp cmp Q s := by
  intro f
  induction f with
  | zero => exact fun m Q h1 h2 h => h m (Nat.le_refl _) (by walk_at "om") (fun i _ _ => by walk_at "om")
  | succ f ih =>
    intro m Q h1 h2 h
    show cmp (p.getD m 0) (p.getD (m - 1) 0) (fun b s' => (if b = true then (if 0 > 0 then kas_desc f (kas_rev p (m - (0 + 1)) m) (m + 1) 0 else kas_desc f p (m + 1) 0)
      else .ask (p.getD (m - 1) 0) (p.getD m 0) fun d => if d = true then .ret (p, m, 0) else kas_desc f p (m + 1) (0 + 1)).kasWp cmp Q s') s
    refine H.at_ hp (by walk_at "om") (by walk_at "om") (by walk_at "om") (fun hlt => ?_) fun hlt => ?_
    · rw [if_pos rfl, if_neg (by walk_at "om")]
      refine ih (m + 1) (by walk_at "om") (by walk_at "om") fun m' a b c => h m' (by walk_at "om") b fun i hi hi2 => ?_
      rcases Nat.lt_or_ge m i with h3 | h3
      · exact c i h3 hi2
      · obtain rfl : i = m := by walk_at "om"
        exact hlt
    · rw [if_neg (by decide)]
      show cmp (p.getD (m - 1) 0) (p.getD m 0) (fun b s' => (if b = true then KasT.ret (p, m, 0) else kas_desc f p (m + 1) (0 + 1)).kasWp cmp Q s') s
      refine H.at_ hp (by walk_at "om") (by walk_at "om") (by walk_at "om") (fun _ => ?_) fun h3 => by walk_at "om"
      rw [if_pos rfl]
      exact h m (Nat.le_refl _) (by walk_at "om") fun i _ _ => by walk_at "om"
def Asc (K : Nat → Int) (p : Array Nat) (m : Nat) : Prop := ∀ i j, i < j → j < m → kA K p i < kA K p j
theorem asc_of {K : Nat → Int} {p : Array Nat} {m : Nat} (h : ∀ i, 1 ≤ i → i < m → kA K p (i - 1) < kA K p i) : Asc K p m := fun i j hij hj => by
  induction j with
  | zero => walk_at "om"
  | succ j ih =>
    have h1 := h (j + 1) (by walk_at "om") hj
    simp only [Nat.add_sub_cancel] at h1
    rcases Nat.lt_or_ge i j with h2 | h2
    · have := ih h2 (by walk_at "om"); walk_at "om"
    · obtain rfl : i = j := by walk_at "om"
      exact h1
theorem rev_perm {p : Array Nat} (hp : PermN n p) (i j : Nat) : PermN n (kas_rev p i j) := (Array.perm_iff_toList_perm.mp (mirror_perm p i j _)).trans hp
theorem rev_at {p : Array Nat} (hp : PermN n p) {m : Nat} (hm : m ≤ n) (k : Nat) : kA K (kas_rev p 0 m) k = if k < m then kA K p (m - 1 - k) else kA K p k := by
  unfold kA
  have hs := hp.size
  have h1 := getElem?_mirror_all (xs := p) (i := 0) (j := m) (by walk_at "om") k
  have e : ∀ (q : Array Nat) (k : Nat), q.getD k 0 = (q[k]?).getD 0 := fun q k => by simp
  rw [e, e, e]
  show K (((mirror p 0 m ((m - 0) / 2))[k]?).getD 0) = _
  rw [h1]
  by_cases hk : k < m
  · rw [if_pos ⟨Nat.zero_le _, hk⟩, if_pos hk]
    congr 3; walk_at "om"
  · rw [if_neg (fun h => hk h.2), if_neg hk]
theorem s_count (H : CmpOk n K cmp s) {p : Array Nat} (hp : PermN n p) (h2 : 2 ≤ n) {Q : Nat × Array Nat → Shared → Prop} (h : ∀ m p', 1 ≤ m → m ≤ n → PermN n p' → Asc K p' m → Q (m, p') s) : (kas_count n p).kasWp cmp Q s := by
  unfold kas_count
  rw [KasT.kasWp_bind]
  refine s_asc H hp (n - 1) 1 (Nat.le_refl _) (by walk_at "om") fun m h1 hm hasc hd => ?_
  by_cases e : m = n
  · rw [if_pos (by simpa using e)]
    exact h m p h1 hm hp (asc_of hasc)
  rw [if_neg (by simpa using e)]
  by_cases hm1 : m > 1
  · rw [if_pos hm1]
    show cmp (p.getD 0 0) (p.getD (m - 1) 0) (fun b s' => (if b = true then KasT.ret (m, p) else kas_descPart m n (kas_rev p 0 m)).kasWp cmp Q s') s
    have := asc_of hasc 0 (m - 1) (by walk_at "om") (by walk_at "om")
    refine H.at_ hp (by walk_at "om") (by walk_at "om") (by walk_at "om") (fun _ => ?_) fun h3 => by walk_at "om"
    rw [if_pos rfl]
    exact h m p h1 hm hp (asc_of hasc)
  · rw [if_neg hm1]
    obtain rfl : m = 1 := by walk_at "om"
    have hd1 := hd (by walk_at "om")
    unfold kas_descPart
    rw [KasT.kasWp_bind]
    refine s_desc H hp (n - (1 + 1)) 2 (Nat.le_refl _) (by walk_at "om") fun m' h3 h4 hds => ?_
    show (if (0 : Nat) > 0 then _ else kas_tail3 m' n p : KasT (Nat × Array Nat)).kasWp cmp Q s
    rw [if_neg (by walk_at "om")]
    unfold kas_tail3
    rw [KasT.kasWp_bind]
    have hrp := rev_perm hp 0 m'
    have hdesc : ∀ i, 1 ≤ i → i < m' → kA K p i < kA K p (i - 1) := fun i h5 h6 => by
      rcases Nat.lt_or_ge 1 i with h7 | h7
      · exact hds i h7 h6
      · obtain rfl : i = 1 := by walk_at "om"
        exact hd1
    refine s_asc H hrp (n - m') m' (by walk_at "om") (by walk_at "om") fun m'' h5 h6 h7 _ => ?_
    refine h m'' _ (by walk_at "om") h6 hrp (asc_of fun i h8 h9 => ?_)
    rcases Nat.lt_or_ge i m' with h10 | h10
    · rw [rev_at hp h4, rev_at hp h4, if_pos (by walk_at "om"), if_pos h10]
      have := hdesc (m' - 1 - (i - 1)) (by walk_at "om") (by walk_at "om")
      rw [show m' - 1 - (i - 1) - 1 = m' - 1 - i by walk_at "om"] at this
      exact this
    · exact h7 i h10 h9
theorem s_place (H : CmpOk n K cmp s) {p : Array Nat} (hp : PermN n p) {k : Nat} (hk : k < n) (ha : Asc K p k) : ∀ f l r {Q : Nat → Shared → Prop}, l ≤ r → r ≤ k → r - l ≤ f → (∀ i, i < l → kA K p i < kA K p k) → (∀ i, r ≤ i → i < k → kA K p k < kA K p i) →
    (∀ l', l' ≤ k → (∀ i, i < l' → kA K p i < kA K p k) → (∀ i, l' ≤ i → i < k → kA K p k < kA K p i) → Q l' s) → (kas_place p k f l r).kasWp cmp Q s
  | 0, l, r, Q, h1, h2, h3, h4, h5, h => h l (by walk_at "om") h4 fun i a b => h5 i (by walk_at "om") b
  | f + 1, l, r, Q, h1, h2, h3, h4, h5, h => by
    show (if l ≥ r then KasT.ret l else .ask (p.getD k 0) (p.getD ((l + r) / 2) 0) fun c => if c = true then kas_place p k f l ((l + r) / 2) else kas_place p k f ((l + r) / 2 + 1) r).kasWp cmp Q s
    by_cases e : l ≥ r
    · rw [if_pos e]
      exact h l (by walk_at "om") h4 fun i a b => h5 i (by walk_at "om") b
    rw [if_neg e]
    show cmp (p.getD k 0) (p.getD ((l + r) / 2) 0) (fun b s' => (if b = true then kas_place p k f l ((l + r) / 2) else kas_place p k f ((l + r) / 2 + 1) r).kasWp cmp Q s') s
    refine H.at_ hp hk (by walk_at "om") (by walk_at "om") (fun hlt => ?_) fun hlt => ?_
    · rw [if_pos rfl]
      refine s_place H hp hk ha f l ((l + r) / 2) (by walk_at "om") (by walk_at "om") (by walk_at "om") h4 (fun i a b => ?_) h
      rcases Nat.lt_or_ge ((l + r) / 2) i with h6 | h6
      · have := ha _ _ h6 b; walk_at "om"
      · obtain rfl : i = (l + r) / 2 := by walk_at "om"
        exact hlt
    · rw [if_neg (by decide)]
      refine s_place H hp hk ha f ((l + r) / 2 + 1) r (by walk_at "om") h2 (by walk_at "om") (fun i a => ?_) h5 h
      rcases Nat.lt_or_ge i ((l + r) / 2) with h6 | h6
      · have := ha _ _ h6 (by walk_at "om"); walk_at "om"
      · obtain rfl : i = (l + r) / 2 := by walk_at "om"
        exact hlt
theorem bub_perm {p : Array Nat} (hp : PermN n p) (i d : Nat) : PermN n (bubble p i d) := (Array.perm_iff_toList_perm.mp (bubble_perm p i d)).trans hp
theorem bub_at {p : Array Nat} (hp : PermN n p) {k l : Nat} (hk : k < n) (hl : l ≤ k) (i : Nat) : kA K (bubble p k (k - l)) i = if i = l then kA K p k else if l < i ∧ i ≤ k then kA K p (i - 1) else kA K p i := by
  unfold kA
  have hs := hp.size
  have h1 := getElem?_bubble (xs := p) (src := k) (by walk_at "om") (k - l) (by walk_at "om") i
  have e : ∀ (q : Array Nat) (k : Nat), q.getD k 0 = (q[k]?).getD 0 := fun q k => by simp
  rw [show k - (k - l) = l by walk_at "om"] at h1
  rw [e, e, e, e, h1]
  split
  · rfl
  · split <;> rfl
theorem s_bin (H : CmpOk n K cmp s) : ∀ f (p : Array Nat) k {Q : Array Nat → Shared → Prop}, PermN n p → 1 ≤ k → k + f = n → Asc K p k → (∀ p', PermN n p' → Asc K p' n → Q p' s) → (kas_bin f p k).kasWp cmp Q s := by
  intro f
  induction f with
  | zero =>
    intro p k Q hp h1 h2 ha h
    obtain rfl : k = n := by walk_at "om"
    exact h p hp ha
  | succ f ih =>
    intro p k Q hp h1 h2 ha h
    show ((kas_place p k k 0 k).bind fun l => kas_bin f (bubble p k (k - l)) (k + 1)).kasWp cmp Q s
    rw [KasT.kasWp_bind]
    refine s_place H hp (by walk_at "om") ha k 0 k (Nat.zero_le _) (Nat.le_refl _) (by walk_at "om") (fun i hi => by walk_at "om") (fun i a b => by walk_at "om") fun l hl h3 h4 => ?_
    refine ih _ (k + 1) (bub_perm hp _ _) (by walk_at "om") (by walk_at "om") (fun i j hij hj => ?_) h
    rw [bub_at hp (by walk_at "om") hl, bub_at hp (by walk_at "om") hl]
    by_cases e1 : i = l
    · subst e1
      rw [if_pos rfl, if_neg (by walk_at "om"), if_pos (by walk_at "om")]
      exact h4 (j - 1) (by walk_at "om") (by walk_at "om")
    · rw [if_neg e1]
      by_cases e2 : j = l
      · subst e2
        rw [if_pos rfl, if_neg (by walk_at "om")]
        exact h3 i hij
      · rw [if_neg e2]
        by_cases e3 : l < i
        · rw [if_pos (by walk_at "om"), if_pos (by walk_at "om")]
          exact ha _ _ (by walk_at "om") (by walk_at "om")
        · rw [if_neg (by walk_at "om")]
          by_cases e4 : l < j
          · rw [if_pos (by walk_at "om")]
            exact ha _ _ (by walk_at "om") (by walk_at "om")
          · rw [if_neg (by walk_at "om")]
            exact ha _ _ hij (by walk_at "om")
theorem s_sort (H : CmpOk n K cmp s) (h2 : 2 ≤ n) {Q : Array Nat → Shared → Prop} (h : ∀ p, PermN n p → Asc K p n → Q p s) : (kas_sort n).kasWp cmp Q s := by
  unfold kas_sort
  rw [KasT.kasWp_bind]
  refine s_count H (show PermN n _ from List.Perm.refl _) h2 fun m p h1 hm hp ha => ?_
  by_cases e : m < n
  · show (if m < n then kas_bin (n - max m 1) p (max m 1) else KasT.ret p).kasWp cmp Q s
    rw [if_pos e, show max m 1 = m by walk_at "om"]
    exact s_bin H (n - m) p m hp h1 (by walk_at "om") ha h
  · show (if m < n then kas_bin (n - max m 1) p (max m 1) else KasT.ret p).kasWp cmp Q s
    rw [if_neg e]
    obtain rfl : m = n := by walk_at "om"
    exact h p hp ha
end
end Jr
end
-- LP
section
namespace Jr
open PySem PySem.W PySem.Calls PySem.SeqAt PySem.Builtin PyProof.Rows PySem.Spec
variable {x : Wd} {g : Heap} {l : List Ent} {prog : Program} {w : World} {A : Around} {E : Value → Shared → Prop} {s : Shared}

/-- how a sort without a key comes out: G says what of the permutation is known -/
def SortR (vs out : List Value) (G : Array Nat → Prop) : Prop := vs.length < 2 ∧ out = vs ∨ ∃ p : Array Nat, p.size = vs.length ∧ G p ∧ out = p.toList.map fun i => vs.getD i .none
theorem sortPlain {a : Addr} {vs : List Value} {G : Array Nat → Prop} {P : PySem.Fin → Shared → Prop} (S : St x g ((a, ListP vs) :: l) s) (h64 : vs.length < 64)
    (ask : 2 ≤ vs.length → ∀ s' l', St x g (l' ++ l) s' → wpAny (model prog w) A (keyKind' vs.toArray) (fun κ s'' => s'' = s' ∧ (kas_sort vs.length).kasWp (kas_ask prog w A κ vs) (fun p s3 => s3 = s' ∧ G p) s'') (fun _ _ => False) s')
    (h : ∀ out s', St x g ((a, ListP out) :: l) s' → SortR vs out G → P (.done (.ret .none)) s') : wpAny (model prog w) A (Builtin.«list.sort» ⟨[.ref a], []⟩) P E s := by
  refine el14 (S.get (List.mem_cons_self ..)) fun o ho hc hdc z312_ => ?_; refine el11 z312_ fun n hd => ?_; try clear z312_
  have S0 := S.narrow (P' := SeqE vs.toArray n) ho (in03 hc hdc hd)
  rw [list_sort_plain]
  refine wpAny_bind (listItems_at ho hd ?_)
  refine wpAny_bind (seqE S0 (by rw [List.size_toArray, sizeLine_eq]; omega) (Nat.zero_le _) fun e1 s1 S1 => ?_)
  refine el14 (S1.get (List.mem_cons_self ..)) fun o1 ho1 hc1 hdc1 hd1 => ?_
  refine wpAny_bind (seqEpoch_at ho1 hd1 ?_)
  refine wpAny_bind (nwTuple S1 (by rw [sizeLine_eq]; simp; omega) fun tp s2 S2 => ?_)
  have S2' := S2.drop
  refine wpAny_bind (wpAny_newList ?_ (Nat.zero_le _))
  have S3 := (S2'.push (o := seqObj "list" #[] 0) (P := SeqE #[] 0) (in03 rfl rfl rfl) rfl).drop
  refine wpAny_holding ?_
  -- the end, once the order is known
  have tail : ∀ (st : SortSt) (out : List Value) (s3 : Shared), St x g ((a, SeqE #[] e1) :: l) s3 → failedOf st = none → (arrOf st).map (·.2) = out.toArray → out.length < 64 → SortR vs out G →
      wpAny (model prog w) A (do
        let sorted := (arrOf st).map (·.2)
        let touched := (← seqEpoch a) != e1
        Builtin.List.listUpdate (.ref a) fun _ => sorted
        if let some e := failedOf st then rule "list.sort.comparison-raised"; throw e
        if touched then rule "list.sort.modified"; raiseError "ValueError" "list modified during sort"
        ret .none) P E s3 := by
    intro st out s3 S4 hf hout hz hr
    refine el14 (S4.get (List.mem_cons_self ..)) fun o4 ho4 hc4 hdc4 hd4 => ?_
    dsimp only
    refine wpAny_bind (seqEpoch_at ho4 hd4 ?_)
    rw [hout]
    refine wpAny_bind (seqE S4 (Nat.zero_le _) (by simp [sizeLine_eq]; omega) fun n2 s4 S5 => ?_)
    rw [hf]
    simp only [bne_self_eq_false, Bool.false_eq_true, if_false]
    exact wpAny_pure (h out s4 (S5.weak fun o hq_ => el03 hq_ fun h1 h2 h3 => (in03 h1 h2 ⟨n2, h3⟩)) hr)
  by_cases h2 : vs.toArray.size < 2
  · rw [if_pos h2, if_pos h2]
    rw [List.size_toArray] at h2
    refine wpAny_bind (wpAny_pure ?_)
    dsimp only
    rw [StateT.run_pure]
    refine wpAny_bind (wpAny_pure ?_)
    dsimp only
    refine tail (SortSt.mk' general' (vs.toArray.zip vs.toArray) #[] 7 none) vs _ S3 rfl ?_ (by omega) (.inl ⟨h2, rfl⟩)
    apply Array.toList_inj.mp
    rw [Array.toList_map]
    show List.map (fun q : Keyed => q.2) (vs.toArray.zip vs.toArray).toList = vs
    rw [ksk_zip]
    exact List.map_snd_zip (Nat.le_refl _)
  · rw [if_neg h2, if_neg h2]
    rw [List.size_toArray] at h2
    refine wpAny_bind (wpAny_mono (ask (by omega) _ [(a, SeqE #[] e1)] S3) (fun κ s3 hk => ?_) fun _ _ e => e.elim)
    refine el02 hk fun e313_ hk => ?_; subst e313_
    refine wpAny_bind (wpAny_mono (kat_run (Q := fun st' s' => ∃ p : Array Nat, p.size = vs.length ∧ arrOf st' = p.map (kas_item (vs.toArray.zip vs.toArray)) ∧ failedOf st' = none ∧ s' = _ ∧ G p)
      rfl (by omega) h64 (fun p' st' s' a1 a2 a3 a4 => (in14 p' a1 a2 a3 a4)) hk) ?_ fun _ _ e => e)
    intro hR0 s' hR2
    obtain ⟨⟨⟩, st'⟩ := hR0
    refine el15 hR2 fun p hp har hf e314_ hG => ?_; try clear hR2; subst e314_
    refine tail st' (p.toList.map fun i => vs.getD i .none) _ S3 hf (kat_snds rfl har) (by simp [hp]; omega) (.inr (in13 p hp hG rfl))

theorem sortedP {la : Addr} {vs : List Value} {G : Array Nat → Prop} {Q : Value → Shared → Prop} (S : St x g l s) (hl : g.IsList la vs.toArray) (h64 : vs.length < 64)
    (ask : 2 ≤ vs.length → ∀ s' l', St x g (l' ++ l) s' → wpAny (model prog w) A.in1.in1 (keyKind' vs.toArray) (fun κ s'' => s'' = s' ∧ (kas_sort vs.length).kasWp (kas_ask prog w A.in1.in1 κ vs) (fun p s3 => s3 = s' ∧ G p) s'') (fun _ _ => False) s')
    (h : ∀ a out s', St x g ((a, ListP out) :: l) s' → SortR vs out G → Q (.ref a) s') : wpAny (model prog w) A (call (.builtin "sorted") [.ref la] []) Q E s := by
  refine Calls.call_function_entry kind_sorted plain_sorted entry_sorted (args_sorted1 _) ?_
  unfold Builtin.«sorted»
  refine wpAny_bind (m := checkCount "sorted" 1 1 _) (wpAny_pure ?_)
  refine wpAny_bind (collect_list (isList_le hl S.keep) ?_ (by rw [sizeLine_eq]; omega))
  have S1 := S.push (o := seqObj "list" #[] 0) (P := fun _ => True) trivial rfl
  have S2 : St x g l { s with heap := (s.heap.push (seqObj "list" #[] 0)).update s.heap.objs.size (Obj.mapSeq (· ++ vs.toArray)) } := by
    have hs := Heap.SameBut.update (s.heap.push (seqObj "list" #[] 0)) s.heap.objs.size (Obj.mapSeq (· ++ vs.toArray))
    have hnew : ∀ b, s.heap.get? b ≠ none → b ≠ s.heap.objs.size := fun b hb e => by
      subst e
      exact hb (Heap.get?_none_of_le (Nat.le_refl _))
    exact S.ext (fun b o e => (hs.2 b (hnew b (by rw [e]; simp))).trans (Heap.get?_push_of_some _ e)) s.toks
  refine wpAny_bind (nwList S2 (by rw [sizeLine_eq]; omega) fun a s3 S3 => ?_)
  refine el14 (S3.get (List.mem_cons_self ..)) fun o3 ho3 hc3 hdc3 z315_ => ?_; refine el11 z315_ fun n3 hd3 => ?_; try clear z315_
  refine wpAny_bind (wpAny_holding (wpAny_call_entry slot_list_sort (in12 _ ho3 hc3) entry_list_sort ?_ (args_list_sort _)))
  refine sortPlain S3 h64 ask fun out s4 S4 hr => ?_
  exact (in12 _ rfl (wpAny_pure (in12 _ rfl (h a out s4 S4 hr))))
end Jr
end
-- LQ
section
namespace Jr
open PySem PySem.W PySem.Calls PySem.SeqAt PySem.Builtin PyProof.Rows PySem.Spec
variable {x : Wd} {g : Heap} {l : List Ent} {prog : Program} {w : World} {A : Around} {E : Value → Shared → Prop} {s : Shared}

def kI (its : List Im) (i : Nat) : Int := key (its.getD i (0, 0))
theorem key_inj {p q : Im} (hp : p.2 < 11) (hq : q.2 < 11) (h : key p = key q) : p.2 = q.2 := by
  have h1 := rk_lt (k := p.2)
  have h2 := rk_lt (k := q.2)
  unfold key at h
  exact rk_inj hp hq (by walk_at "om")

theorem cmpTup {its : List Im} {vs : List Value} {i j : Nat} {C : Bool → Shared → Prop} (hp : Paired (fun c v => PrV s.heap c.1 c.2 v) its vs) (hi : i < its.length) (hj : j < its.length) (h : C (decide (kI its i < kI its j)) s) :
    kas_ask prog w A (tuples' true) vs i j C s := by
  obtain ⟨v1, hv1, a1, o1, u1, n1, rfl, h1, q1, ⟨t1, rfl⟩, hk1, tn1, rfl⟩ := pairGet hp (List.getElem?_eq_getElem hi)
  obtain ⟨v2, hv2, a2, o2, u2, n2, rfl, h2, q2, ⟨t2, rfl⟩, hk2, tn2, rfl⟩ := pairGet hp (List.getElem?_eq_getElem hj)
  show wpAny (model prog w) A (keyLt' (tuples' true) (vs.getD i .none) (vs.getD j .none)) C (fun _ _ => False) s
  have e1 : vs.getD i .none = .ref a1 := by rw [List.getD_eq_getElem?_getD, hv1]; rfl
  have e2 : vs.getD j .none = .ref a2 := by rw [List.getD_eq_getElem?_getD, hv2]; rfl
  rw [e1, e2]
  have g1 : its.getD i (0, 0) = its[i] := by simp [hi]
  have g2 : its.getD j (0, 0) = its[j] := by simp [hj]
  have hlt := ltIm (p := its[i]) (q := its[j]) hk1 hk2
  unfold kI at h
  rw [g1, g2, ← hlt] at h
  obtain ⟨m1, d1⟩ := q1.2.2
  obtain ⟨m2, d2⟩ := q2.2.2
  refine kat_lt h1 d1 h2 d2 ?_
  show KatLex prog w A true _ C [(.int its[i].1 t1, .int its[j].1 t2), (.bytes (nm its[i].2) tn1, .bytes (nm its[j].2) tn2)] 0 s
  refine kat_cons (EqAt.int_int _ _ _ _ prog w _ _ ?_)
  unfold ltIt at h
  simp only at h
  cases ht : (its[i].1 == its[j].1) with
  | false =>
    rw [ht, if_neg (by decide)] at h
    exact kat_no (oneLt_int h)
  | true =>
    rw [ht, if_pos rfl] at h
    refine kat_yes (kat_cons (eqAtBytes _ _ _ _ prog w _ _ ?_))
    cases hb : ((nm its[i].2).toList == (nm its[j].2).toList) with
    | true =>
      rw [hb, if_pos rfl] at h
      exact kat_yes (kat_nil h)
    | false =>
      rw [hb, if_neg (by decide)] at h
      exact kat_no (kat_one _ _ (rcBytesLt h))

theorem katTups {h : Heap} {its : List Im} {vs : List Value} (hp : Paired (fun c v => PrV h c.1 c.2 v) its vs) : ∃ fs, KatTups h vs fs ∧ fs.length = vs.length ∧ ∀ v ∈ fs, ∃ i t, v = .int i t := by
  induction hp with
  | nil => exact (in13 ([]) trivial rfl (fun _ h => nomatch h))
  | cons h1 _ ih =>
    obtain ⟨fs, k1, k2, k3⟩ := ih
    obtain ⟨a1, o1, u1, n1, rfl, h1, q1, ⟨t1, rfl⟩, _⟩ := h1
    obtain ⟨m1, d1⟩ := q1.2.2
    refine (in13 (_ :: fs) (KatTups.cons h1 q1.1 d1 rfl k1) (by simp [k2]) (fun v hv => ?_))
    rcases List.mem_cons.mp hv with rfl | hv
    · exact (in21 _ _ rfl)
    · exact k3 v hv

theorem sortedIm {la : Addr} {vs : List Value} {its : List Im} {Q : Value → Shared → Prop} (S : St x g l s) (hl : g.IsList la vs.toArray) (hp : Paired (fun c v => PrV g c.1 c.2 v) its vs) (hn : (its.map (·.2)).Nodup) (h64 : its.length < 64)
    (h : ∀ a out its' s', St x g ((a, ListP out) :: l) s' → its'.Perm its → its'.Pairwise (fun a b => key a < key b) → Paired (fun c v => PrV g c.1 c.2 v) its' out → Q (.ref a) s') :
    wpAny (model prog w) A (call (.builtin "sorted") [.ref la] []) Q E s := by
  have hlen := pairLen hp
  have hlt : ∀ i, i < its.length → (its.getD i (0, 0)).2 < 11 := fun i hi => by
    obtain ⟨v1, _, a1, o1, u1, n1, _, _, _, _, hk1, _⟩ := pairGet hp (List.getElem?_eq_getElem hi)
    have g1 : its.getD i (0, 0) = its[i] := by simp [hi]
    rw [g1]; exact hk1
  refine sortedP (G := fun p => PermN vs.length p ∧ Asc (kI its) p vs.length) S hl (by walk_at "om") (fun h2 s' l' S' => ?_) fun a out s' S' hr => ?_
  · have hp' : Paired (fun c v => PrV s'.heap c.1 c.2 v) its vs := pairMono (fun _ _ q => q.le S'.keep) hp
    obtain ⟨fs, k1, k2, k3⟩ := katTups hp'
    refine kat_kind (T := .type "int") k1 (by walk_at "om") (fun v hv => ?_) rfl ⟨rfl, ?_⟩
    · obtain ⟨i, t, rfl⟩ := k3 v hv
      exact .now
    · refine s_sort (K := kI its) ⟨fun i j C hi hj hC => ?_, fun i j hi hj e => ?_⟩ h2 fun p hp1 hp2 => (in03 rfl hp1 hp2)
      · exact cmpTup hp' (by walk_at "om") (by walk_at "om") hC
      · have e1 := key_inj (hlt i (by walk_at "om")) (hlt j (by walk_at "om")) e
        have hi' : i < its.length := by walk_at "om"
        have hj' : j < its.length := by walk_at "om"
        have g1 : its.getD i (0, 0) = its[i] := by simp [hi']
        have g2 : its.getD j (0, 0) = its[j] := by simp [hj']
        rw [g1, g2] at e1
        refine (List.getElem_inj (h₀ := by simpa using hi') (h₁ := by simpa using hj') hn).mp ?_
        simpa using e1
  · rcases hr with ⟨h2, rfl⟩ | ⟨p, hps, ⟨hp1, hp2⟩, rfl⟩
    · refine h a out its s' S' (List.Perm.refl _) ?_ hp
      match its, hlen with
      | [], _ => exact .nil
      | [_], _ => exact List.pairwise_singleton ..
      | _ :: _ :: _, e => simp at e; walk_at "om"
    · refine h a _ (p.toList.map fun i => its.getD i (0, 0)) s' S' ?_ ?_ ?_
      · have h1 := hp1.map (fun i => its.getD i (0, 0))
        have h2 : (List.range vs.length).map (fun i => its.getD i (0, 0)) = its := by rw [← hlen]; exact map_getD_range its (0, 0)
        rw [h2] at h1; exact h1
      · rw [List.pairwise_map, List.pairwise_iff_getElem]
        intro i j hi hj hij
        have := hp2 i j hij (by simp at hj; walk_at "om")
        unfold kA kI at this
        have e1 : p.getD i 0 = p.toList[i] := by simp at hi; simp [Array.getD, hi]
        have e2 : p.getD j 0 = p.toList[j] := by simp at hj; simp [Array.getD, hj]
        rw [e1, e2] at this
        exact this
      · refine paired_of (by simp) fun i h1 h2 => ?_
        simp at h1
        have hm : p.toList[i] < vs.length := List.mem_range.mp (hp1.mem_iff.mp (List.getElem_mem _))
        simp only [List.getElem_map]
        obtain ⟨v, hv, hr⟩ := pairGet hp (i := p.toList[i]) (List.getElem?_eq_getElem (by walk_at "om"))
        have e1 : its.getD p.toList[i] (0, 0) = its[p.toList[i]]'(by walk_at "om") := by
          rw [List.getD_eq_getElem?_getD, List.getElem?_eq_getElem (by walk_at "om")]; rfl
        have e2 : vs.getD p.toList[i] .none = v := by rw [List.getD_eq_getElem?_getD, hv]; rfl
        rw [e1, e2]; exact hr
end Jr
end
-- LR
section
namespace Jr
open PySem PySem.W PySem.Calls PySem.SeqAt PySem.Builtin PyProof.Rows PySem.Spec
variable {x : Wd} {g : Heap} {l : List Ent} {w : World} {A : Around} {E : Value → Shared → Prop} {s : Shared} {env : Env} {mg mb : Str → Option Value}


def itD (ts gn : List Int) (k : Int) : Im := (if gn.contains k = true then 0 else ts.getD k.toNat 0, k.toNat)

set_option maxHeartbeats 8000000 in
theorem lw_17 {st : Stmt} {sc : Scope} {c : Cs} {L ga : Addr} {m : Str → Option Value} {ts gn gr : List Int} {gvs : List Value} {n : Nat} {Q : Flow → Shared → Prop}
    (hst : (bodyOf w 126)[17]? = some st) (hsc : scopeOf w 126 = some sc) (W : Wf w mg mb g) (S : St x g ((L, NsP m) :: l) s) (hd : A.depth < 890) (hu : A.units < 800) (hh : A.handled = none)
    (hgn : CzL g c.gone gn) (hts : CzL g c.stamps ts) (htl : ts.length = n) (hn : n ≤ 10) (hm : m "greatest" = some (.ref ga)) (hgl : g.IsList ga gvs.toArray) (hgp : Paired IntV gr gvs) (hgb : ∀ k ∈ gr, 0 ≤ k ∧ k < (n : Int)) (hnd : gr.Nodup)
    (h : ∀ g' s' acc ys (its' : List Im), Le g g' → its'.Perm (gr.map (itD ts gn)) → its'.Pairwise (fun a b => key a < key b) → Paired NmV (its'.map (·.2)) ys → St x g' ((acc, ListP ys) :: (L, NsP (upd m "due" (.ref acc))) :: l) s' → Q .next s') :
    wpAny (model PP w) A (exec st (lwEnv sc c L)) Q E s := by
  have e0 := @_root_.id ((KK w).lookup 126 = some _) rfl
  have e := @_root_.id ((bodyOf w 126)[17]? = some _) (by unfold bodyOf; rw [e0]; exact rfl)
  rw [e] at hst
  cases hst
  have e2 := @_root_.id (scopeOf w 126 = some _) (by unfold scopeOf; rw [e0])
  rw [e2] at hsc
  cases hsc
  clear e e0 e2
  refine el12 hgn fun gv hgc hgnl => ?_; try clear hgn
  obtain ⟨tv, htc, htsl⟩ := hts
  have hglen := pairLen hgp
  have hnd2 : ((gr.map (itD ts gn)).map (·.2)).Nodup := by
    rw [List.map_map]
    refine List.pairwise_map.mpr (List.Pairwise.imp_of_mem (fun {a b} ha hb hab => ?_) hnd)
    have h1 := hgb a ha
    have h2 := hgb b hb
    show a.toNat ≠ b.toNat
    walk_at "om"
  have hgl10 : gr.length ≤ 10 := by
    have h1 : (gr.map Int.toNat).Nodup := by have := hnd2; rw [List.map_map] at this; exact this
    have h2 := nodup_lt n _ h1 (fun y hy => by obtain ⟨k, hk, rfl⟩ := List.mem_map.mp hy; have := hgb k hk; walk_at "om")
    simp at h2; walk_at "om"
  refine el22 (W.fn 121 rfl rfl) fun o121 fd121 h121 h121d => ?_
  refine compLA (x := x) (g := g) (y := "row") rfl rfl rfl rfl rfl (by decide) rfl rfl hh (fun _ => rfl) ?_
  refine callBi ?_
  refine ldBW W S rfl rfl rfl rfl (by kernel_rfl) (by boot_fast) (in12 _ rfl (wpAny_items_cons ?_))
  refine compL (x := x) (g := g) (y := "k") rfl rfl (by decide) rfl rfl hh (fun _ => rfl) ?_
  refine ldL S rfl rfl (by k_mem) hm (itsList S hgl fun i1 s1 hI => ?_)
  refine (in44 g _ _ _ (Le.refl _) hI (by walk_at "om") (in24 (fun _ => true) (fun g' i v => PrV g' (itD ts gn (gr.getD i 0)).1 (itD ts gn (gr.getD i 0)).2 v) (fun _ _ _ _ k q => q.le k) ?_ ?_ ?_))
  · rintro C i v g1 m1 r1 s2 hi hv hg1 hr hm1 S2
    exact wpAny_pure ⟨rfl, (in12 g1 (Le.refl _) S2)⟩
  · rintro C i v g1 m1 r1 s2 hi hv _ hg1 hr hm1 S2
    refine nameQ ?_; intro Qz
    refine el12 (pairGet' hgp hv) fun kk hkk z320_ => ?_; refine el11 z320_ fun u5 e321_ => ?_; try clear z320_; subst e321_
    have ek : gr.getD i 0 = kk := by rw [List.getD_eq_getElem?_getD, hkk]; rfl
    have hkb := hgb kk (List.mem_of_getElem? hkk)
    refine Tuple_ (wpAny_items_cons (cut (fun v s' => TmV (itD ts gn kk).1 v ∧ St x g1 ((C, NsP m1) :: r1) s') (wpAny_IfExp (wpAny_isTrue_Compare1 ?_)) ?_))
    · refine ldL S2 rfl rfl (by k_mem) hm1 (ldZ S2 (.inl rfl) rfl rfl (hgc.le hg1) (inI hgnl (hg1.trans S2.keep) (wpAny_truthy_bool ?_)))
      cases hin : gn.contains kk with
      | true =>
        rw [if_pos rfl]
        refine cInt S2 fun t1 s3 S3 => ⟨⟨t1, ?_⟩, S3⟩
        show _ = Value.int (if gn.contains kk = true then 0 else ts.getD kk.toNat 0) t1
        rw [hin, if_pos rfl]
      | false =>
        rw [if_neg (by decide)]
        have htk : ts[kk.toNat]? = some (ts.getD kk.toNat 0) := by simp [show kk.toNat < ts.length by walk_at "om"]
        refine subs (ldZ S2 (.inl rfl) rfl rfl (htc.le hg1) (ldL S2 rfl rfl (by k_mem) hm1 (idxI htsl (hg1.trans S2.keep) hkb.1 (by walk_at "om") htk fun t1 => ⟨⟨t1, ?_⟩, S2⟩)))
        show _ = Value.int (if gn.contains kk = true then 0 else ts.getD kk.toNat 0) t1
        rw [hin, if_neg (by decide)]
    · intro u s3 hR2
      refine el02 hR2 fun hu S3 => ?_; try clear hR2
      refine wpAny_items_cons (callFn ?_)
      refine ldGW (v := .ref 121) (W.le hg1) S3 rfl rfl rfl (by kernel_rfl) (in33 121 o121 fd121 rfl h121d (wpAny_items_cons (ldL S3 rfl rfl (by k_mem) hm1 (wpAny_items_nil ⟨S3.keep _ _ (hg1 _ _ h121), ?_⟩))))
      refine law_name (W.le hg1) S3 (by walk_at "om") hh hkb.1 (by walk_at "om") fun t2 s4 S4 => wpAny_items_nil (nwTuple S4 (by size_fits) fun tp s5 S5 => ?_)
      refine el25 (S5.freeze) fun g2 o2 k2 e2 q2 _ S6 => ?_
      refine (in13 g2 k2 S6 ?_)
      show PrV g2 (itD ts gn (gr.getD i 0)).1 (itD ts gn (gr.getD i 0)).2 _
      rw [ek]
      refine (in46 tp o2 _ _ rfl e2 q2 hu ?_ ⟨t2, ?_⟩)
      · show kk.toNat < 11; walk_at "om"
      · show Value.bytes (nm kk) t2 = Value.bytes (nm ((kk.toNat : Nat) : Int)) t2
        rw [Int.toNat_of_nonneg hkb.1]
  · intro acc g1 ys s2 hg1 hP S2
    refine el25 (S2.freeze) fun g2 o2 k2 e2 q2 _ S3 => ?_
    have hP2 : Paired (fun c v => PrV g2 c.1 c.2 v) (gr.map (itD ts gn)) ys := by
      have e : (List.range gvs.length).filter (fun _ => true) = List.range gvs.length := by simp
      rw [e] at hP
      have := pairMap' (F := fun (c : Im) v => PrV g2 c.1 c.2 v) (f := fun i => itD ts gn (gr.getD i 0)) (pairMono (fun _ _ q => PrV.le q k2) hP)
      have e2 : (List.range gvs.length).map (fun i => itD ts gn (gr.getD i 0)) = gr.map (itD ts gn) := by
        have := congrArg (List.map (itD ts gn)) (map_getD_range gr 0)
        rw [List.map_map] at this
        rw [← hglen]; exact this
      rwa [e2] at this
    refine wpAny_items_nil (sortedIm S3 (in13 o2 e2 (q2.1) (q2.2.2)) hP2 hnd2 (by simp; walk_at "om") fun a out its' s3 S4 hp1 hp2 hp3 => ?_)
    refine el25 (S4.freeze) fun g3 o3 k3 e3 q3 _ S5 => ?_
    have hp4 : Paired (fun c v => PrV g3 c.1 c.2 v) its' out := pairMono (fun _ _ q => q.le k3) hp3
    have hilen := pairLen hp4
    have hi10 : its'.length ≤ 10 := by have := hp1.length_eq; simp at this; walk_at "om"
    have k03 := hg1.trans (k2.trans k3)
    refine itsList S5 ⟨o3, e3, q3.1, q3.2.2⟩ fun i3 s4 hI3 => ?_
    refine (in44 g3 _ _ _ k03 hI3 (by walk_at "om") (in24 (fun _ => true) (fun _ i v => NmV (its'.getD i (0, 0)).2 v) (fun _ _ _ _ _ q => q) ?_ ?_ ?_))
    · rintro C i v g4 m4 r4 s5 hi hv hg4 hr hm4 S6
      exact wpAny_pure ⟨rfl, (in12 g4 (Le.refl _) S6)⟩
    · rintro C i v g4 m4 r4 s5 hi hv _ hg4 hr hm4 S6
      refine nameQ ?_; intro Qz
      refine el12 (pairGet' hp4 hv) fun im him z322_ => ?_; refine el45 z322_ fun a1 o1 u1 n1 e323_ f1 f2 f3 f4 => ?_; try clear z322_; subst e323_
      have ei : its'.getD i (0, 0) = im := by rw [List.getD_eq_getElem?_getD, him]; rfl
      refine subs (ldL S6 rfl rfl (by k_mem) hm4 (cInt S6 fun t1 s6 S7 => tupItem (j := 1) S7 (hg4 _ _ f1) f2 rfl (by decide) (in13 g4 (Le.refl _) S7 ?_)))
      show NmV (its'.getD i (0, 0)).2 n1
      rw [ei]; exact f4
    · intro acc2
      refine (in22 m _ (.head) (fun g4 ys2 s5 hg4 hP4 S6 => h g4 s5 acc2 ys2 its' (k03.trans hg4) hp1 hp2 ?_ S6))
      have e : (List.range out.length).filter (fun _ => true) = List.range out.length := by simp
      rw [e] at hP4
      have := pairMap' (f := fun i => (its'.getD i (0, 0)).2) hP4
      have e2 : (List.range out.length).map (fun i => (its'.getD i (0, 0)).2) = its'.map (·.2) := by
        have := congrArg (List.map (·.2)) (map_getD_range its' (0, 0))
        rw [List.map_map] at this
        rw [← hilen]; exact this
      rwa [e2] at this
end Jr
end
-- LS
section
namespace Jr
open PySem PySem.W PySem.Calls PySem.SeqAt PySem.Builtin PyProof.Rows PySem.Spec
variable {x : Wd} {g : Heap} {l : List Ent} {w : World} {A : Around} {E : Value → Shared → Prop} {s : Shared} {env : Env} {mg mb : Str → Option Value}


set_option maxHeartbeats 8000000 in
theorem lw_18 {st : Stmt} {sc : Scope} {c : Cs} {L f P' da : Addr} {m : Str → Option Value} {sh : Value} {b : Bool} {ps : List (List Int)} {ts gn : List Int} {fi : Nat} {os : List Nat} {Qn : Int → Int → Str} {pt qt : Array Value} {kd : List Nat} {dvs : List Value} {Q : Flow → Shared → Prop}
    (hst : (bodyOf w 126)[18]? = some st) (hsc : scopeOf w 126 = some sc) (G : LwG w mg mb g c f P' sh b ps ts gn fi os Qn) (S : St x g ((L, NsP m) :: (P', (· = tabObj pt)) :: (87, (· = tabObj qt)) :: l) s) (T' : TabOk g Qt pt) (T : TabOk g Qn qt)
    (hd : A.depth < 690) (hu : A.units < 800) (hh : A.handled = none) (hF : ∀ r, FrOk A.frames ((L, NsP r) :: l)) (hm : m "due" = some (.ref da)) (hdl : g.IsList da dvs.toArray) (hdp : Paired NmV kd dvs)
    (hB : ∀ g' v, BaseV g' b (prN ps gn ps.length) (tmN ts gn ps.length) (fun k => k < ps.length) fi os v → NmL g' kd v)
    (h : ∀ x' g' qt' pt' s', Le g g' → St x' g' ((L, NsP m) :: (P', (· = tabObj pt')) :: (87, (· = tabObj qt')) :: l) s' → Side x x' → TabOk g' Qt pt' → TabOk g' Qn qt' → Q .next s') :
    wpAny (model PP w) A (exec st (lwEnv sc c L)) Q E s := by
  have e0 := @_root_.id ((KK w).lookup 126 = some _) rfl
  have e := @_root_.id ((bodyOf w 126)[18]? = some _) (by unfold bodyOf; rw [e0]; exact rfl)
  rw [e] at hst
  cases hst
  have e2 := @_root_.id (scopeOf w 126 = some _) (by unfold scopeOf; rw [e0])
  rw [e2] at hsc
  cases hsc
  clear e e0 e2
  refine wpAny_If (wpAny_isTrue_Compare1 (callBase (mg := mg) (mb := mb) (g := g) (l1 := [(L, NsP m)]) (l2 := l) (c1 := fi) (c2s := os) G.G S T' T (by walk_at "om") (by walk_at "om") hh (hF m) rfl rfl rfl rfl rfl rfl rfl G.told G.first G.others (by have := G.ol; walk_at "om") G.D (G.hR 0 fi os) fun x1 g1 qt1 pt1 s3 v k1 S4 hx1 T1 T2 hb => ?_))
  refine el23 (hB g1 v hb) fun a vs e316_ hl hp => ?_; subst e316_
  refine ldL S4 rfl rfl (by k_mem) hm (neNames (isList_le hl S4.keep) (isList_le hdl (k1.trans S4.keep)) hp hdp (by rw [cLine_is]; walk_at "om") (wpAny_truthy_bool ?_))
  rw [if_neg (by simp)]
  exact wpAny_execs_nil (h x1 g1 qt1 pt1 s3 k1 S4 hx1 T1 T2)

def expF (fb : List (List Int)) (gn : List Int) (fi k : Nat) : Bool := decide (fi = k) || (!gn.contains (fi : Int) && (fb.getD k []).contains (fi : Int))

set_option maxHeartbeats 8000000 in
theorem lw_19 {st : Stmt} {sc : Scope} {c : Cs} {L f P' : Addr} {m : Str → Option Value} {sh : Value} {b : Bool} {ps : List (List Int)} {ts gn : List Int} {fi : Nat} {os : List Nat} {Qn : Int → Int → Str} {pt qt : Array Value} {Q : Flow → Shared → Prop}
    (hst : (bodyOf w 126)[19]? = some st) (hsc : scopeOf w 126 = some sc) (G : LwG w mg mb g c f P' sh b ps ts gn fi os Qn) (S : St x g ((L, NsP m) :: (P', (· = tabObj pt)) :: (87, (· = tabObj qt)) :: l) s) (T' : TabOk g Qt pt) (T : TabOk g Qn qt)
    (hd : A.depth < 690) (hu : A.units < 800) (hh : A.handled = none) (hF : ∀ r, FrOk A.frames ((L, NsP r) :: l))
    (hFw : ∀ k v, k < ps.length → FwdV b (prN ps gn ps.length) (tmN ts gn ps.length) (fun k => k < ps.length) fi k v → v = .bool (expF (foreN (psE ps gn) ps.length) gn fi k))
    (h : ∀ x' g' qt' s', Le g g' → St x' g' ((87, (· = tabObj qt')) :: l) s' → Side x x' → Q (.ret (.bool true)) s') :
    wpAny (model PP w) A (exec st (lwEnv sc c L)) Q E s := by
  have e0 := @_root_.id ((KK w).lookup 126 = some _) rfl
  have e := @_root_.id ((bodyOf w 126)[19]? = some _) (by unfold bodyOf; rw [e0]; exact rfl)
  rw [e] at hst
  cases hst
  have e2 := @_root_.id (scopeOf w 126 = some _) (by unfold scopeOf; rw [e0])
  rw [e2] at hsc
  cases hsc
  clear e e0 e2
  have W := G.G.W
  have hn10 := G.n10
  refine el11 (id G.size) fun tz hz => ?_
  have hfbn : (foreN (psE ps gn) ps.length).length = ps.length := foreN_len _
  refine wpAny_Return_some (callBi ?_)
  refine ldBW W S rfl rfl rfl rfl (by kernel_rfl) (by boot_fast) (in12 _ rfl (wpAny_items_cons ?_))
  refine compLX (x := x) (g := g) (y := "k") rfl rfl (by decide) rfl rfl hh (fun _ => rfl) ?_
  refine callTy ?_
  refine ldBW W S rfl rfl rfl rfl (by kernel_rfl) (by boot_fast) ⟨_, rfl, wpAny_items_cons (ldZ S (.inl rfl) rfl rfl hz (wpAny_items_nil ?_))⟩
  refine callRange S fun r s1 S1 => itsRange S1 (by walk_at "om") (by walk_at "om") fun ii s2 hI => ?_
  rw [Int.toNat_natCast] at hI
  refine ⟨g, _, _, _, Le.refl _, hI, by walk_at "om", fun x' g' l' => ∃ pt' qt', l' = (L, NsP m) :: (P', (· = tabObj pt')) :: (87, (· = tabObj qt')) :: l ∧ Side x x' ∧ TabOk g' Qt pt' ∧ TabOk g' Qn qt', fun v => v = .bool true, (in24 pt qt rfl ⟨rfl, fun h => h⟩ T' T), ?_, ?_⟩
  · intro C i vi x4 g4 m4 pre _ s9 hi hR10 hg4 hm4 hR13 S9
    refine el11 hR10 fun ti e317_ => ?_; try clear hR10; subst e317_
    refine el24 hR13 fun pt4 qt4 e318_ hx4 T5 T6 => ?_; try clear hR13; subst e318_
    rw [Int.zero_add] at *
    have G4 := G.le hg4
    refine wpAny_pure ?_
    rw [if_pos rfl]
    have S9' : St x4 g4 (((C, NsP m4) :: (pre ++ [(L, NsP m)])) ++ (P', (· = tabObj pt4)) :: (87, (· = tabObj qt4)) :: l) s9 := by simpa using S9
    refine wpAny_Compare1 (callFwd (mg := mg) (mb := mb) (g := g4) (l1 := (C, NsP m4) :: (pre ++ [(L, NsP m)])) (l2 := l) (c1 := fi) (c2 := i) G4.G S9' T5 T6 (by walk_at "om") (by walk_at "om") hh ((hF m).sub fun q hq => by simp at hq ⊢; rcases hq with hq | hq <;> simp [hq]) rfl rfl rfl rfl rfl G4.told G4.first G4.fi hi
      (fun s' Q' S' hq => ldL S' rfl rfl (by k_mem) hm4 (hq ti)) rfl (fun mn _ => G.hR mn fi [i]) fun x5 g5 qt5 pt5 s10 u k5 S10 hx5 T7 T8 hu => ?_)
    have G5 := G4.le k5
    refine el11 (id G5.first) fun tf5 hfc5 => ?_
    refine el12 (id G5.gone) fun gv5 hgc5 hgl5 => ?_
    refine el12 (id G5.fore) fun fv5 hfbc5 hfbl5 => ?_
    obtain rfl := hFw i u hi hu
    have hrowi : (foreN (psE ps gn) ps.length)[i]? = some ((foreN (psE ps gn) ps.length).getD i []) := by simp [show i < (foreN (psE ps gn) ps.length).length by walk_at "om"]
    have fin : ∀ r, r = expF (foreN (psE ps gn) ps.length) gn fi i → ∀ s', St x5 g5 ((C, NsP m4) :: (pre ++ [(L, NsP m)]) ++ (P', (· = tabObj pt5)) :: (87, (· = tabObj qt5)) :: l) s' →
        wpAny (model PP w) A (compareOp .Is (.bool (expF (foreN (psE ps gn) ps.length) gn fi i)) (.bool r)) (fun u s₄ => u = .bool true ∧ ∃ x'' g'' l'', Le g4 g'' ∧ St x'' g'' ((C, NsP m4) :: (pre ++ l'')) s₄ ∧ ∃ pt' qt', l'' = (L, NsP m) :: (P', (· = tabObj pt')) :: (87, (· = tabObj qt')) :: l ∧ Side x x'' ∧ TabOk g'' Qt pt' ∧ TabOk g'' Qn qt') (fun _ _ => False) s' := by
      rintro r rfl s' S'
      refine wpAny_is_plain rfl ⟨by simp, (in33 x5 g5 ((L, NsP m) :: (P', (· = tabObj pt5)) :: (87, (· = tabObj qt5)) :: l) k5 (by simpa using S') (in24 pt5 qt5 rfl ⟨hx5.1.trans hx4.1, fun h => hx5.2 (hx4.2 h)⟩ T7 T8))⟩
    refine PyProof.Rows.BoolOp_or (wpAny_Compare1 ?_)
    refine ldZ S10 (.inl rfl) rfl rfl hfc5 (ldL S10 rfl rfl (by k_mem) hm4 (oEq (wpAny_truthy_bool ?_)))
    by_cases hik : fi = i
    · rw [if_pos (by simp [hik])]
      refine fin _ ?_ s10 S10
      unfold expF; simp [hik]
    · rw [if_neg (by simp; walk_at "om")]
      refine PyProof.Rows.BoolOp_one (PyProof.Rows.BoolOp_and (wpAny_Compare1 ?_))
      refine ldZ S10 (.inl rfl) rfl rfl hfc5 (ldZ S10 (.inl rfl) rfl rfl hgc5 (notInI hgl5 S10.keep (wpAny_truthy_bool ?_)))
      cases hin : gn.contains (fi : Int) with
      | true =>
        rw [if_neg (by decide)]
        refine fin _ ?_ s10 S10
        unfold expF; rw [hin, decide_eq_false hik]; rfl
      | false =>
        rw [if_pos (by decide)]
        refine PyProof.Rows.BoolOp_one (wpAny_Compare1 ?_)
        refine ldZ S10 (.inl rfl) rfl rfl hfc5 (subs (ldZ S10 (.inl rfl) rfl rfl hfbc5 (ldL S10 rfl rfl (by k_mem) hm4 ?_)))
        refine idxLL hfbl5 S10.keep (by walk_at "om") (by walk_at "om") (by rw [Int.toNat_natCast]; exact hrowi) fun rv hrv => ?_
        refine inI hrv S10.keep (fin _ ?_ s10 S10)
        unfold expF; rw [hin, decide_eq_false hik]; rfl
  · intro acc x4 g4 _ ys s9 hg4 hR7 hys S9
    refine el24 hR7 fun pt4 qt4 e319_ hx4 T5 T6 => ?_; try clear hR7; subst e319_
    refine el25 (S9.freeze) fun g5 o5 k5 e5 q5 _ S10 => ?_
    refine wpAny_items_nil (allL S10 hh ⟨o5, e5, q5.1, q5.2.2⟩ hys fun s10 S11 => ?_)
    exact h x4 g5 qt4 s10 (hg4.trans k5) S11.drop.drop hx4
end Jr
end
-- LT
section
namespace Jr
open PySem

/-! the plain law of the search -/
section
variable {pr : Nat → Option (List Nat)} {tm : Nat → Option Int} {mn : Int} {c1 : Nat} {c2s : List Nat}

def Tm (tm : Nat → Option Int) (k : Nat) : Int := (tm k).getD 0
def Ed (pr : Nat → Option (List Nat)) (tm : Nat → Option Int) (mn : Int) (k p : Nat) : Prop := ∃ ps t, pr k = some ps ∧ p ∈ ps ∧ tm p = some t ∧ mn ≤ t
inductive Rc (pr : Nat → Option (List Nat)) (tm : Nat → Option Int) (mn : Int) (a : Nat) : Nat → Prop
  | refl : Rc pr tm mn a a
  | tail {b c} : Rc pr tm mn a b → Ed pr tm mn b c → Rc pr tm mn a c
theorem Rc.trans {a b c : Nat} (h1 : Rc pr tm mn a b) (h2 : Rc pr tm mn b c) : Rc pr tm mn a c := by
  induction h2 with
  | refl => exact h1
  | tail _ e ih => exact .tail ih e
theorem Rc.head {a b c : Nat} (e : Ed pr tm mn a b) (h : Rc pr tm mn b c) : Rc pr tm mn a c := (Rc.tail .refl e).trans h

/-- times and names fall along the parents -/
structure Gd (pr : Nat → Option (List Nat)) (tm : Nat → Option Int) : Prop where
  time : ∀ k ps p tp, pr k = some ps → p ∈ ps → tm p = some tp → ∃ tk, tm k = some tk ∧ tp < tk
  lt : ∀ k ps p, pr k = some ps → p ∈ ps → p < k
  b11 : ∀ k ps p, pr k = some ps → p ∈ ps → p < 11
theorem Ed.time (G : Gd pr tm) {k p : Nat} (h : Ed pr tm mn k p) : Tm tm p < Tm tm k := by
  refine el24 h fun ps t h1 h2 h3 _ => ?_; try clear h
  refine el12 (G.time k ps p t h1 h2 h3) fun tk h4 h5 => ?_
  unfold Tm; rw [h3, h4]; exact h5
theorem Ed.lt (G : Gd pr tm) {k p : Nat} (h : Ed pr tm mn k p) : p < k := by
  refine el23 h fun ps t h1 h2 _ => ?_; try clear h
  exact G.lt k ps p h1 h2
theorem Rc.time (G : Gd pr tm) {a b : Nat} (h : Rc pr tm mn a b) : a = b ∨ (Tm tm b < Tm tm a ∧ b < a) := by
  induction h with
  | refl => exact .inl rfl
  | tail _ e ih =>
    have h1 := e.time G
    have h2 := e.lt G
    rcases ih with rfl | ih
    · exact .inr ⟨h1, h2⟩
    · exact .inr ⟨by walk_at "om", by walk_at "om"⟩
theorem Rc.le (G : Gd pr tm) {a b : Nat} (h : Rc pr tm mn a b) : Tm tm b ≤ Tm tm a := by
  rcases h.time G with rfl | h
  · exact Int.le_refl _
  · walk_at "om"
theorem Rc.anti (G : Gd pr tm) {a b : Nat} (h1 : Rc pr tm mn a b) (h2 : Rc pr tm mn b a) : a = b := by
  rcases h1.time G with h | h
  · exact h
  · rcases h2.time G with h' | h'
    · exact h'.symm
    · walk_at "om"

def Com (pr : Nat → Option (List Nat)) (tm : Nat → Option Int) (mn : Int) (c1 : Nat) (c2s : List Nat) (k : Nat) : Prop := Rc pr tm mn c1 k ∧ ∃ c ∈ c2s, Rc pr tm mn c k
def Grt (pr : Nat → Option (List Nat)) (tm : Nat → Option Int) (mn : Int) (c1 : Nat) (c2s : List Nat) (k : Nat) : Prop := Com pr tm mn c1 c2s k ∧ ∀ j, Com pr tm mn c1 c2s j → Rc pr tm mn j k → j = k
theorem above (G : Gd pr tm) : ∀ n k, c1 - k = n → Com pr tm mn c1 c2s k → ∃ i, Grt pr tm mn c1 c2s i ∧ Rc pr tm mn i k := fun n => by
  induction n using Nat.strongRecOn with
  | ind n ih =>
    intro k hn hk
    by_cases h : Grt pr tm mn c1 c2s k
    · exact (in12 k h (.refl))
    · obtain ⟨j, hj1, hj2, hne⟩ : ∃ j, Com pr tm mn c1 c2s j ∧ Rc pr tm mn j k ∧ j ≠ k := by
        refine Classical.byContradiction fun hn => h ⟨hk, fun j h1 h2 => Classical.byContradiction fun h3 => hn (in13 j h1 h2 h3)⟩
      have h1 : k < j := by
        rcases hj2.time G with h | h
        · exact absurd h hne
        · exact h.2
      have h2 : j ≤ c1 := by
        rcases hj1.1.time G with h | h
        · walk_at "om"
        · walk_at "om"
      refine el12 (ih (c1 - j) (by walk_at "om") j rfl hj1) fun i hi1 hi2 => ?_
      exact (in12 i hi1 (hi2.trans hj2))

/-! bits -/
theorem b_or1 : ∀ a < 16, ∀ c < 8, (a ||| c : Nat) &&& 1 = 1 → a &&& 1 = 1 ∨ c &&& 1 = 1 := by decide +kernel
theorem b_or2 : ∀ a < 16, ∀ c < 8, (a ||| c : Nat) &&& 2 = 2 → a &&& 2 = 2 ∨ c &&& 2 = 2 := by decide +kernel
theorem b_or4 : ∀ a < 16, ∀ c < 8, (a ||| c : Nat) &&& 4 = 4 → a &&& 4 = 4 ∨ c &&& 4 = 4 := by decide +kernel
theorem b_cf1 : ∀ a < 16, cfOf a &&& 1 = 1 → a &&& 1 = 1 := by decide +kernel
theorem b_cf2 : ∀ a < 16, cfOf a &&& 2 = 2 → a &&& 2 = 2 := by decide +kernel
theorem b_cf4 : ∀ a < 16, cfOf a &&& 4 = 4 → a &&& 7 = 3 ∨ a &&& 4 = 4 := by decide +kernel
theorem b_up1 : ∀ a < 16, ∀ f < 16, f &&& cfOf a = cfOf a → a &&& 1 = 1 → f &&& 1 = 1 := by decide +kernel
theorem b_up2 : ∀ a < 16, ∀ f < 16, f &&& cfOf a = cfOf a → a &&& 2 = 2 → f &&& 2 = 2 := by decide +kernel
theorem b_up7 : ∀ a < 16, ∀ f < 16, f &&& cfOf a = cfOf a → (a &&& 7 = 3 ∨ a &&& 7 = 7) → f &&& 7 = 7 := by decide +kernel
theorem b_sub : ∀ a < 16, ∀ c < 8, ∀ d < 8, a &&& d = d → (a ||| c : Nat) &&& d = d := by decide +kernel
theorem b_self : ∀ a < 16, ∀ c < 8, (a ||| c : Nat) &&& c = c := by decide +kernel
theorem b_3 : ∀ a < 16, a &&& 7 = 3 → a &&& 1 = 1 ∧ a &&& 2 = 2 ∧ ¬ a &&& 4 = 4 := by decide +kernel
theorem b_3' : ∀ a < 16, a &&& 1 = 1 → a &&& 2 = 2 → ¬ a &&& 4 = 4 → a &&& 7 = 3 := by decide +kernel
theorem b_33 : ∀ a < 16, a &&& 3 = 3 → a &&& 1 = 1 ∧ a &&& 2 = 2 := by decide +kernel
theorem b_73 : ∀ a < 16, a &&& 7 = 3 → a &&& 3 = 3 := by decide +kernel
theorem b_74 : ∀ a < 16, a &&& 7 = 7 → a &&& 4 = 4 := by decide +kernel
theorem b_8 : ∀ a < 16, cfOf (a ||| 8) = cfOf a ∧ (a ||| 8 : Nat) &&& 7 = a &&& 7 ∧ (a ||| 8 : Nat) &&& 1 = a &&& 1 ∧ (a ||| 8 : Nat) &&& 2 = a &&& 2 ∧ (a ||| 8 : Nat) &&& 4 = a &&& 4 ∧ (a ||| 8 : Nat) &&& 3 = a &&& 3 := by decide +kernel
theorem b_88 : ∀ a < 16, ∀ c < 8, (a ||| c : Nat) &&& 8 = 8 → a &&& 8 = 8 := by decide +kernel
theorem b_8s : ∀ a < 16, ∀ d < 8, a &&& d = d → (a ||| 8 : Nat) &&& d = d := by decide +kernel

/-! one fold over the parents -/
theorem pstep_char {cf : Nat} (hcf : cf < 8) {st : Fl × List Im} {p : Nat} (hb : ∀ k n, st.1 k = some n → n < 16) :
    (∀ j, (pstep tm mn cf st p).1 j = st.1 j ∨ (j = p ∧ (∃ t, tm j = some t ∧ mn ≤ t) ∧ (pstep tm mn cf st p).1 j = some ((st.1 j).getD 0 ||| cf))) ∧
    (∃ ad, (pstep tm mn cf st p).2 = ad ++ st.2 ∧ ∀ a ∈ ad, ∃ t, a = (-t, p) ∧ tm p = some t ∧ mn ≤ t ∧ (pstep tm mn cf st p).1 p ≠ none) ∧
    (∀ t, tm p = some t → mn ≤ t → ((pstep tm mn cf st p).1 p).getD 0 &&& cf = cf) ∧
    (∀ j, (pstep tm mn cf st p).1 j = st.1 j ∨ qOf tm j ∈ (pstep tm mn cf st p).2) := by
  unfold pstep
  split
  · rename_i h
    exact (in04 (fun j => .inl rfl) ⟨[], rfl, fun _ h => nomatch h⟩ (fun _ _ _ => h) (fun j => .inl rfl))
  · split
    · rename_i h _ ht
      refine (in04 (fun j => .inl rfl) ⟨[], rfl, fun _ h => nomatch h⟩ (fun t e _ => ?_) (fun j => .inl rfl))
      rw [ht] at e; cases e
    · rename_i h _ t ht
      split
      · rename_i hlt
        refine (in04 (fun j => .inl rfl) ⟨[], rfl, fun _ h => nomatch h⟩ (fun t' e hle => ?_) (fun j => .inl rfl))
        rw [ht] at e; cases e; walk_at "om"
      · rename_i hlt
        refine (in04 (fun j => ?_) ⟨[(-t, p)], rfl, fun a ha => ?_⟩ (fun t' e hle => ?_) (fun j => ?_))
        · by_cases e : j = p
          · subst e
            exact .inr (in03 rfl (in12 t ht (by walk_at "om")) (by simp [addF]))
          · exact .inl (by simp [addF, e])
        · rw [List.mem_singleton.mp ha]
          exact (in14 t rfl ht (by walk_at "om") (by simp [addF]))
        · simp only [addF, if_pos, Option.getD_some]
          exact b_self _ (getD_lt hb p) _ hcf
        · by_cases e : j = p
          · subst e
            refine .inr (List.mem_cons.mpr (.inl ?_))
            unfold qOf; rw [ht]; rfl
          · exact .inl (by simp [addF, e])
end
end Jr
end
-- LU
section
namespace Jr
open PySem
section
variable {pr : Nat → Option (List Nat)} {tm : Nat → Option Int} {mn : Int} {c1 : Nat} {c2s : List Nat}

theorem fold_char {cf : Nat} (hcf : cf < 8) : ∀ (ps : List Nat) (st : Fl × List Im), (∀ k n, st.1 k = some n → n < 16) →
    (∀ j, (ps.foldl (pstep tm mn cf) st).1 j = st.1 j ∨ (j ∈ ps ∧ (∃ t, tm j = some t ∧ mn ≤ t) ∧ (ps.foldl (pstep tm mn cf) st).1 j = some ((st.1 j).getD 0 ||| cf))) ∧
    (∃ ad, (ps.foldl (pstep tm mn cf) st).2 = ad ++ st.2 ∧ ∀ a ∈ ad, ∃ j t, a = (-t, j) ∧ j ∈ ps ∧ tm j = some t ∧ mn ≤ t ∧ (ps.foldl (pstep tm mn cf) st).1 j ≠ none) ∧
    (∀ p ∈ ps, ∀ t, tm p = some t → mn ≤ t → ((ps.foldl (pstep tm mn cf) st).1 p).getD 0 &&& cf = cf) ∧
    (∀ j, (ps.foldl (pstep tm mn cf) st).1 j = st.1 j ∨ qOf tm j ∈ (ps.foldl (pstep tm mn cf) st).2) := by
  intro ps
  induction ps with
  | nil => exact fun st hb => (in04 (fun j => .inl rfl) (in12 ([]) rfl (fun _ h => nomatch h)) (fun _ h => nomatch h) (fun j => .inl rfl))
  | cons p ps ih =>
    intro st hb
    refine el04 (pstep_char (tm := tm) (mn := mn) hcf (p := p) hb) fun a1 z324_ c1' d1 => ?_; refine el12 z324_ fun ad1 b1 b1' => ?_; try clear z324_
    have hb1 : ∀ k n, (pstep tm mn cf st p).1 k = some n → n < 16 := fun k n e => by
      rcases a1 k with h | ⟨_, _, h⟩
      · exact hb k n (by rw [← h]; exact e)
      · rw [h] at e; cases e; exact lt16 _ (getD_lt hb k) _ (by walk_at "om")
    refine el04 (ih (pstep tm mn cf st p) hb1) fun a2 z325_ c2 d2 => ?_; refine el12 z325_ fun ad2 b2 b2' => ?_; try clear z325_
    show (∀ j, (ps.foldl (pstep tm mn cf) (pstep tm mn cf st p)).1 j = st.1 j ∨ _) ∧ _
    refine (in04 (fun j => ?_) ⟨ad2 ++ ad1, ?_, fun a ha => ?_⟩ (fun q hq t ht hle => ?_) (fun j => ?_))
    · rcases a2 j with h | ⟨h1, h2, h3⟩
      · rcases a1 j with h' | ⟨h1', h2', h3'⟩
        · exact .inl (h.trans h')
        · exact .inr (in03 (by simp [h1']) h2' (h.trans h3'))
      · refine .inr (in03 (List.mem_cons_of_mem _ h1) h2 ?_)
        rcases a1 j with h' | ⟨_, _, h3'⟩
        · rw [h'] at h3; exact h3
        · rw [h3'] at h3
          show (ps.foldl (pstep tm mn cf) (pstep tm mn cf st p)).1 j = _
          rw [h3]
          simp only [Option.getD_some, Nat.or_assoc, Nat.or_self]
    · show (ps.foldl (pstep tm mn cf) (pstep tm mn cf st p)).2 = _
      rw [b2, b1, List.append_assoc]
    · rcases List.mem_append.mp ha with ha | ha
      · refine el23 (b2' a ha) fun j t h1 h2 h3 => ?_
        exact (in23 j t h1 (List.mem_cons_of_mem _ h2) h3)
      · refine el14 (b1' a ha) fun t h1 h3 h4 h5 => ?_
        refine (in25 p t h1 (List.mem_cons_self ..) h3 h4 ?_)
        show (ps.foldl (pstep tm mn cf) (pstep tm mn cf st p)).1 p ≠ none
        rcases a2 p with h | ⟨_, _, h⟩
        · rw [h]; exact h5
        · rw [h]; simp
    · show ((ps.foldl (pstep tm mn cf) (pstep tm mn cf st p)).1 q).getD 0 &&& cf = cf
      rcases List.mem_cons.mp hq with rfl | hq
      · have h1 := c1' t ht hle
        rcases a2 q with h | ⟨_, _, h⟩
        · rw [h]; exact h1
        · rw [h]; exact b_self _ (getD_lt hb1 q) _ hcf
      · exact c2 q hq t ht hle
    · show (ps.foldl (pstep tm mn cf) (pstep tm mn cf st p)).1 j = st.1 j ∨ qOf tm j ∈ (ps.foldl (pstep tm mn cf) (pstep tm mn cf st p)).2
      rcases d2 j with h | h
      · rcases d1 j with h' | h'
        · exact .inl (h.trans h')
        · exact .inr (by rw [b2]; exact List.mem_append_right _ h')
      · exact .inr h

/-- what always holds of the search; dn: what was taken -/
structure Inv (pr : Nat → Option (List Nat)) (tm : Nat → Option Int) (mn : Int) (c1 : Nat) (c2s : List Nat) (fl : Fl) (q cs dn : List Im) : Prop where
  b : ∀ k n, fl k = some n → n < 16
  it : ∀ r ∈ q, r = qOf tm r.2 ∧ fl r.2 ≠ none
  itd : ∀ d ∈ dn, d = qOf tm d.2
  le : ∀ d ∈ dn, ∀ r ∈ q, key d ≤ key r
  all : ∀ k, fl k ≠ none → qOf tm k ∈ q ∨ qOf tm k ∈ dn
  prop : ∀ k, qOf tm k ∈ dn → ∀ p, Ed pr tm mn k p → (fl p).getD 0 &&& cfOf ((fl k).getD 0) = cfOf ((fl k).getD 0)
  cand : ∀ k, qOf tm k ∈ dn → (fl k).getD 0 &&& 7 = 3 → (Tm tm k, k) ∈ cs
  m8 : ∀ k, (fl k).getD 0 &&& 8 = 8 → (Tm tm k, k) ∈ cs
  cd : ∀ c ∈ cs, c = (Tm tm c.2, c.2) ∧ qOf tm c.2 ∈ dn ∧ (fl c.2).getD 0 &&& 3 = 3
  ck : cs.Pairwise fun a b => key (-a.1, a.2) ≤ key (-b.1, b.2)
  s1 : ∀ k, (fl k).getD 0 &&& 1 = 1 → Rc pr tm mn c1 k
  s2 : ∀ k, (fl k).getD 0 &&& 2 = 2 → ∃ c ∈ c2s, Rc pr tm mn c k
  s4 : ∀ k, (fl k).getD 0 &&& 4 = 4 → ∃ j, j ≠ k ∧ Com pr tm mn c1 c2s j ∧ Rc pr tm mn j k
  st1 : (fl c1).getD 0 &&& 1 = 1
  st2 : ∀ c ∈ c2s, (fl c).getD 0 &&& 2 = 2
theorem Inv.perm {fl : Fl} {q q' cs dn : List Im} (h : Inv pr tm mn c1 c2s fl q cs dn) (p : q.Perm q') : Inv pr tm mn c1 c2s fl q' cs dn :=
  { h with it := fun r hr => h.it r (p.mem_iff.mpr hr), le := fun d hd r hr => h.le d hd r (p.mem_iff.mpr hr), all := fun k hk => (h.all k hk).imp_left p.mem_iff.mp }
theorem key_lt {t t' : Int} {k k' : Nat} (h : t < t') : key (t, k) < key (t', k') := by
  have h1 := rk_lt (k := k)
  have h2 := rk_lt (k := k')
  unfold key; simp only; walk_at "om"
theorem qOf_2 {k : Nat} : (qOf tm k).2 = k := rfl
theorem qOf_1 {k : Nat} : (qOf tm k).1 = -(Tm tm k) := rfl

theorem Inv.step (G : Gd pr tm) {fl : Fl} {q cs dn : List Im} {p : Im} (I : Inv pr tm mn c1 c2s fl (p :: q) cs dn) (hmin : ∀ r ∈ q, key p ≤ key r) :
    Inv pr tm mn c1 c2s (stepF pr tm mn fl q cs p).1 (stepF pr tm mn fl q cs p).2.1 (stepF pr tm mn fl q cs p).2.2 (p :: dn) := by
  refine el02 (I.it p (List.mem_cons_self ..)) fun hp hpf => ?_
  obtain ⟨k0, hk0⟩ : ∃ k, p = qOf tm k := ⟨p.2, hp⟩
  subst hk0
  rw [qOf_2] at hpf
  clear hp
  obtain ⟨f0, hf0⟩ : ∃ f0, f0 = (fl k0).getD 0 := ⟨_, rfl⟩
  have hf16 : f0 < 16 := by rw [hf0]; exact getD_lt I.b k0
  refine el11 (Option.ne_none_iff_exists'.mp hpf) fun n0 hn0 => ?_
  have hfn : fl k0 = some f0 := by rw [hf0, hn0]; rfl
  have hcf8 := and7 f0 hf16
  -- after the mark
  have hM : ∀ j, markF fl k0 f0 j = fl j ∨ (j = k0 ∧ isNew f0 = true ∧ markF fl k0 f0 j = some (f0 ||| 8)) := fun j => by
    unfold markF
    split
    · rename_i h
      by_cases e : j = k0
      · exact .inr (in03 e h (by simp [addF, e]))
      · exact .inl (by simp [addF, e])
    · exact .inl rfl
  have hMb : ∀ k n, markF fl k0 f0 k = some n → n < 16 := fun k n e => by
    rcases hM k with h | ⟨_, _, h⟩
    · exact I.b k n (by rw [← h]; exact e)
    · rw [h] at e; cases e; exact lt16 _ hf16 _ (by decide)
  obtain ⟨ps, hps⟩ : ∃ ps, ps = (pr k0).getD [] := ⟨_, rfl⟩
  refine el04 (fold_char (tm := tm) (mn := mn) hcf8 ps (markF fl k0 f0, q) hMb) fun a z326_ c d => ?_; refine el12 z326_ fun ad b1 b2 => ?_; try clear z326_
  have e1 : (stepF pr tm mn fl q cs (qOf tm k0)).1 = (ps.foldl (pstep tm mn (cfOf f0)) (markF fl k0 f0, q)).1 := by unfold stepF; rw [hps, hf0]; rfl
  have e2 : (stepF pr tm mn fl q cs (qOf tm k0)).2.1 = (ps.foldl (pstep tm mn (cfOf f0)) (markF fl k0 f0, q)).2 := by unfold stepF; rw [hps, hf0]; rfl
  have e3 : (stepF pr tm mn fl q cs (qOf tm k0)).2.2 = candF cs (Tm tm k0) k0 f0 := by
    show candF cs (-(-(Tm tm k0))) k0 ((fl k0).getD 0) = candF cs (Tm tm k0) k0 f0
    rw [Int.neg_neg, hf0]
  rw [e1, e2, e3]
  generalize (ps.foldl (pstep tm mn (cfOf f0)) (markF fl k0 f0, q)).1 = fl' at *
  generalize (ps.foldl (pstep tm mn (cfOf f0)) (markF fl k0 f0, q)).2 = q' at *
  simp only at a b1 d
  clear e1 e2 e3
  -- an edge, if a parent is touched
  have hed : ∀ j t, j ∈ ps → tm j = some t → mn ≤ t → Ed pr tm mn k0 j := fun j t h1 h2 h3 => by
    cases e : pr k0 with
    | none => rw [hps, e] at h1; cases h1
    | some ps0 => rw [hps, e] at h1; exact (in24 ps0 t e h1 h2 h3)
  have hed' : ∀ j, Ed pr tm mn k0 j → j ∈ ps ∧ ∃ t, tm j = some t ∧ mn ≤ t := fun j ⟨ps0, t, h1, h2, h3, h4⟩ => ⟨by rw [hps, h1]; exact h2, (in12 t h3 h4)⟩
  -- what was taken is not touched
  have hnd : ∀ j, Ed pr tm mn k0 j → qOf tm j ∉ qOf tm k0 :: dn := fun j he hm => by
    have hlt : key (qOf tm k0) < key (qOf tm j) := key_lt (by have := he.time G; unfold Tm at this; walk_at "om")
    rcases List.mem_cons.mp hm with h | h
    · rw [h] at hlt; walk_at "om"
    · have := I.le _ h _ (List.mem_cons_self ..); walk_at "om"
  -- the new flags of a name, in bits
  have hfl : ∀ j, fl' j = markF fl k0 f0 j ∨ (Ed pr tm mn k0 j ∧ fl' j = some ((markF fl k0 f0 j).getD 0 ||| cfOf f0)) := fun j => by
    rcases a j with h | ⟨h1, ⟨t, h2, h3⟩, h4⟩
    · exact .inl h
    · exact .inr ⟨hed j t h1 h2 h3, h4⟩
  have hmk : ∀ j, cfOf ((markF fl k0 f0 j).getD 0) = cfOf ((fl j).getD 0) ∧ (markF fl k0 f0 j).getD 0 &&& 7 = (fl j).getD 0 &&& 7 ∧ (markF fl k0 f0 j).getD 0 &&& 1 = (fl j).getD 0 &&& 1 ∧
      (markF fl k0 f0 j).getD 0 &&& 2 = (fl j).getD 0 &&& 2 ∧ (markF fl k0 f0 j).getD 0 &&& 4 = (fl j).getD 0 &&& 4 ∧ (markF fl k0 f0 j).getD 0 &&& 3 = (fl j).getD 0 &&& 3 := fun j => by
    rcases hM j with h | ⟨h1, _, h⟩
    · rw [h]; exact (in06 rfl rfl rfl rfl rfl rfl)
    · subst h1
      rw [h, hfn]
      exact b_8 f0 hf16
  have hM16 : ∀ j, (markF fl k0 f0 j).getD 0 < 16 := getD_lt hMb
  -- a taken name keeps its flags
  have hfin : ∀ j, qOf tm j ∈ qOf tm k0 :: dn → fl' j = markF fl k0 f0 j := fun j hj => by
    rcases hfl j with h | ⟨he, _⟩
    · exact h
    · exact absurd hj (hnd j he)
  have hup : ∀ j e, e < 8 → (fl j).getD 0 &&& e = e → (fl' j).getD 0 &&& e = e := fun j e he h => by
    have h1 : (markF fl k0 f0 j).getD 0 &&& e = e := by
      rcases hM j with h' | ⟨h', _, h''⟩
      · rw [h']; exact h
      · subst h'
        rw [h'']
        rw [hfn] at h
        exact b_8s f0 hf16 e he h
    rcases hfl j with h' | ⟨_, h'⟩
    · rw [h']; exact h1
    · rw [h']; exact b_sub _ (hM16 j) _ hcf8 e he h1
  have hb' : ∀ k n, fl' k = some n → n < 16 := fun k n e => by
    rcases hfl k with h | ⟨_, h⟩
    · exact hMb k n (by rw [← h]; exact e)
    · rw [h] at e; cases e; exact lt16 _ (hM16 k) _ (by walk_at "om")
  have hsome : ∀ j, fl j ≠ none → fl' j ≠ none := fun j hj => by
    rcases hfl j with h | ⟨_, h⟩
    · rw [h]
      rcases hM j with h' | ⟨_, _, h'⟩
      · rw [h']; exact hj
      · rw [h']; simp
    · rw [h]; simp
  have hcandsub : ∀ c ∈ cs, c ∈ candF cs (Tm tm k0) k0 f0 := fun c hc => by
    unfold candF; split
    · exact List.mem_append_left _ hc
    · exact hc
  have hnew : isNew f0 = true → f0 &&& 7 = 3 ∧ candF cs (Tm tm k0) k0 f0 = cs ++ [(Tm tm k0, k0)] := fun h => by
    refine ⟨?_, by unfold candF; rw [if_pos h]⟩
    unfold isNew at h; simp at h; exact h.1
  have hg0 : (fl k0).getD 0 = f0 := hf0.symm
  have hmsome : ∀ j, markF fl k0 f0 j ≠ none → fl j ≠ none := fun j hj => by
    rcases hM j with h | ⟨rfl, _, _⟩
    · rw [← h]; exact hj
    · exact hpf
  have hqinj : ∀ i j, qOf tm i = qOf tm j → i = j := fun i j h => congrArg (·.2) h
  constructor
  · exact hb'
  · intro r hr
    rw [b1] at hr
    rcases List.mem_append.mp hr with hr | hr
    · refine el25 (b2 r hr) fun j t e327_ h2 h3 h4 h5 => ?_; subst e327_
      refine ⟨?_, h5⟩
      unfold qOf; rw [h3]; rfl
    · refine el02 (I.it r (List.mem_cons_of_mem _ hr)) fun h1 h2 => ?_
      exact ⟨h1, hsome _ h2⟩
  · intro x hx
    rcases List.mem_cons.mp hx with rfl | hx
    · rfl
    · exact I.itd x hx
  · intro x hx r hr
    have hx0 : key x ≤ key (qOf tm k0) := by
      rcases List.mem_cons.mp hx with rfl | hx
      · exact Int.le_refl _
      · exact I.le x hx _ (List.mem_cons_self ..)
    rw [b1] at hr
    rcases List.mem_append.mp hr with hr | hr
    · refine el25 (b2 r hr) fun j t e328_ h2 h3 h4 _ => ?_; subst e328_
      have he := (hed j t h2 h3 h4).time G
      have : key (qOf tm k0) < key (-t, j) := key_lt (by unfold Tm at he; rw [h3] at he; simp only [Option.getD_some] at he; walk_at "om")
      walk_at "om"
    · have := hmin r hr; walk_at "om"
  · intro k hk
    rcases d k with h | h
    · rcases I.all k (hmsome k (by rw [← h]; exact hk)) with h1 | h1
      · rcases List.mem_cons.mp h1 with h2 | h2
        · exact .inr (by rw [h2]; exact List.mem_cons_self ..)
        · exact .inl (by rw [b1]; exact List.mem_append_right _ h2)
      · exact .inr (List.mem_cons_of_mem _ h1)
    · exact .inl h
  · intro k hk p he
    rw [hfin k hk, (hmk k).1]
    rcases List.mem_cons.mp hk with h | h
    · obtain rfl := hqinj _ _ h
      rw [hg0]
      refine el02 (hed' p he) fun h1 z329_ => ?_; refine el12 z329_ fun t h2 h3 => ?_; try clear z329_
      exact c p h1 t h2 h3
    · exact hup p _ (and7 _ (getD_lt I.b k)) (I.prop k h p he)
  · intro k hk h7
    rw [hfin k hk, (hmk k).2.1] at h7
    rcases List.mem_cons.mp hk with h | h
    · obtain rfl := hqinj _ _ h
      rw [hg0] at h7
      by_cases hn : isNew f0 = true
      · rw [(hnew hn).2]; simp
      · refine hcandsub _ (I.m8 k ?_)
        rw [hg0]
        unfold isNew at hn
        simp at hn
        exact hn h7
    · exact hcandsub _ (I.cand k h h7)
  · intro k h8
    have h8m : (markF fl k0 f0 k).getD 0 &&& 8 = 8 := by
      rcases hfl k with h | ⟨_, h⟩
      · rw [h] at h8; exact h8
      · rw [h] at h8; exact b_88 _ (hM16 k) _ hcf8 h8
    rcases hM k with h | ⟨rfl, hn, _⟩
    · rw [h] at h8m; exact hcandsub _ (I.m8 k h8m)
    · rw [(hnew hn).2]; simp
  · intro x hx
    have old : x ∈ cs → x = (Tm tm x.2, x.2) ∧ qOf tm x.2 ∈ qOf tm k0 :: dn ∧ (fl' x.2).getD 0 &&& 3 = 3 := fun hx => by
      refine el03 (I.cd x hx) fun h1 h2 h3 => ?_
      exact (in03 h1 (List.mem_cons_of_mem _ h2) (hup _ 3 (by decide) h3))
    unfold candF at hx
    split at hx
    · rename_i hn
      rcases List.mem_append.mp hx with hx | hx
      · exact old hx
      · rw [List.mem_singleton.mp hx]
        exact (in03 rfl (List.mem_cons_self ..) (hup _ 3 (by decide) (by rw [hg0]; exact b_73 _ hf16 (hnew hn).1)))
    · exact old hx
  · unfold candF
    split
    · rw [List.pairwise_append]
      refine (in03 (I.ck) (List.pairwise_singleton ..) (fun x hx y hy => ?_))
      rw [List.mem_singleton.mp hy]
      refine el03 (I.cd x hx) fun h1 h2 _ => ?_
      have := I.le _ h2 _ (List.mem_cons_self ..)
      rw [h1]
      exact this
    · exact I.ck
  · intro k h1
    rcases hfl k with h | ⟨he, h⟩
    · rw [h, (hmk k).2.2.1] at h1
      exact I.s1 k h1
    · rw [h] at h1
      rcases b_or1 _ (hM16 k) _ hcf8 h1 with h1 | h1
      · rw [(hmk k).2.2.1] at h1; exact I.s1 k h1
      · exact .tail (I.s1 k0 (by rw [hg0]; exact b_cf1 _ hf16 h1)) he
  · intro k h1
    rcases hfl k with h | ⟨he, h⟩
    · rw [h, (hmk k).2.2.2.1] at h1
      exact I.s2 k h1
    · rw [h] at h1
      rcases b_or2 _ (hM16 k) _ hcf8 h1 with h1 | h1
      · rw [(hmk k).2.2.2.1] at h1; exact I.s2 k h1
      · obtain ⟨c', hc', hr⟩ := I.s2 k0 (by rw [hg0]; exact b_cf2 _ hf16 h1)
        exact (in12 c' hc' (.tail hr he))
  · intro k h1
    rcases hfl k with h | ⟨he, h⟩
    · rw [h, (hmk k).2.2.2.2.1] at h1
      exact I.s4 k h1
    · rw [h] at h1
      rcases b_or4 _ (hM16 k) _ hcf8 h1 with h1 | h1
      · rw [(hmk k).2.2.2.2.1] at h1; exact I.s4 k h1
      · rcases b_cf4 _ hf16 h1 with h1 | h1
        · refine el03 (b_3 _ hf16 h1) fun x1 x2 _ => ?_
          refine (in13 k0 (fun e => ?_) ⟨I.s1 k0 (by rw [hg0]; exact x1), I.s2 k0 (by rw [hg0]; exact x2)⟩ (.tail .refl he))
          have := he.time G
          rw [e] at this; walk_at "om"
        · obtain ⟨j, hj1, hj2, hj3⟩ := I.s4 k0 (by rw [hg0]; exact h1)
          refine (in13 j (fun e => ?_) hj2 (.tail hj3 he))
          have h2 := he.time G
          have h3 := hj3.le G
          rw [e] at h3; walk_at "om"
  · exact hup c1 1 (by decide) I.st1
  · exact fun c' hc' => hup c' 2 (by decide) (I.st2 c' hc')
end
end Jr
end
-- LV
section
namespace Jr
open PySem
section
variable {pr : Nat → Option (List Nat)} {tm : Nat → Option Int} {mn : Int} {c1 : Nat} {c2s : List Nat}

theorem z_2 : ∀ a < 4, (a ||| 2 : Nat) < 4 ∧ (a ||| 2 : Nat) &&& 1 = a &&& 1 ∧ (a ||| 2 : Nat) &&& 2 = 2 := by decide +kernel
theorem z_8 : ∀ a < 4, ¬ a &&& 8 = 8 ∧ ¬ a &&& 4 = 4 := by decide +kernel
theorem getD_lt4 {fl : Fl} (h : ∀ k n, fl k = some n → n < 4) (k : Nat) : (fl k).getD 0 < 4 := by
  cases e : fl k with
  | none => decide
  | some n => exact h k n e
theorem fold0 : ∀ (cs : List Nat) (fl : Fl), (∀ k n, fl k = some n → n < 4) → (∀ k n, cs.foldl addC fl k = some n → n < 4) ∧ (∀ k, (cs.foldl addC fl k).getD 0 &&& 1 = (fl k).getD 0 &&& 1) ∧
    (∀ k, (cs.foldl addC fl k).getD 0 &&& 2 = 2 ↔ (k ∈ cs ∨ (fl k).getD 0 &&& 2 = 2)) ∧ (∀ k, cs.foldl addC fl k ≠ none ↔ (k ∈ cs ∨ fl k ≠ none))
  | [], fl, h => ⟨h, fun _ => rfl, fun k => by simp, fun k => by simp⟩
  | c :: cs, fl, h => by
    have hc := z_2 _ (getD_lt4 h c)
    have e : ∀ k, addC fl c k = if k = c then some ((fl c).getD 0 ||| 2) else fl k := fun k => rfl
    have h1 : ∀ k n, addC fl c k = some n → n < 4 := fun k n q => by
      rw [e] at q
      split at q
      · cases q; exact hc.1
      · exact h k n q
    refine el04 (fold0 cs (addC fl c) h1) fun a1 a2 a3 a4 => ?_
    refine ⟨a1, fun k => ?_, fun k => ?_, fun k => ?_⟩
    · show (cs.foldl addC (addC fl c) k).getD 0 &&& 1 = _
      rw [a2, e]
      by_cases q : k = c
      · rw [if_pos q, q]; exact hc.2.1
      · rw [if_neg q]
    · show (cs.foldl addC (addC fl c) k).getD 0 &&& 2 = 2 ↔ _
      rw [a3, e]
      by_cases q : k = c
      · rw [if_pos q, q]
        simp [hc.2.2]
      · rw [if_neg q]
        simp [q]
    · show cs.foldl addC (addC fl c) k ≠ none ↔ _
      rw [a4, e]
      by_cases q : k = c
      · rw [if_pos q, q]; simp
      · rw [if_neg q]; simp [q]

theorem Inv.start : Inv pr tm mn c1 c2s (fl0 c1 c2s) (q0 tm c1 c2s) [] [] := by
  have e : ∀ k, addF (fun _ => none) c1 1 k = if k = c1 then some 1 else none := fun k => rfl
  have h4 : ∀ k n, addF (fun _ => none) c1 1 k = some n → n < 4 := fun k n q => by
    rw [e] at q
    split at q
    · cases q; decide
    · cases q
  refine el04 (fold0 c2s _ h4) fun a1 a2 a3 a4 => ?_
  have hmem : ∀ k, fl0 c1 c2s k ≠ none → k = c1 ∨ k ∈ c2s := fun k hk => by
    rcases (a4 k).mp hk with h | h
    · exact .inr h
    · rw [e] at h
      split at h
      · rename_i q; exact .inl q
      · exact absurd rfl h
  constructor
  · exact foldC_lt c2s fl1_lt
  · intro r hr
    obtain ⟨c, hc, rfl⟩ := List.mem_map.mp hr
    refine ⟨rfl, (a4 c).mpr ?_⟩
    rcases List.mem_cons.mp hc with rfl | hc
    · exact .inr (by rw [e, if_pos rfl]; simp)
    · exact .inl hc
  · intro d hd; cases hd
  · intro d hd; cases hd
  · intro k hk
    refine .inl (List.mem_map.mpr ⟨k, ?_, rfl⟩)
    rcases hmem k hk with rfl | h
    · exact List.mem_cons_self ..
    · exact List.mem_cons_of_mem _ h
  · intro k hk; cases hk
  · intro k hk; cases hk
  · intro k hk
    exact absurd hk (z_8 _ (getD_lt4 a1 k)).1
  · intro c hc; cases hc
  · exact .nil
  · intro k hk
    have hk' : (fl0 c1 c2s k).getD 0 &&& 1 = 1 := hk
    unfold fl0 at hk'
    rw [a2, e] at hk'
    by_cases q : k = c1
    · subst q; exact .refl
    · rw [if_neg q] at hk'; cases hk'
  · intro k hk
    rcases (a3 k).mp hk with h | h
    · exact ⟨k, h, .refl⟩
    · rw [e] at h
      split at h <;> cases h
  · intro k hk
    exact absurd hk (z_8 _ (getD_lt4 a1 k)).2
  · show (c2s.foldl addC _ c1).getD 0 &&& 1 = 1
    rw [a2, e, if_pos rfl]; rfl
  · intro c hc
    exact (a3 c).mpr (.inl hc)

theorem run_inv (G : Gd pr tm) {fl : Fl} {q cs : List Im} (h : Run pr tm mn (fl0 c1 c2s) (q0 tm c1 c2s) fl q cs) : ∃ dn, Inv pr tm mn c1 c2s fl q cs dn := by
  induction h with
  | start => exact ⟨[], .start⟩
  | perm _ p ih => obtain ⟨dn, I⟩ := ih; exact ⟨dn, I.perm p⟩
  | step _ hmin _ ih => obtain ⟨dn, I⟩ := ih; exact ⟨_, I.step G hmin⟩
theorem key_time {a b : Im} (h : key (-a.1, a.2) ≤ key (-b.1, b.2)) : b.1 ≤ a.1 := by
  have h1 := rk_lt (k := a.2)
  have h2 := rk_lt (k := b.2)
  unfold key at h; simp only at h; walk_at "om"
theorem run_fall (G : Gd pr tm) {fl : Fl} {q cs : List Im} (h : Run pr tm mn (fl0 c1 c2s) (q0 tm c1 c2s) fl q cs) : Fall cs := by
  refine el11 (run_inv G h) fun dn I => ?_
  exact I.ck.imp key_time

theorem live_4 {fl : Fl} {q : List Im} (hok : ∀ k n, fl k = some n → n < 16) (h : q.any (live fl) = false) : ∀ r ∈ q, fl r.2 ≠ none → (fl r.2).getD 0 &&& 4 = 4 := fun r hr hs => by
  rw [List.any_eq_false] at h
  have := h r hr
  refine el11 (Option.ne_none_iff_exists'.mp hs) fun n hn => ?_
  unfold live at this
  rw [hn] at this ⊢
  simp only [Bool.not_eq_true, Bool.not_eq_false'] at this
  have h3 := eq_of_beq this
  rw [show (4 : Int) = ((4 : Nat) : Int) from rfl, bAnd n (hok _ _ hn) 4 (by decide)] at h3
  show n &&& 4 = 4
  exact_mod_cast h3

theorem run_end (G : Gd pr tm) {fl : Fl} {q cs : List Im} (h : Run pr tm mn (fl0 c1 c2s) (q0 tm c1 c2s) fl q cs) (hl : q.any (live fl) = false) :
    (∀ k, Grt pr tm mn c1 c2s k → (Tm tm k, k) ∈ cs.filter (notDnc fl)) ∧ (∀ c ∈ cs.filter (notDnc fl), c = (Tm tm c.2, c.2) ∧ Grt pr tm mn c1 c2s c.2) ∧ cs.Pairwise (fun a b => key (-a.1, a.2) ≤ key (-b.1, b.2)) := by
  refine el11 (run_inv G h) fun dn I => ?_
  have h16 : ∀ k, (fl k).getD 0 < 16 := getD_lt I.b
  have hq4 : ∀ k, qOf tm k ∈ q → (fl k).getD 0 &&& 4 = 4 := fun k hk => live_4 I.b hl _ hk (I.it _ hk).2
  have hsm : ∀ k, ∀ e < 16, 0 < e → (fl k).getD 0 &&& e = e → fl k ≠ none := fun k e he h0 hk hn => by
    rw [hn] at hk
    simp at hk
    walk_at "om"
  -- a greatest one is found
  have A : ∀ k, Grt pr tm mn c1 c2s k → (fl k).getD 0 &&& 7 = 3 ∧ qOf tm k ∈ dn := by
    intro k hk
    have no4 : ¬ (fl k).getD 0 &&& 4 = 4 := fun h4 => by
      refine el13 (I.s4 k h4) fun j hj1 hj2 hj3 => ?_
      exact hj1 (hk.2 j hj2 hj3)
    -- what stands above k has been taken
    have taken : ∀ j j', fl j ≠ none → Ed pr tm mn j j' → Rc pr tm mn j' k → qOf tm j ∈ dn := fun j j' hj he hr => by
      rcases I.all j hj with h | h
      · refine el13 (I.s4 j (hq4 j h)) fun i hi1 hi2 hi3 => ?_
        have e := hk.2 i hi2 (hi3.trans (hr.head he))
        have t1 := hi3.le G
        have t2 := he.time G
        have t3 := hr.le G
        rw [e] at t1; walk_at "om"
      · exact h
    have B1 : ∀ j, Rc pr tm mn c1 j → Rc pr tm mn j k → (fl j).getD 0 &&& 1 = 1 := fun j hj => by
      induction hj with
      | refl => exact fun _ => I.st1
      | @tail b c' hb he ih =>
        intro hr
        have hb1 := ih (hr.head he)
        have ht := taken b c' (hsm b 1 (by decide) (by decide) hb1) he hr
        exact b_up1 _ (h16 b) _ (h16 c') (I.prop b ht c' he) hb1
    have B2 : ∀ c ∈ c2s, ∀ j, Rc pr tm mn c j → Rc pr tm mn j k → (fl j).getD 0 &&& 2 = 2 := fun c hc j hj => by
      induction hj with
      | refl => exact fun _ => I.st2 c hc
      | @tail b c' hb he ih =>
        intro hr
        have hb1 := ih (hr.head he)
        have ht := taken b c' (hsm b 2 (by decide) (by decide) hb1) he hr
        exact b_up2 _ (h16 b) _ (h16 c') (I.prop b ht c' he) hb1
    refine el02 (hk.1) fun hk1 z331_ => ?_; refine el12 z331_ fun c hc hk2 => ?_; try clear z331_
    have x1 := B1 k hk1 .refl
    have x2 := B2 c hc k hk2 .refl
    refine ⟨b_3' _ (h16 k) x1 x2 no4, ?_⟩
    rcases I.all k (hsm k 1 (by decide) (by decide) x1) with h | h
    · exact absurd (hq4 k h) no4
    · exact h
  refine ⟨fun k hk => ?_, fun c hc => ?_, I.ck⟩
  · refine el02 (A k hk) fun x1 x2 => ?_
    refine List.mem_filter.mpr ⟨I.cand k x2 x1, ?_⟩
    unfold notDnc
    have := (b_3 _ (h16 k) x1).2.2
    simpa using this
  · refine el02 (List.mem_filter.mp hc) fun hc1 hc2 => ?_
    refine el03 (I.cd c hc1) fun x1 x2 x3 => ?_
    have no4 : ¬ (fl c.2).getD 0 &&& 4 = 4 := by unfold notDnc at hc2; simpa using hc2
    refine el02 (b_33 _ (h16 c.2) x3) fun y1 y2 => ?_
    have hcom : Com pr tm mn c1 c2s c.2 := ⟨I.s1 _ y1, I.s2 _ y2⟩
    refine ⟨x1, hcom, fun j hj hr => Classical.byContradiction fun hne => no4 ?_⟩
    refine el12 (above G _ j rfl hj) fun i hi hij => ?_
    refine el02 (A i hi) fun z1 z2 => ?_
    have down : ∀ j', Rc pr tm mn i j' → Rc pr tm mn j' c.2 → j' ≠ i → (fl j').getD 0 &&& 7 = 7 := fun j' hj' => by
      induction hj' with
      | refl => exact fun _ h => absurd rfl h
      | @tail b c' hb he ih =>
        intro hr' _
        by_cases e : b = i
        · subst e
          exact b_up7 _ (h16 b) _ (h16 c') (I.prop b z2 c' he) (.inl z1)
        · have h7 := ih (hr'.head he) e
          have hb' : qOf tm b ∈ dn := by
            rcases I.all b (hsm b 7 (by decide) (by decide) h7) with h | h
            · have h1 := I.le _ x2 _ h
              have t1 := he.time G
              have t2 := hr'.le G
              have : key (qOf tm b) < key (qOf tm c.2) := key_lt (by unfold Tm at t1 t2; walk_at "om")
              walk_at "om"
            · exact h
          exact b_up7 _ (h16 b) _ (h16 c') (I.prop b hb' c' he) (.inr h7)
    have hne2 : c.2 ≠ i := fun e => by
      have t1 := hij.anti G (by rw [← e]; exact hr)
      exact hne (by rw [← t1, e])
    exact b_74 _ (h16 c.2) (down c.2 (hij.trans hr) .refl hne2)
end
end Jr
end
-- LW
section
namespace Jr
open PySem

theorem sorted_eq : ∀ (l₁ l₂ : List Im), l₁.Pairwise (fun a b => key a < key b) → l₂.Pairwise (fun a b => key a < key b) → (∀ x, x ∈ l₁ ↔ x ∈ l₂) → l₁ = l₂
  | [], [], _, _, _ => rfl
  | [], b :: l₂, _, _, h => by have := (h b).mpr (List.mem_cons_self ..); cases this
  | a :: l₁, [], _, _, h => by have := (h a).mp (List.mem_cons_self ..); cases this
  | a :: l₁, b :: l₂, h1, h2, h => by
    refine el02 (List.pairwise_cons.mp h1) fun p1 q1 => ?_
    refine el02 (List.pairwise_cons.mp h2) fun p2 q2 => ?_
    have e : a = b := by
      rcases List.mem_cons.mp ((h a).mp (List.mem_cons_self ..)) with e | e
      · exact e
      · rcases List.mem_cons.mp ((h b).mpr (List.mem_cons_self ..)) with e' | e'
        · exact e'.symm
        · have := p2 _ e; have := p1 _ e'; walk_at "om"
    subst e
    congr 1
    refine sorted_eq l₁ l₂ q1 q2 fun x => ⟨fun hx => ?_, fun hx => ?_⟩
    · rcases List.mem_cons.mp ((h x).mp (List.mem_cons_of_mem _ hx)) with e | e
      · have := p1 _ hx; rw [e] at this; walk_at "om"
      · exact e
    · rcases List.mem_cons.mp ((h x).mpr (List.mem_cons_of_mem _ hx)) with e | e
      · have := p2 _ hx; rw [e] at this; walk_at "om"
      · exact e

theorem stab_sorted {cs cs' : List Im} (h : StabI cs cs') (hck : cs.Pairwise fun a b => key (-a.1, a.2) ≤ key (-b.1, b.2)) (hn : (cs.map (·.2)).Nodup) (h11 : ∀ c ∈ cs, c.2 < 11) :
    cs'.Pairwise (fun a b => key a < key b) ∧ ∀ c, c ∈ cs' ↔ c ∈ cs := by
  refine el13 h fun p hl h1 h2 => ?_; try clear h
  have hg : ∀ i, (cs.map (·.1)).getD i 0 = (cs.getD i (0, 0)).1 := fun i => by
    rw [List.getD_eq_getElem?_getD, List.getElem?_map, List.getD_eq_getElem?_getD]
    cases cs[i]? <;> rfl
  have hcs : ∀ i (hi : i < cs.length), cs.getD i (0, 0) = cs[i] := fun i hi => by rw [List.getD_eq_getElem?_getD, List.getElem?_eq_getElem hi]; rfl
  have hat : ∀ i (hi : i < cs'.length), cs'[i] = cs[p i]'(h1 i (by walk_at "om")).1 := fun i hi => by
    have := (h1 i (by walk_at "om")).2
    rw [List.getElem?_eq_getElem hi, List.getElem?_eq_getElem (h1 i (by walk_at "om")).1] at this
    exact Option.some.inj this
  have hne : ∀ i j, i < j → j < cs.length → p i ≠ p j := fun i j hij hj e => by
    rcases h2 i j hij hj with h | ⟨_, h⟩
    · rw [e] at h; walk_at "om"
    · walk_at "om"
  refine ⟨?_, fun c => ⟨fun hc => ?_, fun hc => ?_⟩⟩
  · rw [List.pairwise_iff_getElem]
    intro i j hi hj hij
    have hpi := (h1 i (by walk_at "om")).1
    have hpj := (h1 j (by walk_at "om")).1
    rw [hat i hi, hat j hj]
    have h3 := h2 i j hij (by walk_at "om")
    rw [hg, hg, hcs _ hpi, hcs _ hpj] at h3
    rcases h3 with h3 | ⟨h3, h4⟩
    · have := key_lt (k := cs[p i].2) (k' := cs[p j].2) h3
      exact this
    · have h5 := List.pairwise_iff_getElem.mp hck (p i) (p j) hpi hpj h4
      have h6 : cs[p i].2 ≠ cs[p j].2 := fun e => by
        have := (List.getElem_inj (h₀ := by simpa using hpi) (h₁ := by simpa using hpj) hn).mp (by simpa using e)
        walk_at "om"
      have h7 : rk cs[p i].2 ≠ rk cs[p j].2 := fun e => h6 (rk_inj (h11 _ (List.getElem_mem _)) (h11 _ (List.getElem_mem _)) e)
      unfold key at h5 ⊢
      simp only at h5
      rw [h3] at h5 ⊢
      walk_at "om"
  · refine el11 (List.mem_iff_getElem.mp hc) fun i z332_ => ?_; refine el11 z332_ fun hi e333_ => ?_; try clear z332_; subst e333_
    rw [hat i hi]; exact List.getElem_mem _
  · refine el11 (List.mem_iff_getElem.mp hc) fun t z334_ => ?_; refine el11 z334_ fun ht e335_ => ?_; try clear z334_; subst e335_
    have hP : ((List.range cs.length).map p).Nodup := by
      refine List.pairwise_map.mpr (List.pairwise_iff_getElem.mpr fun i j hi hj hij => ?_)
      simp at hi hj ⊢
      exact hne i j hij hj
    have hin : t ∈ (List.range cs.length).map p := Classical.byContradiction fun hn' => by
      have := nodup_lt cs.length (t :: (List.range cs.length).map p) (List.nodup_cons.mpr ⟨hn', hP⟩) (fun x hx => by
        rcases List.mem_cons.mp hx with rfl | hx
        · exact ht
        · refine el12 (List.mem_map.mp hx) fun i hi e336_ => ?_; subst e336_
          exact (h1 i (List.mem_range.mp hi)).1)
      simp at this
      walk_at "om"
    refine el12 (List.mem_map.mp hin) fun i hi e337_ => ?_; subst e337_
    have hi' := List.mem_range.mp hi
    refine List.mem_iff_getElem.mpr ⟨i, by walk_at "om", hat i (by walk_at "om")⟩

theorem Rc.cases_head {pr : Nat → Option (List Nat)} {tm : Nat → Option Int} {mn : Int} {a c : Nat} (h : Rc pr tm mn a c) : a = c ∨ ∃ b, Ed pr tm mn a b ∧ Rc pr tm mn b c := by
  induction h with
  | refl => exact .inl rfl
  | tail _ e ih =>
    rcases ih with rfl | ⟨b, h1, h2⟩
    · exact .inr ⟨_, e, .refl⟩
    · exact .inr ⟨b, h1, .tail h2 e⟩

section
variable {ps : List (List Int)} {ts gn : List Int}
theorem ed_iff (G : Gr ps ts) {k p : Nat} : Ed (prN ps gn ps.length) (tmN ts gn ps.length) 0 k p ↔ k < ps.length ∧ (p : Int) ∈ rowE ps gn k := by
  have hrow : ∀ k, k < ps.length → ps[k]? = some (ps.getD k []) := fun k hk => by simp [hk]
  constructor
  · intro hR0
    refine el24 hR0 fun q t h1 h2 h3 h4 => ?_; try clear hR0
    unfold prN at h1
    split at h1
    · rename_i hk
      cases h1
      refine el12 (List.mem_map.mp h2) fun z hz e338_ => ?_; subst e338_
      have hl := G.low k _ z (hrow k hk.1) hz
      refine ⟨hk.1, List.mem_filter.mpr ⟨by rw [Int.toNat_of_nonneg hl.1]; exact hz, ?_⟩⟩
      unfold tmN at h3
      split at h3
      · rename_i hp
        rw [hk.2, hp.2]; rfl
      · cases h3
    · cases h1
  · intro hR0
    refine el02 hR0 fun hk hp => ?_; try clear hR0
    refine el02 (List.mem_filter.mp hp) fun h1 h2 => ?_
    have hl := G.low k _ _ (hrow k hk) h1
    simp only [Bool.and_eq_true, Bool.not_eq_true'] at h2
    have hpn : p < ps.length := by walk_at "om"
    refine ⟨(ps.getD k []).map Int.toNat, ts.getD p 0, ?_, List.mem_map.mpr ⟨p, h1, by simp⟩, tmN_here hpn h2.2, ?_⟩
    · unfold prN; rw [if_pos ⟨hk, h2.1⟩]
    · have hts : p < ts.length := by rw [G.len]; exact hpn
      have e : ts.getD p 0 = ts[p] := by rw [List.getD_eq_getElem?_getD, List.getElem?_eq_getElem hts]; rfl
      have := G.pos _ (List.getElem_mem hts)
      rw [e]; walk_at "om"
theorem gr_gd (G : Gr ps ts) (hn : ps.length ≤ 10) : Gd (prN ps gn ps.length) (tmN ts gn ps.length) := by
  have hrow : ∀ k, k < ps.length → ps[k]? = some (ps.getD k []) := fun k hk => by simp [hk]
  have key : ∀ k q p, prN ps gn ps.length k = some q → p ∈ q → k < ps.length ∧ gn.contains (k : Int) = false ∧ (p : Int) ∈ ps.getD k [] := fun k q p h1 h2 => by
    unfold prN at h1
    split at h1
    · rename_i hk
      cases h1
      refine el12 (List.mem_map.mp h2) fun z hz e339_ => ?_; subst e339_
      have hl := G.low k _ z (hrow k hk.1) hz
      exact ⟨hk.1, hk.2, by rw [Int.toNat_of_nonneg hl.1]; exact hz⟩
    · cases h1
  refine ⟨fun k q p tp h1 h2 h3 => ?_, fun k q p h1 h2 => ?_, fun k q p h1 h2 => ?_⟩
  · refine el03 (key k q p h1 h2) fun a b c => ?_
    refine el03 (G.low k _ p (hrow k a) c) fun _ _ z340_ => ?_; refine el23 z340_ fun tp' tk d1 d2 d3 => ?_; try clear z340_
    refine ⟨ts.getD k 0, tmN_here a b, ?_⟩
    unfold tmN at h3
    split at h3
    · cases h3
      rw [Int.toNat_natCast] at d1
      rw [List.getD_eq_getElem?_getD, d1, List.getD_eq_getElem?_getD, d2]; exact d3
    · cases h3
  · refine el03 (key k q p h1 h2) fun a b c => ?_
    have := G.low k _ p (hrow k a) c; walk_at "om"
  · refine el03 (key k q p h1 h2) fun a b c => ?_
    have := G.low k _ p (hrow k a) c; walk_at "om"

theorem foreN_get {P : List (List Int)} : ∀ n k, k < n → (foreN P n).getD k [] = foreRow P (foreN P k) k := by
  intro n
  induction n with
  | zero => exact fun k h => absurd h (Nat.not_lt_zero _)
  | succ n ih =>
    intro k h
    show (foreN P n ++ [foreRow P (foreN P n) n]).getD k [] = _
    rw [List.getD_eq_getElem?_getD]
    by_cases e : k < n
    · rw [List.getElem?_append_left (by rw [foreN_len]; exact e), ← List.getD_eq_getElem?_getD]
      exact ih k e
    · obtain rfl : k = n := by walk_at "om"
      rw [List.getElem?_append_right (by rw [foreN_len]; walk_at "om"), foreN_len]
      simp
theorem foreRow_mem {P F : List (List Int)} {k : Nat} {z : Int} : z ∈ foreRow P F k ↔ ∃ j : Nat, z = j ∧ j ≤ k ∧ (j = k ∨ ∃ p ∈ P.getD k [], (j : Int) ∈ F.getD p.toNat []) := by
  unfold foreRow
  rw [List.mem_map]
  constructor
  · intro hR0
    refine el12 hR0 fun j hj e341_ => ?_; try clear hR0; subst e341_
    refine el02 (List.mem_filter.mp hj) fun h1 h2 => ?_
    refine ⟨j, rfl, by have := List.mem_range.mp h1; walk_at "om", ?_⟩
    rcases Bool.or_eq_true_iff.mp h2 with h | h
    · exact .inl (eq_of_beq h)
    · refine .inr ?_
      have h3 : (P.getD k []).filter (fun p => (F.getD p.toNat []).contains (j : Int)) ≠ [] := fun e => by rw [e] at h; cases h
      refine el11 (List.exists_mem_of_ne_nil _ h3) fun p hp => ?_
      refine el02 (List.mem_filter.mp hp) fun h4 h5 => ?_
      exact ⟨p, h4, List.contains_iff_mem.mp h5⟩
  · intro hR0
    refine el13 hR0 fun j e342_ h1 h2 => ?_; try clear hR0; subst e342_
    refine ⟨j, List.mem_filter.mpr ⟨List.mem_range.mpr (by walk_at "om"), ?_⟩, rfl⟩
    rcases h2 with rfl | ⟨p, h3, h4⟩
    · simp
    · refine Bool.or_eq_true_iff.mpr (.inr ?_)
      cases e : (P.getD k []).filter (fun p => (F.getD p.toNat []).contains (j : Int)) with
      | nil =>
        have : p ∈ (P.getD k []).filter (fun p => (F.getD p.toNat []).contains (j : Int)) := List.mem_filter.mpr ⟨h3, List.contains_iff_mem.mpr h4⟩
        rw [e] at this; cases this
      | cons _ _ => rfl
theorem fore_mem (G : Gr ps ts) (hn : ps.length ≤ 10) : ∀ k, k < ps.length → ∀ z : Int, z ∈ (foreN (psE ps gn) ps.length).getD k [] ↔ ∃ j : Nat, z = j ∧ Rc (prN ps gn ps.length) (tmN ts gn ps.length) 0 k j := fun k => by
  have hrow : ∀ k, k < ps.length → ps[k]? = some (ps.getD k []) := fun k hk => by simp [hk]
  induction k using Nat.strongRecOn with
  | ind k ih =>
    intro hk z
    rw [foreN_get _ _ hk, foreRow_mem]
    have hE : (psE ps gn).getD k [] = rowE ps gn k := by
      rw [List.getD_eq_getElem?_getD]
      unfold psE
      simp [hk]
    rw [hE]
    have hsub : ∀ p ∈ rowE ps gn k, ∃ q : Nat, p = q ∧ q < k ∧ (foreN (psE ps gn) k).getD p.toNat [] = (foreN (psE ps gn) ps.length).getD q [] := fun p hp => by
      have hl := G.low k _ p (hrow k hk) (List.mem_filter.mp hp).1
      refine ⟨p.toNat, (Int.toNat_of_nonneg hl.1).symm, by walk_at "om", ?_⟩
      rw [foreN_get _ _ (show p.toNat < k by walk_at "om"), foreN_get _ _ (show p.toNat < ps.length by walk_at "om")]
    constructor
    · rintro ⟨j, rfl, h1, rfl | ⟨p, h2, h3⟩⟩
      · exact ⟨_, rfl, .refl⟩
      · refine el13 (hsub p h2) fun q e343_ hq e => ?_; subst e343_
        rw [e] at h3
        refine el12 ((ih q hq (by walk_at "om") _).mp h3) fun j' e' hr => ?_
        have : j = j' := by walk_at "om"
        subst this
        exact ⟨j, rfl, hr.head ((ed_iff G).mpr ⟨hk, h2⟩)⟩
    · intro hR0
      refine el12 hR0 fun j e344_ hr => ?_; try clear hR0; subst e344_
      refine ⟨j, rfl, ?_, ?_⟩
      · rcases hr.time (gr_gd G hn) with h | h <;> walk_at "om"
      · rcases hr.cases_head with rfl | ⟨q, h1, h2⟩
        · exact .inl rfl
        · refine el02 ((ed_iff G).mp h1) fun _ h3 => ?_
          refine el13 (hsub _ h3) fun q' e1 hq' e => ?_
          have : q = q' := by walk_at "om"
          subst this
          refine .inr ⟨q, h3, ?_⟩
          rw [e]
          exact (ih q hq' (by walk_at "om") _).mpr ⟨j, rfl, h2⟩
end
end Jr
end
-- LX
section
namespace Jr
open PySem
section
variable {ps : List (List Int)} {ts gn : List Int} {fi : Nat} {os : List Nat}
theorem isEmpty_false {α : Type} {q : α → Bool} {l : List α} : (!(l.filter q).isEmpty) = true ↔ ∃ x ∈ l, q x = true := by
  cases e : l.filter q with
  | nil =>
    refine ⟨(fun h => by cases h), fun hq_ => el12 hq_ fun x h1 h2 => ?_⟩
    have : x ∈ l.filter q := List.mem_filter.mpr ⟨h1, h2⟩
    rw [e] at this; cases this
  | cons a r =>
    have : a ∈ l.filter q := by rw [e]; exact List.mem_cons_self ..
    exact ⟨fun _ => ⟨a, List.mem_filter.mp this⟩, fun _ => rfl⟩
theorem isEmpty_true {α : Type} {q : α → Bool} {l : List α} : (l.filter q).isEmpty = true ↔ ∀ x ∈ l, q x = false := by
  rw [List.isEmpty_iff, List.filter_eq_nil_iff]
  exact ⟨fun h x hx => Bool.eq_false_iff.mpr (h x hx), fun h x hx => Bool.eq_false_iff.mp (h x hx)⟩
theorem com_mem (G : Gr ps ts) (hn : ps.length ≤ 10) (hfi : fi < ps.length) (hos : ∀ o ∈ os, o < ps.length) (hne : os ≠ []) {z : Int} :
    z ∈ comL (foreN (psE ps gn) ps.length) fi os ↔ ∃ j : Nat, z = j ∧ Com (prN ps gn ps.length) (tmN ts gn ps.length) 0 fi os j := by
  unfold comL
  rw [if_neg hne, List.mem_filter, fore_mem G hn fi hfi, isEmpty_false]
  constructor
  · intro hR0
    refine el02 hR0 fun z1_ z2_ => ?_; try clear hR0; refine el12 z1_ fun j e3_ h1 => ?_; try clear z1_; subst e3_; refine el12 z2_ fun o ho h2 => ?_; try clear z2_
    refine el12 (List.mem_map.mp ho) fun o' ho' e4_ => ?_; subst e4_
    have h3 := List.contains_iff_mem.mp h2
    refine el12 ((fore_mem G hn o' (hos o' ho') _).mp h3) fun j' e h4 => ?_
    have : j = j' := by walk_at "om"
    subst this
    exact (in13 j rfl h1 (in12 o' ho' h4))
  · intro hR0
    refine el13 hR0 fun j e5_ h1 z6_ => ?_; try clear hR0; subst e5_; refine el12 z6_ fun o ho h2 => ?_; try clear z6_
    refine ⟨(in12 j rfl h1), (in12 (o : Int) (List.mem_map.mpr (in12 o ho rfl)) (List.contains_iff_mem.mpr ?_))⟩
    exact (fore_mem G hn o (hos o ho) _).mpr (in12 j rfl h2)
theorem com_lt (G : Gr ps ts) (hn : ps.length ≤ 10) (hfi : fi < ps.length) (hos : ∀ o ∈ os, o < ps.length) {z : Int} (h : z ∈ comL (foreN (psE ps gn) ps.length) fi os) : 0 ≤ z ∧ z < (ps.length : Int) := by
  by_cases hne : os = []
  · unfold comL at h; rw [if_pos hne] at h
    rw [List.mem_singleton.mp h]; walk_at "om"
  · refine el13 ((com_mem G hn hfi hos hne).mp h) fun j e7_ h1 _ => ?_; subst e7_
    rcases h1.time (gr_gd G hn) with h | h <;> walk_at "om"
theorem row_nodup {P F : List (List Int)} {k : Nat} : (foreRow P F k).Nodup := by
  unfold foreRow
  refine List.pairwise_map.mpr ((List.nodup_range.sublist List.filter_sublist).imp fun {a b} h e => h (Int.ofNat.inj e))
theorem com_nodup (hfi : fi < ps.length) : (comL (foreN (psE ps gn) ps.length) fi os).Nodup := by
  unfold comL
  split
  · exact List.pairwise_singleton ..
  · refine List.Pairwise.sublist List.filter_sublist ?_
    rw [foreN_get _ _ hfi]; exact row_nodup
theorem gr_nodup (hfi : fi < ps.length) : (grL (foreN (psE ps gn) ps.length) (comL (foreN (psE ps gn) ps.length) fi os)).Nodup := (com_nodup hfi).sublist List.filter_sublist
theorem gr_mem (G : Gr ps ts) (hn : ps.length ≤ 10) (hfi : fi < ps.length) (hos : ∀ o ∈ os, o < ps.length) (hne : os ≠ []) {z : Int} :
    z ∈ grL (foreN (psE ps gn) ps.length) (comL (foreN (psE ps gn) ps.length) fi os) ↔ ∃ j : Nat, z = j ∧ Grt (prN ps gn ps.length) (tmN ts gn ps.length) 0 fi os j := by
  unfold grL
  rw [List.mem_filter, isEmpty_true, com_mem G hn hfi hos hne]
  have hlt : ∀ j, Com (prN ps gn ps.length) (tmN ts gn ps.length) 0 fi os j → j < ps.length := fun j h => by
    rcases h.1.time (gr_gd G hn) with h | h <;> walk_at "om"
  constructor
  · intro hR0
    refine el02 hR0 fun z8_ h2 => ?_; try clear hR0; refine el12 z8_ fun j e9_ h1 => ?_; try clear z8_; subst e9_
    refine (in13 j rfl h1 (fun i hi hr => ?_))
    have h3 := h2 (i : Int) ((com_mem G hn hfi hos hne).mpr (in12 i rfl hi))
    have h4 : (foreN (psE ps gn) ps.length).getD ((i : Int)).toNat [] = (foreN (psE ps gn) ps.length).getD i [] := by rw [Int.toNat_natCast]
    rw [h4, List.contains_iff_mem.mpr ((fore_mem G hn i (hlt i hi) _).mpr (in12 j rfl hr))] at h3
    simp at h3
    walk_at "om"
  · intro hR0
    refine el13 hR0 fun j e10_ h1 h2 => ?_; try clear hR0; subst e10_
    refine ⟨⟨j, rfl, h1⟩, fun x hx => ?_⟩
    refine el12 ((com_mem G hn hfi hos hne).mp hx) fun i e11_ hi => ?_; subst e11_
    by_cases e : i = j
    · subst e; simp
    · refine Bool.and_eq_false_iff.mpr (.inr (Bool.eq_false_iff.mpr fun hc => e ?_))
      have h3 := List.contains_iff_mem.mp hc
      rw [Int.toNat_natCast] at h3
      refine el12 ((fore_mem G hn i (hlt i hi) _).mp h3) fun j' e' hr => ?_
      have : j = j' := by walk_at "om"
      subst this
      exact h2 i hi hr
theorem itD_nat {k : Nat} (hk : k < ps.length) (hl : ts.length = ps.length) : itD ts gn (k : Int) = (Tm (tmN ts gn ps.length) k, k) := by
  unfold itD Tm
  rw [Int.toNat_natCast]
  cases h : gn.contains (k : Int) with
  | true => rw [if_pos rfl, tmN_gone h]; rfl
  | false => rw [if_neg (by decide), tmN_here hk h]; rfl

/-- what find_merge_base tells is what is due -/
theorem base_law (G : Gr ps ts) (hn : ps.length ≤ 10) (hfi : fi < ps.length) (hos : ∀ o ∈ os, o < ps.length) {b : Bool} {ks : List Nat} (h : FmR b (prN ps gn ps.length) (tmN ts gn ps.length) fi os ks) {its : List Im}
    (hp : its.Perm ((grL (foreN (psE ps gn) ps.length) (comL (foreN (psE ps gn) ps.length) fi os)).map (itD ts gn))) (hs : its.Pairwise fun a b => key a < key b) : ks = its.map (·.2) := by
  have Gd := gr_gd (gn := gn) G hn
  rcases h with ⟨hc, rfl⟩ | ⟨⟨h1, hne⟩, fl, q, cs, cs', hrun, hlive, hok, hokc, hst, rfl, _⟩
  · -- one alone
    have hgr : grL (foreN (psE ps gn) ps.length) (comL (foreN (psE ps gn) ps.length) fi os) = [(fi : Int)] := by
      by_cases hne : os = []
      · unfold comL grL
        rw [if_pos hne]
        simp
      · have hin : fi ∈ os := hc.resolve_right hne
        have hcf : Com (prN ps gn ps.length) (tmN ts gn ps.length) 0 fi os fi := ⟨.refl, (in12 fi hin (.refl))⟩
        have hm : ∀ z, z ∈ grL (foreN (psE ps gn) ps.length) (comL (foreN (psE ps gn) ps.length) fi os) ↔ z = (fi : Int) := fun z => by
          rw [gr_mem G hn hfi hos hne]
          constructor
          · intro hR0
            refine el13 hR0 fun j e12_ h2 h3 => ?_; try clear hR0; subst e12_
            have := h3 fi hcf h2.1
            walk_at "om"
          · rintro rfl
            exact (in13 fi rfl hcf (fun j hj hr => hr.anti Gd hj.1))
        have hnd := gr_nodup (ps := ps) (gn := gn) (fi := fi) (os := os) hfi
        generalize grL (foreN (psE ps gn) ps.length) (comL (foreN (psE ps gn) ps.length) fi os) = L at hm hnd
        match L with
        | [] => have := (hm fi).mpr rfl; cases this
        | [a] => rw [(hm a).mp (List.mem_cons_self ..)]
        | a :: a' :: _ =>
          have e1 := (hm a).mp (List.mem_cons_self ..)
          have e2 := (hm a').mp (List.mem_cons_of_mem _ (List.mem_cons_self ..))
          have := (List.nodup_cons.mp hnd).1
          rw [e1, e2] at this
          simp at this
    rw [hgr] at hp
    have : its = [itD ts gn (fi : Int)] := List.perm_singleton.mp hp
    rw [this, itD_nat hfi G.len]; rfl
  · -- the search
    refine el03 (run_end Gd hrun hlive) fun A B C => ?_
    have hnf : ((cs.filter (notDnc fl)).map (·.2)).Nodup := hokc.n.sublist (List.filter_sublist.map _)
    refine el02 (stab_sorted hst (C.sublist List.filter_sublist) hnf fun c hc => (hokc.m c (List.mem_filter.mp hc).1).1) fun s1 s2 => ?_
    have hlt : ∀ j, Grt (prN ps gn ps.length) (tmN ts gn ps.length) 0 fi os j → j < ps.length := fun j h => by
      rcases h.1.1.time Gd with h | h <;> walk_at "om"
    have : cs' = its := sorted_eq _ _ s1 hs fun x => by
      rw [s2, hp.mem_iff, List.mem_map]
      constructor
      · intro hx
        refine el02 (B x hx) fun e hg => ?_
        refine (in12 (x.2 : Int) ((gr_mem G hn hfi hos hne).mpr (in12 (x.2) rfl hg)) ?_)
        rw [itD_nat (hlt _ hg) G.len]; exact e.symm
      · intro hR0
        refine el12 hR0 fun z hz e13_ => ?_; try clear hR0; subst e13_
        refine el12 ((gr_mem G hn hfi hos hne).mp hz) fun j e14_ hg => ?_; subst e14_
        rw [itD_nat (hlt _ hg) G.len]
        exact A j hg
    rw [this]

/-- what can_fast_forward tells -/
theorem fwd_law (G : Gr ps ts) (hn : ps.length ≤ 10) (hfi : fi < ps.length) {k : Nat} (hk : k < ps.length) {b r : Bool} (h : CfR b (prN ps gn ps.length) (tmN ts gn ps.length) fi k r) : r = expF (foreN (psE ps gn) ps.length) gn fi k := by
  have Gd := gr_gd (gn := gn) G hn
  unfold expF
  rcases h with ⟨rfl, rfl⟩ | ⟨hne, ⟨h1, _, rfl⟩ | ⟨mn, ks, h1, hL, rfl⟩⟩
  · simp
  · rw [decide_eq_false hne]
    cases hg : gn.contains (fi : Int) with
    | true => rfl
    | false => rw [tmN_here hfi hg] at h1; cases h1
  · rw [decide_eq_false hne]
    have hg : gn.contains (fi : Int) = false := Bool.eq_false_iff.mpr fun hg => by rw [tmN_gone hg] at h1; cases h1
    rw [hg]
    refine el47 hL fun fl q cs cs' hrun hlive hok hokc hst e15_ _ => ?_; try clear hL; subst e15_
    have hTf : Tm (tmN ts gn ps.length) fi = mn := by unfold Tm; rw [h1]; rfl
    have hmn : 0 ≤ mn := by
      rw [tmN_here hfi hg] at h1
      cases h1
      have hts : fi < ts.length := by rw [G.len]; exact hfi
      have e : ts.getD fi 0 = ts[fi] := by rw [List.getD_eq_getElem?_getD, List.getElem?_eq_getElem hts]; rfl
      have := G.pos _ (List.getElem_mem hts)
      rw [e]; walk_at "om"
    refine el03 (run_end Gd hrun hlive) fun A B C => ?_
    have hnf : ((cs.filter (notDnc fl)).map (·.2)).Nodup := hokc.n.sublist (List.filter_sublist.map _)
    refine el02 (stab_sorted hst (C.sublist List.filter_sublist) hnf fun c hc => (hokc.m c (List.mem_filter.mp hc).1).1) fun s1 s2 => ?_
    -- below the first there is nothing
    have only : ∀ j, Rc (prN ps gn ps.length) (tmN ts gn ps.length) mn fi j → j = fi := fun j hj => by
      induction hj with
      | refl => rfl
      | tail _ e ih =>
        subst ih
        have t1 := e.time Gd
        refine el24 e fun _ t _ _ h3 h4 => ?_; try clear e
        rw [hTf] at t1
        unfold Tm at t1; rw [h3] at t1
        simp only [Option.getD_some] at t1; walk_at "om"
    have hcom : ∀ j, Com (prN ps gn ps.length) (tmN ts gn ps.length) mn fi [k] j ↔ j = fi ∧ Rc (prN ps gn ps.length) (tmN ts gn ps.length) mn k fi := fun j => by
      constructor
      · intro hR0
        refine el02 hR0 fun h2 z16_ => ?_; try clear hR0; refine el12 z16_ fun c hc h3 => ?_; try clear z16_
        obtain rfl := only j h2
        rw [List.mem_singleton.mp hc] at h3
        exact ⟨rfl, h3⟩
      · intro hR0
        obtain ⟨rfl, h2⟩ := hR0
        exact ⟨.refl, (in12 k (by simp) h2)⟩
    have hgrt : ∀ j, Grt (prN ps gn ps.length) (tmN ts gn ps.length) mn fi [k] j ↔ j = fi ∧ Rc (prN ps gn ps.length) (tmN ts gn ps.length) mn k fi := fun j => by
      constructor
      · exact fun h => (hcom j).mp h.1
      · intro h
        refine ⟨(hcom j).mpr h, fun i hi _ => ?_⟩
        rw [((hcom i).mp hi).1, h.1]
    have up : ∀ {a c}, Rc (prN ps gn ps.length) (tmN ts gn ps.length) mn a c → Rc (prN ps gn ps.length) (tmN ts gn ps.length) 0 a c := fun h => by
      induction h with
      | refl => exact .refl
      | tail _ e ih => obtain ⟨q, t, h1, h2, h3, h4⟩ := e; exact .tail ih (in24 q t h1 h2 h3 (by walk_at "om"))
    have dn : ∀ {c}, Rc (prN ps gn ps.length) (tmN ts gn ps.length) 0 k c → Rc (prN ps gn ps.length) (tmN ts gn ps.length) 0 c fi → Rc (prN ps gn ps.length) (tmN ts gn ps.length) mn k c := fun h => by
      induction h with
      | refl => exact fun _ => .refl
      | @tail bb cc hb e ih =>
        intro hr
        have t1 := hr.le Gd
        refine .tail (ih (hr.head e)) ?_
        refine el24 e fun q t h1 h2 h3 h4 => ?_; try clear e
        refine (in24 q t h1 h2 h3 ?_)
        rw [hTf] at t1
        unfold Tm at t1; rw [h3] at t1; exact t1
    have hcont : (foreN (psE ps gn) ps.length |>.getD k []).contains (fi : Int) = true ↔ Rc (prN ps gn ps.length) (tmN ts gn ps.length) mn k fi := by
      rw [List.contains_iff_mem, fore_mem G hn k hk]
      constructor
      · intro hR0
        refine el12 hR0 fun j e hr => ?_; try clear hR0
        have : j = fi := by walk_at "om"
        subst this
        exact dn hr .refl
      · exact fun h => (in12 fi rfl (up h))
    have hmem : ∀ c, c ∈ cs' ↔ c = (Tm (tmN ts gn ps.length) fi, fi) ∧ Rc (prN ps gn ps.length) (tmN ts gn ps.length) mn k fi := fun c => by
      rw [s2]
      constructor
      · intro hc
        refine el02 (B c hc) fun e hg => ?_
        refine el02 ((hgrt c.2).mp hg) fun e2 h3 => ?_
        rw [e2] at e
        exact ⟨e, h3⟩
      · intro hR0
        refine el02 hR0 fun e18_ h3 => ?_; try clear hR0; subst e18_
        exact A fi ((hgrt fi).mpr ⟨rfl, h3⟩)
    show decide (cs'.map (·.2) = [fi]) = (false || (!false && _))
    simp only [Bool.not_false, Bool.true_and, Bool.false_or]
    by_cases hr : Rc (prN ps gn ps.length) (tmN ts gn ps.length) mn k fi
    · rw [hcont.mpr hr, decide_eq_true_iff]
      have hs : cs' = [(Tm (tmN ts gn ps.length) fi, fi)] := sorted_eq _ _ s1 (List.pairwise_singleton ..) fun x => by
        rw [hmem, List.mem_singleton]; exact ⟨fun h => h.1, fun h => ⟨h, hr⟩⟩
      rw [hs]; rfl
    · rw [Bool.eq_false_iff.mpr fun h => hr (hcont.mp h), decide_eq_false_iff_not]
      intro e
      have : cs' ≠ [] := fun e2 => by rw [e2] at e; cases e
      refine el11 (List.exists_mem_of_ne_nil _ this) fun c hc => ?_
      exact hr ((hmem c).mp hc).2
end
end Jr
end
-- LY
section
namespace Jr
open PySem PySem.W PySem.Calls PySem.SeqAt PySem.Builtin PyProof.Rows PySem.Spec
variable {x : Wd} {g : Heap} {l : List Ent} {w : World} {A : Around} {E : Value → Shared → Prop} {s : Shared} {env : Env} {mg mb : Str → Option Value}

theorem body126 {w : World} : ∃ s0 s1 s2 s3 s4 s5 s6 s7 s8 s9 s10 s11 s12 s13 s14 s15 s16 s17 s18 s19, bodyOf w 126 = [s0, s1, s2, s3, s4, s5, s6, s7, s8, s9, s10, s11, s12, s13, s14, s15, s16, s17, s18, s19] := by
  have e0 := @_root_.id ((KK w).lookup 126 = some _) rfl
  unfold bodyOf
  rw [e0]
  exact ⟨_, _, _, _, _, _, _, _, _, _, _, _, _, _, _, _, _, _, _, _, rfl⟩

def QnF : Int → Int → Str := fun a _ => if a = 30 then "_find_lcas.<locals>._has_candidates" else "_find_lcas.<locals>.<lambda>"
theorem pt_of {ps : List (List Int)} {ts gn : List Int} (G : Gr ps ts) (hn : ps.length ≤ 10) : PT (prN ps gn ps.length) (tmN ts gn ps.length) where
  lt := fun k q h r hr => (gr_gd (gn := gn) G hn).b11 k q r h hr
  len := fun k q h => by
    unfold prN at h
    split at h
    · rename_i hk
      cases h
      rw [List.length_map]
      have : ps[k]? = some (ps.getD k []) := by simp [hk.1]
      exact G.row _ (List.mem_of_getElem? this)
    · cases h
theorem tm_all {ts : List Int} {n k : Nat} (hk : k < n) : tmN ts [] n k ≠ none := by
  rw [tmN_here hk rfl]; simp
theorem pr_all {ps : List (List Int)} {n k : Nat} (hk : k < n) : prN ps [] n k ≠ none := by
  unfold prN; rw [if_pos ⟨hk, rfl⟩]; simp

set_option maxHeartbeats 8000000 in
theorem law_all {sc : Scope} {c : Cs} {L : Addr} {m : Str → Option Value} {ns : List Int} {sv : Value} {Q : Flow → Shared → Prop}
    (hsc : scopeOf w 126 = some sc) (W : Wf w mg mb g)
    (S : St x g ((L, NsP m) :: (c.parents, CellP none) :: (c.stamps, CellP none) :: (c.size, CellP none) :: (c.pick, CellP none) :: (c.gone, CellP none) :: (c.marks, CellP none) :: (c.table, CellP none) :: (c.times, CellP none) ::
      (c.forebears, CellP none) :: (c.first, CellP none) :: (c.others, CellP none) :: (c.told, CellP none) :: (123, (· = tabObj #[])) :: (c.common, CellP none) :: (87, (· = tabObj #[])) :: l) s)
    (hd : A.depth < 600) (hu : A.units < 700) (hh : A.handled = none) (hF : ∀ r l', (∀ p ∈ l, p ∈ l') → FrOk A.frames ((L, NsP r) :: l')) (hm : m "script" = some sv) (hs : IntL g ns sv) (hn : ns.length ≤ 63)
    (h : ∀ x' g' qt' pt' s', Le g g' → St x' g' ((87, (· = tabObj qt')) :: (123, (· = tabObj pt')) :: l) s' → Side x x' → Q (.ret (.bool true)) s') :
    wpAny (model PP w) A (execs (bodyOf w 126) (lwEnv sc c L)) Q (fun _ _ => False) s := by
  refine el71 (body126 (w := w)) fun s0 s1 s2 s3 s4 s5 s6 z350_ => ?_; refine el71 z350_ fun s7 s8 s9 s10 s11 s12 s13 z351_ => ?_; try clear z350_; refine el61 z351_ fun s14 s15 s16 s17 s18 s19 hb => ?_; try clear z351_
  have hi : ∀ i : Nat, (bodyOf w 126)[i]? = [s0, s1, s2, s3, s4, s5, s6, s7, s8, s9, s10, s11, s12, s13, s14, s15, s16, s17, s18, s19][i]? := fun i => by rw [hb]
  rw [show execs (bodyOf w 126) (lwEnv sc c L) = execs [s0, s1, s2, s3, s4, s5, s6, s7, s8, s9, s10, s11, s12, s13, s14, s15, s16, s17, s18, s19] (lwEnv sc c L) by rw [hb]]
  refine wpAny_execs_cons (lw_0 (hi 0) hsc W S (by walk_at "om") (by walk_at "om") hh hm hs hn fun g1 pv tv ps ts t1 k1 hcp hct hpl htl Gps h2 h10 S1 => ?_)
  have cp : CzLL g1 c.parents ps := (in12 pv hcp hpl)
  have ct : CzL g1 c.stamps ts := (in12 tv hct htl)
  refine wpAny_execs_cons (lw_1 (hi 1) hsc (W.le k1) S1 cp h10 fun g2 t2 k2 cz S2 => ?_)
  have k02 := k1.trans k2
  refine wpAny_execs_cons (lw_2 (hi 2) hsc (W.le k02) S2 hh hm (hs.le k02) hn cz fun g3 t3 pk k3 _ cpk S3 => ?_)
  have k03 := k02.trans k3
  refine wpAny_execs_cons (lw_3 (hi 3) hsc (W.le k03) S3 hh hm (hs.le k03) hn (cz.le k3) fun t4 so u4 hso0 hso6 S4 => ?_)
  have hm4 : upd m "sort" (.int so u4) "script" = some sv := upd_ne (by decide) hm
  refine wpAny_execs_cons (lw_4 (hi 4) hsc (W.le k03) S4 hh hm4 (hs.le k03) hn (cz.le k3) fun t5 mk u5 hmk S5 => ?_)
  refine wpAny_execs_cons (lw_5 (hi 5) hsc (W.le k03) S5 hh (cz.le k3) h10 cpk fun g6 t6 p k6 cg S6 => ?_)
  have k06 := k03.trans k6
  have k36 := k3.trans k6
  obtain ⟨gn, hgn⟩ : ∃ gn, gn = ((List.range ps.length).filter p).map Int.ofNat := ⟨_, rfl⟩
  rw [← hgn] at cg
  clear hgn
  refine wpAny_execs_cons (lw_6 (so := so) (mk := mk) (t1 := u4) (t2 := u5) (hi 6) hsc (W.le k06) S6 (by walk_at "om") hh (cz.le k36) h10 h2 (upd_ne (by decide) upd_same) hso0 hso6 upd_same hmk fun g7 t7 sh b k7 cm hsh S7 => ?_)
  generalize upd (upd m "sort" (.int so u4)) "mark" (.int mk u5) = m7 at *
  have k07 := k06.trans k7
  refine wpAny_execs_cons (lw_7 (hi 7) hsc (W.le k07) S7 fun g8 t8 td k8 htd ctd S8 => ?_)
  have k08 := k07.trans k8
  have sw : ∀ {y z v : Ent} {r : List Ent}, (y :: z :: v :: r).Perm (y :: v :: z :: r) := fun {y z v r} => (List.Perm.swap ..).cons _
  refine wpAny_execs_cons (lw_8 (hi 8) hsc (W.le k08) (S8.perm sw) fun g9 t9 md k9 hmd cmd S9 => ?_)
  have k09 := k08.trans k9
  have k29 : Le g2 g9 := (k36.trans (k7.trans (k8.trans k9)))
  have k69 : Le g6 g9 := k7.trans (k8.trans k9)
  have k19 : Le g1 g9 := k2.trans k29
  refine wpAny_execs_cons (lw_9 (ps := ps) (ts := ts) (gn := gn) (hi 9) hsc (W.le k09) (S9.perm sw) (by walk_at "om") (by walk_at "om") hh (cp.le k19) (ct.le k19) (cz.le k29) (cg.le k69) h10 Gps (ctd.le k9) cmd fun g10 t10 m10 f1 f2 k10 hf1 hf2 S10 => ?_)
  have n3 : ∀ {y z v : Ent} {r : List Ent}, (y :: z :: v :: r).Perm (z :: v :: y :: r) := fun {y z v r} => (List.Perm.swap ..).trans ((List.Perm.swap ..).cons _)
  refine el25 ((S10.perm n3).freeze) fun ga oa ka ea pa _ S11 => ?_
  refine el25 (S11.freeze) fun gb ob kb eb pb _ S12 => ?_
  have kab : Le g10 gb := ka.trans kb
  have k9b : Le g9 gb := k10.trans kab
  have k0b := k09.trans k9b
  have k1b := k19.trans k9b
  have k2b := k29.trans k9b
  have k6b := k69.trans k9b
  have tabP : Tab w gb c.table (PrF (prN ps gn ps.length)) := (in24 td f1 ((ctd.le k9).le k9b) htd (in12 oa (kb _ _ ea) pa) (hf1.pr kab))
  have tabT : Tab w gb c.times (TmF (tmN ts gn ps.length)) := (in24 md f2 (cmd.le k9b) hmd (in12 ob eb pb) hf2)
  refine wpAny_execs_cons (lw_10 (ps := ps) (ts := ts) (gn := gn) (hi 10) hsc (W.le k0b) S12 (by walk_at "om") (by walk_at "om") hh (cp.le k1b) (cz.le k2b) (cg.le k6b) h10 Gps fun gc tc kc cfb S13 => ?_)
  refine wpAny_execs_cons (lw_11 (hi 11) hsc (W.le (k0b.trans kc)) S13 hh (cz.le (k2b.trans kc)) h10 h2 (cpk.le (k6.trans (k6b.trans kc))) fun gd td' fi kd hfi cfi S14 => ?_)
  have kcd := kc.trans kd
  refine wpAny_execs_cons (lw_12 (hi 12) hsc (W.le (k0b.trans kcd)) S14 hh (cz.le (k2b.trans kcd)) h10 h2 (cpk.le (k6.trans (k6b.trans kcd))) fun ge te os ke hol hosl cos S15 => ?_)
  have kce := kcd.trans ke
  have kde := kd.trans ke
  refine wpAny_execs_cons (lw_13 (hi 13) hsc (W.le (k0b.trans kce)) S15 fun gf tf f P' pt0 kf htold ctold S16 => ?_)
  have kbf := kce.trans kf
  have k0f := k0b.trans kbf
  have Gd := gr_gd (gn := gn) Gps h10
  have LG0 : LwG w mg mb gf c f P' sh b ps ts gn fi os QnF := {
    G := ⟨W.le k0f, htold, cm.le ((k8.trans k9).trans (k9b.trans kbf)), hsh.le ((k8.trans k9).trans (k9b.trans kbf)), tabP.pr kbf, tabT.tm kbf, pt_of Gps h10, rfl, rfl, fun k q hk hq r hr => by have := Gd.lt k q r hq hr; walk_at "om", fun k hk => by walk_at "om"⟩
    stamps := ct.le (k1b.trans kbf)
    size := cz.le (k2b.trans kbf)
    gone := cg.le (k6b.trans kbf)
    fore := cfb.le (kde.trans kf)
    first := cfi.le (ke.trans kf)
    others := cos.le kf
    told := ctold
    gr := Gps
    n2 := h2
    n10 := h10
    fi := hfi
    osl := hosl
    ol := hol
    hR := fun mn c1 c2s fl q cs hr => run_fall Gd hr }
  -- (L) :: (P') :: (common) :: (87) :: l
  have S17 : St x gf ((L, NsP m10) :: (P', (· = tabObj #[])) :: (87, (· = tabObj #[])) :: (c.common, CellP none) :: (123, (· = tabObj pt0)) :: l) tf := S16.perm ((((List.Perm.swap ..).trans (((List.Perm.swap ..).cons _).trans (.swap ..))).cons _).cons _)
  refine wpAny_execs_cons (lw_14 (hi 14) hsc LG0 S17 .nil .nil (by walk_at "om") (by walk_at "om") hh (fun r => hF r _ fun q hq => List.mem_cons_of_mem _ (List.mem_cons_of_mem _ hq)) (fun _ _ x' g' qt' s' k' S' hx => h x' g' qt' pt0 s' (k0f.trans k') (S'.sub ((List.Sublist.refl _).cons _ |>.cons_cons _)) hx) fun hbg t14 S18 => ?_)
  have n3' : ∀ {y z v : Ent} {r : List Ent}, (y :: z :: v :: r).Perm (v :: y :: z :: r) := fun {y z v r} => ((List.Perm.swap ..).cons _).trans (.swap ..)
  have hrl : ∀ k, k < ps.length → ((foreN (psE ps gn) ps.length).getD k []).length ≤ 100 := fun k hk => by
    rw [foreN_get _ _ hk]
    unfold foreRow
    rw [List.length_map]
    refine Nat.le_trans (List.length_filter_le _ _) ?_
    rw [List.length_range]; walk_at "om"
  have hcl : (comL (foreN (psE ps gn) ps.length) fi os).length ≤ 100 := by
    unfold comL
    split
    · simp
    · exact Nat.le_trans (List.length_filter_le _ _) (hrl fi hfi)
  refine wpAny_execs_cons (lw_15 (hi 15) hsc LG0 (S18.perm (l' := (L, NsP m10) :: (c.common, CellP none) :: (P', (· = tabObj #[])) :: (87, (· = tabObj #[])) :: (123, (· = tabObj pt0)) :: l) (.cons _ n3')) (by walk_at "om") hh (hrl fi hfi) fun gg tg kg ccm S19 => ?_)
  have LG1 := LG0.le kg
  refine wpAny_execs_cons (lw_16 (hi 16) hsc S19 (by walk_at "om") hh LG1.fore ccm (foreN_len _) h10 hcl (fun k hk => com_lt Gps h10 hfi hosl hk) fun gh th acc ys kh hys S20 => ?_)
  refine el25 (S20.freeze) fun gk ok kk ek qk _ S21 => ?_
  have khk := kh.trans kk
  have LG2 := LG1.le khk
  refine wpAny_execs_cons (lw_17 (n := ps.length) (hi 17) hsc LG2.G.W S21 (by walk_at "om") (by walk_at "om") hh LG2.gone LG2.stamps Gps.len h10 upd_same (in13 ok ek (qk.1) (qk.2.2)) hys (fun k hk => com_lt Gps h10 hfi hosl (List.mem_filter.mp hk).1) (gr_nodup hfi) fun gl tl acc2 ys2 its kl hp1 hp2 hp3 S22 => ?_)
  refine el25 (S22.freeze) fun gm om km em qm _ S23 => ?_
  have klm := kl.trans km
  have LG3 := LG2.le klm
  have k0m := k0f.trans (kg.trans (khk.trans klm))
  have noMiss : b = false → (∃ k, k < ps.length ∧ (tmN ts gn ps.length k = none ∨ prN ps gn ps.length k = none)) → False := fun hb0 hq_ => el12 hq_ fun k hk hn => by
    rcases hbg with hbt | rfl
    · rw [hb0] at hbt; cases hbt
    · rcases hn with hn | hn
      · exact tm_all hk hn
      · exact pr_all hk hn
  refine wpAny_execs_cons (lw_18 (kd := its.map (·.2)) (hi 18) hsc LG3 S23 .nil .nil (by walk_at "om") (by walk_at "om") hh (fun r => hF r _ fun q hq => List.mem_cons_of_mem _ hq) upd_same (in13 om em (qm.1) (qm.2.2)) hp3 (fun g' v hv => ?_) fun x' gn' qt' pt' tn kn S24 hx T1 T2 => ?_)
  · rcases hv with ⟨ks, h1, h2⟩ | ⟨t, _, hb0, hk, _⟩
    · rw [← base_law Gps h10 hfi hosl h2 hp1 hp2]; exact h1
    · exact (noMiss hb0 hk).elim
  · refine wpAny_execs_cons (lw_19 (hi 19) hsc (LG3.le kn) S24 T1 T2 (by walk_at "om") (by walk_at "om") hh (fun r => hF r _ fun q hq => List.mem_cons_of_mem _ hq) (fun k v hk hv => ?_) fun x2 g2' qt2 s2' k2' S25 hx2 => ?_)
    · rcases hv with ⟨r, rfl, hr⟩ | ⟨t, _, hb0, hk', _⟩
      · rw [fwd_law Gps h10 hfi hk hr]
      · exact (noMiss hb0 hk').elim
    · exact h x2 g2' qt2 pt0 s2' (k0m.trans (kn.trans k2')) S25 ⟨hx2.1.trans hx.1, fun hg => hx2.2 (hx.2 hg)⟩
end Jr
end
-- LZ
section
namespace Jr
open PySem PySem.W PySem.Calls PySem.SeqAt PySem.Builtin PyProof.Rows PySem.Spec
variable {x : Wd} {g : Heap} {l : List Ent} {w : World} {A : Around} {E : Value → Shared → Prop} {s : Shared} {env : Env} {mg mb : Str → Option Value}

/-- what is known of the def -/
structure Fd126 (w : World) (fd : FuncData) : Prop where
  body : fd.body = .stmts (bodyOf w 126)
  scope : scopeOf w 126 = some fd.scope
  clo : fd.closure = []
  name : fd.qualname = "law"
  qual : fd.qualname ++ ".<locals>." = "law.<locals>."
  code : fd.code = .ref 125
  glob : fd.globals = mainGlobals
  bui : fd.builtins = builtinsNs
  cells : (cellNs fd.scope.names).reverse = (["times", "table", "marks", "common", "told", "others", "first", "forebears", "gone", "pick", "size", "stamps", "parents"] : List Str)
  co : fd.scope.isCoroutine = false
  gen : fd.scope.isGenerator = false
  kind : fd.scope.kind = .function
  loc : fd.scope.names.lookup ("script" : Str) = some .local
  bind : ∀ s v, BindsTo s fd ⟨[v], []⟩ [(("script" : Str), v)]
theorem fd126 {w : World} : ∃ o fd, (KK w).lookup 126 = some o ∧ o.data = .func fd ∧ Fd126 w fd := by
  have e0 := @_root_.id ((KK w).lookup 126 = some _) rfl
  refine ⟨_, _, e0, rfl, ?_⟩
  constructor
  · unfold bodyOf; rw [e0]
  · unfold scopeOf; rw [e0]
  all_goals first | rfl | decide +kernel | exact fun s v => BindsTo.of_eq rfl
theorem len13 {bs : List Addr} (h : bs.length = 13) : ∃ b0 b1 b2 b3 b4 b5 b6 b7 b8 b9 b10 b11 b12, bs = [b0, b1, b2, b3, b4, b5, b6, b7, b8, b9, b10, b11, b12] := by
  match bs, h with
  | [b0, b1, b2, b3, b4, b5, b6, b7, b8, b9, b10, b11, b12], _ => exact ⟨_, _, _, _, _, _, _, _, _, _, _, _, _, rfl⟩
theorem perm16 {α : Type} (l : List α) (a0 a1 a2 a3 a4 a5 a6 a7 a8 a9 a10 a11 a12 a13 a14 a15 : α) :
    (a0 :: a1 :: a2 :: a3 :: a4 :: a5 :: a6 :: a7 :: a8 :: a9 :: a10 :: a11 :: a12 :: a13 :: a14 :: a15 :: l).Perm (a13 :: a12 :: a11 :: a10 :: a9 :: a8 :: a2 :: a1 :: a0 :: a7 :: a6 :: a5 :: a4 :: a14 :: a3 :: a15 :: l) := by
  have p : List.Perm [0, 1, 2, 3, 4, 5, 6, 7, 8, 9, 10, 11, 12, 13, 14, 15] [13, 12, 11, 10, 9, 8, 2, 1, 0, 7, 6, 5, 4, 14, 3, 15] := by decide +kernel
  exact (p.map fun i => [a0, a1, a2, a3, a4, a5, a6, a7, a8, a9, a10, a11, a12, a13, a14, a15].getD i a0).append_right l

set_option maxHeartbeats 8000000 in
theorem law_call {ns : List Int} {la : Addr} {Q : Value → Shared → Prop} (W : Wf w mg mb g) (S : St x g ((123, (· = tabObj #[])) :: (87, (· = tabObj #[])) :: l) s)
    (hd : A.depth < 590) (hu : A.units < 690) (hh : A.handled = none) (hF : FrOk A.frames l) (hs : IntL g ns (.ref la)) (hn : ns.length ≤ 63)
    (h : ∀ x' g' qt' pt' s', Le g g' → St x' g' ((87, (· = tabObj qt')) :: (123, (· = tabObj pt')) :: l) s' → Side x x' → Q (.bool true) s') :
    wpAny (model PP w) A (call (.ref 126) [.ref la] []) Q E s := by
  refine el23 (fd126 (w := w)) fun o fd ho hdt F => ?_
  have hcd : g.CodeRec fd.code fd.qualname := by
    rw [F.code, F.name]; exact codeRec_of W.K (by kernel_rfl)
  refine wpAny_call (callF (body := bodyOf w 126) (args := ⟨[.ref la], []⟩) S (W.K 126 _ ho) hdt hcd W.lim (by show A.depth < 1000; walk_at "om") (F.bind s _) (fun L bs s1 hbs S1 => ?_) F.body F.co F.gen)
  replace hbs : bs.length = 13 := by rw [hbs, ← List.length_reverse, F.cells]; rfl
  refine el71 (len13 hbs) fun b0 b1 b2 b3 b4 b5 b6 z345_ => ?_; refine el61 z345_ fun b7 b8 b9 b10 b11 b12 e346_ => ?_; try clear z345_; subst e346_
  have eenv : fnEnv fd 126 L ((cellNs fd.scope.names).reverse.zip [b0, b1, b2, b3, b4, b5, b6, b7, b8, b9, b10, b11, b12] ++ fd.closure) = lwEnv fd.scope ⟨b12, b11, b10, b9, b8, b7, b6, b5, b4, b3, b2, b1, b0⟩ L := by
    unfold fnEnv lwEnv
    rw [F.cells, F.clo, F.glob, F.qual, F.code, F.bui]
    rfl
  rw [eenv]
  have S2 := S1.perm (perm16 l _ _ _ _ _ _ _ _ _ _ _ _ _ _ _ _)
  refine stored_cons (stL S2 F.loc F.kind .head fun s2 S3 => ?_)
  refine stored_nil ⟨S3.keep, ?_⟩
  refine wpAny_mono (law_all (c := ⟨b12, b11, b10, b9, b8, b7, b6, b5, b4, b3, b2, b1, b0⟩) (sv := .ref la) F.scope W S3 (by show A.depth + 1 < 600; walk_at "om") (by show A.units + 3 < 700; walk_at "om") hh
    (fun r l' k => FrOk.deeper hF F.kind rfl (m := r) (List.mem_cons_self ..) fun p hp => List.mem_cons_of_mem _ (k p hp)) upd_same hs hn fun x' g' qt' pt' s' k' S' hx => ?_) (fun f s' q => q) fun e s' q => q.elim
  exact h x' g' qt' pt' s' k' S' hx

theorem ints_pair : ∀ {vs : List Value} {is : List Int}, IntsAre vs is → Paired IntV is vs := by
  intro vs is h
  induction h with
  | nil => exact .nil
  | cons _ _ _ ih => exact .cons ⟨_, rfl⟩ ih
end Jr
end
-- MA
section
namespace Jr
open PySem PySem.W PySem.Calls PySem.SeqAt PySem.Builtin PyProof.Rows PySem.Spec

theorem keepsN {h g : Heap} {a : Addr} {m : Str → Option Value} (n : h.Ns a m) (k : ∀ o, h.get? a = some o → g.get? a = some o) : g.Ns a m :=
  by obtain ⟨o, es, ep, ho, r⟩ := n; exact (in32 o es ep (k _ ho) r)
theorem start_wf {w : World} {mg mb : Str → Option Value} {h : Heap} {p : Program} {loose : List Str} {mean : ExcName → Option Value} (KX : (KK w).In h) (h123 : h.get? 123 = some (tabObj #[])) (h87 : h.get? 87 = some (tabObj #[]))
    (T : Top p loose mean mg mb h) : Wf w mg mb (hideAll h [123, 87]) := by
  have k : ∀ b o, h.get? b = some o → o ≠ tabObj #[] → (hideAll h [123, 87]).get? b = some o := fun b o e hne => hideAll_get _ e fun hm => by
    simp at hm
    rcases hm with rfl | rfl
    · rw [h123] at e; exact hne (Option.some.inj e).symm
    · rw [h87] at e; exact hne (Option.some.inj e).symm
  have kn : ∀ {a : Addr} {m : Str → Option Value}, h.Ns a m → (hideAll h [123, 87]).Ns a m := fun {a m} n => by
    refine el33 n fun o es ep ho hd r => ?_; try clear n
    exact ⟨o, es, ep, k _ _ ho (fun e => by rw [e] at hd; cases hd), hd, r⟩
  refine ⟨fun b o e => hideAll_get _ (KX b o e) fun hm => ?_, kn T.g, kn T.b, T.builtins, ?_, ?_⟩
  · simp at hm
    rcases hm with rfl | rfl
    · rw [show (KK w).lookup 123 = none by rfl] at e; cases e
    · rw [show (KK w).lookup 87 = none by rfl] at e; cases e
  · refine el12 (T.nolimit) fun mc h1 h2 => ?_
    exact (in12 mc (kn h1) h2)
  · refine el25 (T.bmain) fun bm ob h1 h2 h3 h4 h5 => ?_
    exact (in25 bm ob h1 h2 (k _ _ h3 (fun e => by rw [e] at h4; cases h4)) h4 h5)
theorem start_list {h : Heap} {la : Addr} {vs : Array Value} (h123 : h.get? 123 = some (tabObj #[])) (h87 : h.get? 87 = some (tabObj #[])) (hL : h.IsList la vs) : (hideAll h [123, 87]).IsList la vs := by
  refine el13 hL fun o ho hc r => ?_; try clear hL
  refine (in13 o (hideAll_get _ ho fun hm => ?_) hc r)
  simp at hm
  rcases hm with rfl | rfl
  · rw [h123] at ho; cases ho; cases hc
  · rw [h87] at ho; cases ho; cases hc
theorem end_old {w : World} {mg mb : Str → Option Value} {h : Heap} {x' : Wd} {g' : Heap} {qt pt : Array Value} {s' : Shared} (W : Wf w mg mb (hideAll h [123, 87])) (h123 : h.get? 123 = some (tabObj #[])) (h87 : h.get? 87 = some (tabObj #[]))
    (k : Le (hideAll h [123, 87]) g') (S : St x' g' [(87, (· = tabObj qt)), (123, (· = tabObj pt))] s') : OldK h s'.heap := by
  have W' : ∀ {c P : Addr}, codeHdIn (KK w) c P = true → isCodeTable h P := fun {c P} e => by
    refine el71 (codeHd_of_K W.K e) fun o vs _ _ _ _ _ z347_ => ?_; refine el25 z347_ fun _ _ e1 e2 e3 e4 _ => ?_; try clear z347_
    exact (in34 c o vs (of_hideAll _ e1) e2 e3 e4)
  refine el12 (S.get (a := 123) (P := (· = tabObj pt)) (by simp)) fun o1 f1 e348_ => ?_; subst e348_
  refine el12 (S.get (a := 87) (P := (· = tabObj qt)) (.head _)) fun o2 f2 e349_ => ?_; subst e349_
  refine ⟨fun b o e => ?_, fun b o e => ?_⟩
  all_goals by_cases hb : b = 123
  · subst hb
    rw [h123] at e; cases e
    exact .inr (.inl (in03 (W' (c := 125) (by kernel_rfl)) rfl (in22 (#[]) pt rfl (by rw [f1]; simp))))
  · by_cases hb' : b = 87
    · subst hb'
      rw [h87] at e; cases e
      exact .inr (.inl (in03 (W' (c := 89) (by kernel_rfl)) rfl (in22 (#[]) qt rfl (by rw [f2]; simp))))
    · exact .inl (S.keep _ _ (k _ _ (hideAll_get _ e (by simp [hb, hb']))))
  · exact ⟨_, hb ▸ f1⟩
  · by_cases hb' : b = 87
    · exact ⟨_, hb' ▸ f2⟩
    · exact ⟨_, S.keep _ _ (k _ _ (hideAll_get _ e (by simp [hb, hb'])))⟩
end Jr
end
-- MB
open PySem PySem.W PySem.Calls PyProof.Rows Jr
set_option maxHeartbeats 8000000 in
theorem PySem.Challenge.cw_jr0003_01_holds : PySem.Challenge.rw_jr0003_01.Holds :=
  hd (by
  intro w s₀ s₁ mg mb G Y fa o pm cd doc dV kV ho hdt hcd hD hmg hg args vals as hpre hlay hrd hwl hlo
  have KX := km_in_of Y
  have KT := km_tabs_of Y
  refine Ground.open G ?_
  intro T B D TE TW
  try (refine guard_noD D (by decide +kernel) ?_; clear D)
  wrow_args hpre hlay hrd hwl hlo
  rename_i nsx _ _ _ _ _ _ _ la vs _ hL _ _ _ hI _ hlen _
  have h123 := KT 123 (by simp)
  have h87 := KT 87 (by simp)
  have W : Wf w mg mb (hideAll s₁.heap [123, 87]) := start_wf KX h123 h87 T
  have hfa : fa = 126 := by
    have e := hmg.symm.trans (W.getg (y := "law") (v := .ref 126) (by kernel_rfl))
    injection e with e; injection e
  subst hfa
  have S : St ⟨s₁.gens, s₁.os⟩ (hideAll s₁.heap [123, 87]) [(123, (· = tabObj #[])), (87, (· = tabObj #[]))] s₁ :=
    St.all (l := [(123, (· = tabObj #[])), (87, (· = tabObj #[]))]) (fun p hp => by
      simp at hp
      rcases hp with rfl | rfl
      · exact ⟨_, h123, rfl⟩
      · exact ⟨_, h87, rfl⟩) (by simp)
  refine law_call (ns := nsx) W S (by decide) (by decide) rfl FrOk.nil ⟨la, vs, rfl, start_list h123 h87 hL, ints_pair hI⟩ (by walk_at "om") fun x' g' qt pt s' k S' hx => ?_
  refine ⟨.inl ⟨_, _, [], rfl, fun _ => rfl, ReadsW.bool true, ?_, fun _ => ⟨List.nodup_nil, fun _ hm => (nomatch hm)⟩⟩, end_old W h123 h87 k S', S'.os.trans hx.1, S'.gens ▸ hx.2 (hg ▸ AllBare.empty)⟩
  first | rfl | wrow_post)
