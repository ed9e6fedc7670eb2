import PyProof.Rows.All
import Wide.All
import OpenK.AllK
import Wide.FinOn
import KE.KNest
import KE.KRevIter
import PySem.Challenge.RW_uk0018_01
set_option Elab.async false
set_option autoImplicit false
set_option maxRecDepth 100000
set_option linter.unusedVariables false

namespace Mine
section
open PySem
/- the tactic's parts, as trees -/
def sxNode (k : Lean.Name) (ts : List Lean.Syntax) : Lean.Syntax := .node .none k ts.toArray
def sxHole : Lean.Syntax := sxNode `Lean.Parser.Term.syntheticHole [Lean.mkAtom "?", Lean.mkAtom "_"]
def sxTake (n : Lean.Name) (as : List Lean.Syntax) : Lean.Syntax := sxNode `Lean.Parser.Tactic.refine [Lean.mkAtom "refine", sxNode `Lean.Parser.Term.app [Lean.mkIdent n, sxNode `null as]]
def sxRef (n : Lean.Name) (vs : List Lean.Name) (k : Nat) : Lean.Syntax := sxTake n ((vs.map fun v => sxNode `Lean.Parser.Term.namedArgument [Lean.mkAtom "(", Lean.mkIdent v, Lean.mkAtom ":=", sxHole, Lean.mkAtom ")"]) ++ List.replicate k sxHole)
def sxRefs (ns : String) : List Lean.Syntax := (ns.splitOn " ").map fun n => sxRef n.toName [] 1
def sxRfl1 (n : Lean.Name) : Lean.Syntax := sxTake n [Lean.mkIdent `rfl, sxHole]
def sxSeq (ts : List Lean.Syntax) : Lean.Syntax := sxNode `Lean.Parser.Tactic.tacticSeq [sxNode `Lean.Parser.Tactic.tacticSeq1Indented [sxNode `null (ts.intersperse (Lean.mkAtom ";"))]]
def sxFirst' (ts : List Lean.Syntax) : Lean.Syntax := sxNode `Lean.Parser.Tactic.first [Lean.mkAtom "first", sxNode `null (ts.map fun t => sxNode `group [Lean.mkAtom "|", t])]
def sxFirst (ts : List Lean.Syntax) : Lean.Syntax := sxFirst' (ts.map fun t => if t.isOfKind `Lean.Parser.Tactic.tacticSeq then t else sxSeq [t])
def sxRed (t : Lean.Syntax) : Lean.Syntax := sxNode `Lean.Parser.Tactic.withReducible [Lean.mkAtom "with_reducible", sxSeq [t]]
def sxRfl : Lean.Syntax := sxNode `Lean.Parser.Tactic.exact [Lean.mkAtom "exact", Lean.mkIdent `rfl]
def sxDecide : Lean.Syntax := sxNode `Lean.Parser.Tactic.decide [Lean.mkAtom "decide", sxNode `Lean.Parser.Tactic.optConfig [sxNode `null []]]
def sxAssm : Lean.Syntax := sxNode `Lean.Parser.Tactic.assumption [Lean.mkAtom "assumption"]
def sxIntro3 : Lean.Syntax := sxNode `Lean.Parser.Tactic.intro [Lean.mkAtom "intro", sxNode `null (List.replicate 3 (sxNode `Lean.Parser.Term.hole [Lean.mkAtom "_"]))]
def sxFin (c : Char) : Lean.Syntax := if c = 'r' then sxRfl else if c = 'd' then sxDecide else if c = 'a' then sxAssm else sxIntro3
def sxStep (w : List String) : Lean.Syntax :=
  let f := (w.getD 4 "").toList
  sxSeq (sxRed (sxRef (w.getD 0 "").toName (if w.getD 1 "" = "-" then [] else ((w.getD 1 "").splitOn ",").map String.toName) (w.getD 2 "").toNat!) :: (f.filter (· == 'a')).map sxFin ++ sxNode `Lean.Parser.Tactic.rotateLeft [Lean.mkAtom "rotate_left", sxNode `null [Lean.Syntax.mkNumLit (w.getD 3 "")]] :: (f.filter (· != 'a')).map sxFin)
def sxMore (ns : String) : Lean.Syntax := sxRed (sxFirst (sxRefs ns))
def sxAll (ns fs : String) : Lean.Syntax := sxFirst (sxRed (sxFirst (sxRfl1 `ite_t :: sxRfl1 `ite_f :: sxRefs ns)) :: (fs.splitOn ";").map fun f => sxStep (f.splitOn " "))

/- ands and exists, opened and closed in one step -/
theorem e0_2 {p0 p1 : Prop} {G : Prop} (h : p0 ∧ p1) (k : p0 → p1 → G) : G := k h.1 h.2
theorem e0_3 {p0 p1 p2 : Prop} {G : Prop} (h : p0 ∧ p1 ∧ p2) (k : p0 → p1 → p2 → G) : G := k h.1 h.2.1 h.2.2
theorem e0_4 {p0 p1 p2 p3 : Prop} {G : Prop} (h : p0 ∧ p1 ∧ p2 ∧ p3) (k : p0 → p1 → p2 → p3 → G) : G := k h.1 h.2.1 h.2.2.1 h.2.2.2
theorem e0_5 {p0 p1 p2 p3 p4 : Prop} {G : Prop} (h : p0 ∧ p1 ∧ p2 ∧ p3 ∧ p4) (k : p0 → p1 → p2 → p3 → p4 → G) : G := k h.1 h.2.1 h.2.2.1 h.2.2.2.1 h.2.2.2.2
theorem e0_6 {p0 p1 p2 p3 p4 p5 : Prop} {G : Prop} (h : p0 ∧ p1 ∧ p2 ∧ p3 ∧ p4 ∧ p5) (k : p0 → p1 → p2 → p3 → p4 → p5 → G) : G := k h.1 h.2.1 h.2.2.1 h.2.2.2.1 h.2.2.2.2.1 h.2.2.2.2.2
theorem e1_1 {α0 : Sort _} {p0 : α0 → Prop} {G : Prop} (h : ∃ a, p0 a) (k : ∀ a, p0 a → G) : G := h.elim fun a h => k a h
theorem e1_2 {α0 : Sort _} {p0 p1 : α0 → Prop} {G : Prop} (h : ∃ a, p0 a ∧ p1 a) (k : ∀ a, p0 a → p1 a → G) : G := h.elim fun a h => k a h.1 h.2
theorem e1_3 {α0 : Sort _} {p0 p1 p2 : α0 → Prop} {G : Prop} (h : ∃ a, p0 a ∧ p1 a ∧ p2 a) (k : ∀ a, p0 a → p1 a → p2 a → G) : G := h.elim fun a h => k a h.1 h.2.1 h.2.2
theorem i1_3 {α0 : Sort _} {p0 p1 p2 : α0 → Prop} (a : α0) (h0 : p0 a) (h1 : p1 a) (h2 : p2 a) : ∃ a, p0 a ∧ p1 a ∧ p2 a := ⟨a, h0, h1, h2⟩
theorem e1_4 {α0 : Sort _} {p0 p1 p2 p3 : α0 → Prop} {G : Prop} (h : ∃ a, p0 a ∧ p1 a ∧ p2 a ∧ p3 a) (k : ∀ a, p0 a → p1 a → p2 a → p3 a → G) : G := h.elim fun a h => k a h.1 h.2.1 h.2.2.1 h.2.2.2
theorem i1_4 {α0 : Sort _} {p0 p1 p2 p3 : α0 → Prop} (a : α0) (h0 : p0 a) (h1 : p1 a) (h2 : p2 a) (h3 : p3 a) : ∃ a, p0 a ∧ p1 a ∧ p2 a ∧ p3 a := ⟨a, h0, h1, h2, h3⟩
theorem e1_5 {α0 : Sort _} {p0 p1 p2 p3 p4 : α0 → Prop} {G : Prop} (h : ∃ a, p0 a ∧ p1 a ∧ p2 a ∧ p3 a ∧ p4 a) (k : ∀ a, p0 a → p1 a → p2 a → p3 a → p4 a → G) : G := h.elim fun a h => k a h.1 h.2.1 h.2.2.1 h.2.2.2.1 h.2.2.2.2
theorem e1_6 {α0 : Sort _} {p0 p1 p2 p3 p4 p5 : α0 → Prop} {G : Prop} (h : ∃ a, p0 a ∧ p1 a ∧ p2 a ∧ p3 a ∧ p4 a ∧ p5 a) (k : ∀ a, p0 a → p1 a → p2 a → p3 a → p4 a → p5 a → G) : G := h.elim fun a h => k a h.1 h.2.1 h.2.2.1 h.2.2.2.1 h.2.2.2.2.1 h.2.2.2.2.2
theorem e2_1 {α0 : Sort _} {α1 : Sort _} {p0 : α0 → α1 → Prop} {G : Prop} (h : ∃ a b, p0 a b) (k : ∀ a b, p0 a b → G) : G := h.elim fun a h => h.elim fun b h => k a b h
theorem e2_2 {α0 : Sort _} {α1 : Sort _} {p0 p1 : α0 → α1 → Prop} {G : Prop} (h : ∃ a b, p0 a b ∧ p1 a b) (k : ∀ a b, p0 a b → p1 a b → G) : G := h.elim fun a h => h.elim fun b h => k a b h.1 h.2
theorem i2_2 {α0 : Sort _} {α1 : Sort _} {p0 p1 : α0 → α1 → Prop} (a : α0) (b : α1) (h0 : p0 a b) (h1 : p1 a b) : ∃ a b, p0 a b ∧ p1 a b := ⟨a, b, h0, h1⟩
theorem e2_3 {α0 : Sort _} {α1 : Sort _} {p0 p1 p2 : α0 → α1 → Prop} {G : Prop} (h : ∃ a b, p0 a b ∧ p1 a b ∧ p2 a b) (k : ∀ a b, p0 a b → p1 a b → p2 a b → G) : G := h.elim fun a h => h.elim fun b h => k a b h.1 h.2.1 h.2.2
theorem i2_3 {α0 : Sort _} {α1 : Sort _} {p0 p1 p2 : α0 → α1 → Prop} (a : α0) (b : α1) (h0 : p0 a b) (h1 : p1 a b) (h2 : p2 a b) : ∃ a b, p0 a b ∧ p1 a b ∧ p2 a b := ⟨a, b, h0, h1, h2⟩
theorem e2_4 {α0 : Sort _} {α1 : Sort _} {p0 p1 p2 p3 : α0 → α1 → Prop} {G : Prop} (h : ∃ a b, p0 a b ∧ p1 a b ∧ p2 a b ∧ p3 a b) (k : ∀ a b, p0 a b → p1 a b → p2 a b → p3 a b → G) : G := h.elim fun a h => h.elim fun b h => k a b h.1 h.2.1 h.2.2.1 h.2.2.2
theorem i2_4 {α0 : Sort _} {α1 : Sort _} {p0 p1 p2 p3 : α0 → α1 → Prop} (a : α0) (b : α1) (h0 : p0 a b) (h1 : p1 a b) (h2 : p2 a b) (h3 : p3 a b) : ∃ a b, p0 a b ∧ p1 a b ∧ p2 a b ∧ p3 a b := ⟨a, b, h0, h1, h2, h3⟩
theorem e2_6 {α0 : Sort _} {α1 : Sort _} {p0 p1 p2 p3 p4 p5 : α0 → α1 → Prop} {G : Prop} (h : ∃ a b, p0 a b ∧ p1 a b ∧ p2 a b ∧ p3 a b ∧ p4 a b ∧ p5 a b) (k : ∀ a b, p0 a b → p1 a b → p2 a b → p3 a b → p4 a b → p5 a b → G) : G := h.elim fun a h => h.elim fun b h => k a b h.1 h.2.1 h.2.2.1 h.2.2.2.1 h.2.2.2.2.1 h.2.2.2.2.2
theorem i2_6 {α0 : Sort _} {α1 : Sort _} {p0 p1 p2 p3 p4 p5 : α0 → α1 → Prop} (a : α0) (b : α1) (h0 : p0 a b) (h1 : p1 a b) (h2 : p2 a b) (h3 : p3 a b) (h4 : p4 a b) (h5 : p5 a b) : ∃ a b, p0 a b ∧ p1 a b ∧ p2 a b ∧ p3 a b ∧ p4 a b ∧ p5 a b := ⟨a, b, h0, h1, h2, h3, h4, h5⟩
theorem e2_7 {α0 : Sort _} {α1 : Sort _} {p0 p1 p2 p3 p4 p5 p6 : α0 → α1 → Prop} {G : Prop} (h : ∃ a b, p0 a b ∧ p1 a b ∧ p2 a b ∧ p3 a b ∧ p4 a b ∧ p5 a b ∧ p6 a b) (k : ∀ a b, p0 a b → p1 a b → p2 a b → p3 a b → p4 a b → p5 a b → p6 a b → G) : G := h.elim fun a h => h.elim fun b h => k a b h.1 h.2.1 h.2.2.1 h.2.2.2.1 h.2.2.2.2.1 h.2.2.2.2.2.1 h.2.2.2.2.2.2
theorem e3_1 {α0 : Sort _} {α1 : Sort _} {α2 : Sort _} {p0 : α0 → α1 → α2 → Prop} {G : Prop} (h : ∃ a b c, p0 a b c) (k : ∀ a b c, p0 a b c → G) : G := h.elim fun a h => h.elim fun b h => h.elim fun c h => k a b c h
theorem e3_2 {α0 : Sort _} {α1 : Sort _} {α2 : Sort _} {p0 p1 : α0 → α1 → α2 → Prop} {G : Prop} (h : ∃ a b c, p0 a b c ∧ p1 a b c) (k : ∀ a b c, p0 a b c → p1 a b c → G) : G := h.elim fun a h => h.elim fun b h => h.elim fun c h => k a b c h.1 h.2
theorem i3_2 {α0 : Sort _} {α1 : Sort _} {α2 : Sort _} {p0 p1 : α0 → α1 → α2 → Prop} (a : α0) (b : α1) (c : α2) (h0 : p0 a b c) (h1 : p1 a b c) : ∃ a b c, p0 a b c ∧ p1 a b c := ⟨a, b, c, h0, h1⟩
theorem e3_3 {α0 : Sort _} {α1 : Sort _} {α2 : Sort _} {p0 p1 p2 : α0 → α1 → α2 → Prop} {G : Prop} (h : ∃ a b c, p0 a b c ∧ p1 a b c ∧ p2 a b c) (k : ∀ a b c, p0 a b c → p1 a b c → p2 a b c → G) : G := h.elim fun a h => h.elim fun b h => h.elim fun c h => k a b c h.1 h.2.1 h.2.2
theorem i3_3 {α0 : Sort _} {α1 : Sort _} {α2 : Sort _} {p0 p1 p2 : α0 → α1 → α2 → Prop} (a : α0) (b : α1) (c : α2) (h0 : p0 a b c) (h1 : p1 a b c) (h2 : p2 a b c) : ∃ a b c, p0 a b c ∧ p1 a b c ∧ p2 a b c := ⟨a, b, c, h0, h1, h2⟩
theorem e3_4 {α0 : Sort _} {α1 : Sort _} {α2 : Sort _} {p0 p1 p2 p3 : α0 → α1 → α2 → Prop} {G : Prop} (h : ∃ a b c, p0 a b c ∧ p1 a b c ∧ p2 a b c ∧ p3 a b c) (k : ∀ a b c, p0 a b c → p1 a b c → p2 a b c → p3 a b c → G) : G := h.elim fun a h => h.elim fun b h => h.elim fun c h => k a b c h.1 h.2.1 h.2.2.1 h.2.2.2
theorem i3_4 {α0 : Sort _} {α1 : Sort _} {α2 : Sort _} {p0 p1 p2 p3 : α0 → α1 → α2 → Prop} (a : α0) (b : α1) (c : α2) (h0 : p0 a b c) (h1 : p1 a b c) (h2 : p2 a b c) (h3 : p3 a b c) : ∃ a b c, p0 a b c ∧ p1 a b c ∧ p2 a b c ∧ p3 a b c := ⟨a, b, c, h0, h1, h2, h3⟩
theorem e4_1 {α0 : Sort _} {α1 : Sort _} {α2 : Sort _} {α3 : Sort _} {p0 : α0 → α1 → α2 → α3 → Prop} {G : Prop} (h : ∃ a b c d, p0 a b c d) (k : ∀ a b c d, p0 a b c d → G) : G := h.elim fun a h => h.elim fun b h => h.elim fun c h => h.elim fun d h => k a b c d h
theorem i4_1 {α0 : Sort _} {α1 : Sort _} {α2 : Sort _} {α3 : Sort _} {p0 : α0 → α1 → α2 → α3 → Prop} (a : α0) (b : α1) (c : α2) (d : α3) (h0 : p0 a b c d) : ∃ a b c d, p0 a b c d := ⟨a, b, c, d, h0⟩
theorem e4_4 {α0 : Sort _} {α1 : Sort _} {α2 : Sort _} {α3 : Sort _} {p0 p1 p2 p3 : α0 → α1 → α2 → α3 → Prop} {G : Prop} (h : ∃ a b c d, p0 a b c d ∧ p1 a b c d ∧ p2 a b c d ∧ p3 a b c d) (k : ∀ a b c d, p0 a b c d → p1 a b c d → p2 a b c d → p3 a b c d → G) : G := h.elim fun a h => h.elim fun b h => h.elim fun c h => h.elim fun d h => k a b c d h.1 h.2.1 h.2.2.1 h.2.2.2
theorem i4_4 {α0 : Sort _} {α1 : Sort _} {α2 : Sort _} {α3 : Sort _} {p0 p1 p2 p3 : α0 → α1 → α2 → α3 → Prop} (a : α0) (b : α1) (c : α2) (d : α3) (h0 : p0 a b c d) (h1 : p1 a b c d) (h2 : p2 a b c d) (h3 : p3 a b c d) : ∃ a b c d, p0 a b c d ∧ p1 a b c d ∧ p2 a b c d ∧ p3 a b c d := ⟨a, b, c, d, h0, h1, h2, h3⟩
theorem e4_5 {α0 : Sort _} {α1 : Sort _} {α2 : Sort _} {α3 : Sort _} {p0 p1 p2 p3 p4 : α0 → α1 → α2 → α3 → Prop} {G : Prop} (h : ∃ a b c d, p0 a b c d ∧ p1 a b c d ∧ p2 a b c d ∧ p3 a b c d ∧ p4 a b c d) (k : ∀ a b c d, p0 a b c d → p1 a b c d → p2 a b c d → p3 a b c d → p4 a b c d → G) : G := h.elim fun a h => h.elim fun b h => h.elim fun c h => h.elim fun d h => k a b c d h.1 h.2.1 h.2.2.1 h.2.2.2.1 h.2.2.2.2
theorem i4_5 {α0 : Sort _} {α1 : Sort _} {α2 : Sort _} {α3 : Sort _} {p0 p1 p2 p3 p4 : α0 → α1 → α2 → α3 → Prop} (a : α0) (b : α1) (c : α2) (d : α3) (h0 : p0 a b c d) (h1 : p1 a b c d) (h2 : p2 a b c d) (h3 : p3 a b c d) (h4 : p4 a b c d) : ∃ a b c d, p0 a b c d ∧ p1 a b c d ∧ p2 a b c d ∧ p3 a b c d ∧ p4 a b c d := ⟨a, b, c, d, h0, h1, h2, h3, h4⟩
theorem e5_1 {α0 : Sort _} {α1 : Sort _} {α2 : Sort _} {α3 : Sort _} {α4 : Sort _} {p0 : α0 → α1 → α2 → α3 → α4 → Prop} {G : Prop} (h : ∃ a b c d e, p0 a b c d e) (k : ∀ a b c d e, p0 a b c d e → G) : G := h.elim fun a h => h.elim fun b h => h.elim fun c h => h.elim fun d h => h.elim fun e h => k a b c d e h
theorem e6_2 {α0 : Sort _} {α1 : Sort _} {α2 : Sort _} {α3 : Sort _} {α4 : Sort _} {α5 : Sort _} {p0 p1 : α0 → α1 → α2 → α3 → α4 → α5 → Prop} {G : Prop} (h : ∃ a b c d e f, p0 a b c d e f ∧ p1 a b c d e f) (k : ∀ a b c d e f, p0 a b c d e f → p1 a b c d e f → G) : G := h.elim fun a h => h.elim fun b h => h.elim fun c h => h.elim fun d h => h.elim fun e h => h.elim fun f h => k a b c d e f h.1 h.2
theorem e7_1 {α0 : Sort _} {α1 : Sort _} {α2 : Sort _} {α3 : Sort _} {α4 : Sort _} {α5 : Sort _} {α6 : Sort _} {p0 : α0 → α1 → α2 → α3 → α4 → α5 → α6 → Prop} {G : Prop} (h : ∃ a b c d e f g, p0 a b c d e f g) (k : ∀ a b c d e f g, p0 a b c d e f g → G) : G := h.elim fun a h => h.elim fun b h => h.elim fun c h => h.elim fun d h => h.elim fun e h => h.elim fun f h => h.elim fun g h => k a b c d e f g h
theorem i7_1 {α0 : Sort _} {α1 : Sort _} {α2 : Sort _} {α3 : Sort _} {α4 : Sort _} {α5 : Sort _} {α6 : Sort _} {p0 : α0 → α1 → α2 → α3 → α4 → α5 → α6 → Prop} (a : α0) (b : α1) (c : α2) (d : α3) (e : α4) (f : α5) (g : α6) (h0 : p0 a b c d e f g) : ∃ a b c d e f g, p0 a b c d e f g := ⟨a, b, c, d, e, f, g, h0⟩
theorem q0_2 {α β : Sort _} {P : α → β → Prop} {x : α} {y : β} (h : P x y) : ∀ v m, v = x ∧ m = y → P v m := fun _ _ e => e.1 ▸ e.2 ▸ h
theorem q1_2 {γ α β : Sort _} {P : α → β → Prop} {x : γ → α} {y : γ → β} (h : ∀ c, P (x c) (y c)) : ∀ v m, (∃ c, v = x c ∧ m = y c) → P v m := fun _ _ e => e.elim fun c e => e.1 ▸ e.2 ▸ h c

@[elab_as_elim] theorem rwl {α : Sort _} {motive : α → Prop} {x y : α} (h : x = y) (k : motive y) : motive x := h ▸ k
@[elab_as_elim] theorem rwr {α : Sort _} {motive : α → Prop} {x y : α} (h : y = x) (k : motive y) : motive x := h ▸ k

inductive AV where
  | none
  | bool (b : Bool)
  | int (i : Int)
  | str (s : Str)
  | tup (vs : List AV)
  | lst (vs : List AV)
  | raw (v : Value)
  | fix (o : Obj)

noncomputable abbrev HF := Addr → Option Obj
noncomputable def HF.le (H H' : HF) : Prop := ∀ a o, H a = some o → H' a = some o
theorem HF.le.refl (H : HF) : HF.le H H := fun _ _ e => e
theorem HF.le.trans {H H' H'' : HF} (x : HF.le H H') (y : HF.le H' H'') : HF.le H H'' := fun a o e => y a o (x a o e)

noncomputable abbrev tupO (ws : Array Value) : Obj := { cls := .type "tuple", data := .seq ws }
noncomputable abbrev lstO (ws : Array Value) (n : Nat) : Obj := { cls := .type "list", data := .seq ws n }

noncomputable def Fixed (o : Obj) : Prop := ((∃ vs, o.data = .fields vs) ∧ (o.cls = .type "range" ∨ o.cls = .type "dict_items")) ∨ ∃ fd, o.data = .func fd
noncomputable def CodeLike (q : Str) (o : Obj) : Prop := ∃ vs t, o.data = .fields vs ∧ vs[1]? = some (.str q t)
noncomputable def NS (o : Obj) : Prop := (∀ ws n, o.data ≠ .seq ws n) ∧ ¬ Fixed o ∧ ∀ q, ¬ CodeLike q o
noncomputable def CodeOf (H : HF) (o : Obj) : Prop := ∀ fd c, o.data = .func fd → fd.code = .ref c → ∃ oc, H c = some oc ∧ CodeLike fd.qualname oc
theorem CodeOf.mono {H H' : HF} (x : HF.le H H') {o : Obj} (h : CodeOf H o) : CodeOf H' o := fun fd c e1 e2 => let ⟨oc, a, b⟩ := h fd c e1 e2; ⟨oc, x _ _ a, b⟩

mutual
noncomputable def VR (H : HF) : AV → Value → Prop
  | .none, v => v = .none
  | .bool b, v => v = .bool b
  | .int i, v => ∃ t, v = .int i t
  | .str x, v => ∃ t, v = .str x t
  | .tup vs, v => ∃ a ws, v = .ref a ∧ H a = some (tupO ws) ∧ VRs H vs ws.toList
  | .lst vs, v => ∃ a ws n, v = .ref a ∧ H a = some (lstO ws n) ∧ VRs H vs ws.toList
  | .raw x, v => v = x
  | .fix o, v => ∃ a, v = .ref a ∧ H a = some o ∧ Fixed o ∧ CodeOf H o
noncomputable def VRs (H : HF) : List AV → List Value → Prop
  | [], vs => vs = []
  | a :: as, vs => ∃ u us, vs = u :: us ∧ VR H a u ∧ VRs H as us
end

mutual
theorem VR.mono {H H' : HF} (x : HF.le H H') : ∀ {a : AV} {v : Value}, VR H a v → VR H' a v
  | .none, _, h => by unfold VR at h ⊢; exact h
  | .bool _, _, h => by unfold VR at h ⊢; exact h
  | .int _, _, h => by unfold VR at h ⊢; exact h
  | .str _, _, h => by unfold VR at h ⊢; exact h
  | .raw _, _, h => by unfold VR at h ⊢; exact h
  | .fix _, _, h => by
    unfold VR at h ⊢
    refine e1_4 h ?_
    clear h
    rintro a e ha hf hc
    exact i1_4 a e (x _ _ ha) hf (hc.mono x)
  | .tup vs, _, h => by
    unfold VR at h ⊢
    refine e2_3 h ?_
    clear h
    rintro a ws e ha hv
    exact i2_3 a ws e (x _ _ ha) (VRs.mono x hv)
  | .lst vs, _, h => by
    unfold VR at h ⊢
    refine e3_3 h ?_
    clear h
    rintro a ws n e ha hv
    exact i3_3 a ws n e (x _ _ ha) (VRs.mono x hv)
theorem VRs.mono {H H' : HF} (x : HF.le H H') : ∀ {as : List AV} {vs : List Value}, VRs H as vs → VRs H' as vs
  | [], _, h => by unfold VRs at h ⊢; exact h
  | _ :: _, _, h => by
    unfold VRs at h ⊢
    refine e2_3 h ?_
    clear h
    rintro u us e h1 h2
    exact i2_3 u us e (VR.mono x h1) (VRs.mono x h2)
end

theorem VRs.nil {H : HF} : VRs H [] [] := by unfold VRs; rfl
theorem VRs.cons {H : HF} {a : AV} {as : List AV} {v : Value} {vs : List Value} (h : VR H a v) (t : VRs H as vs) : VRs H (a :: as) (v :: vs) := by
  unfold VRs; exact ⟨v, vs, rfl, h, t⟩
theorem VRs.length {H : HF} : ∀ {as : List AV} {vs : List Value}, VRs H as vs → vs.length = as.length
  | [], _, h => by unfold VRs at h; rw [h]; rfl
  | _ :: _, _, h => by
    unfold VRs at h
    refine e2_3 h ?_
    clear h
    rintro u us rfl _ h2
    simp [VRs.length h2]
theorem VRs.get {H : HF} : ∀ {as : List AV} {vs : List Value}, VRs H as vs → ∀ {i : Nat} {a : AV}, as[i]? = some a → ∃ v, vs[i]? = some v ∧ VR H a v
  | [], _, _, _, _, e => by simp at e
  | _ :: as, _, h, i, a, e => by
    unfold VRs at h
    refine e2_3 h ?_
    clear h
    rintro u us rfl h1 h2
    cases i with
    | zero => simp at e; subst e; exact ⟨u, by simp, h1⟩
    | succ i => simpa using VRs.get h2 (by simpa using e)
theorem VRs.append {H : HF} : ∀ {as bs : List AV} {vs us : List Value}, VRs H as vs → VRs H bs us → VRs H (as ++ bs) (vs ++ us)
  | [], _, _, _, h, k => by unfold VRs at h; rw [h]; exact k
  | _ :: _, _, _, _, h, k => by
    unfold VRs at h
    refine e2_3 h ?_
    clear h
    rintro u us rfl h1 h2
    exact VRs.cons h1 (h2.append k)
theorem VRs.set {H : HF} : ∀ {as : List AV} {vs : List Value}, VRs H as vs → ∀ (i : Nat) {a : AV} {v : Value}, VR H a v → VRs H (as.set i a) (vs.set i v)
  | [], _, h, _, _, _, _ => by unfold VRs at h; rw [h]; exact VRs.nil
  | _ :: as, _, h, i, a, v, k => by
    unfold VRs at h
    refine e2_3 h ?_
    clear h
    rintro u us rfl h1 h2
    cases i with
    | zero => exact VRs.cons k h2
    | succ i => exact VRs.cons h1 (h2.set i k)
theorem VRs.take {H : HF} : ∀ {as : List AV} {vs : List Value}, VRs H as vs → ∀ (n : Nat), VRs H (as.take n) (vs.take n)
  | [], _, h, n => by unfold VRs at h; rw [h]; simpa using VRs.nil
  | _ :: as, _, h, n => by
    unfold VRs at h
    refine e2_3 h ?_
    clear h
    rintro u us rfl h1 h2
    cases n with
    | zero => simpa using VRs.nil
    | succ n => simpa using VRs.cons h1 (h2.take n)
theorem VRs.drop {H : HF} : ∀ {as : List AV} {vs : List Value}, VRs H as vs → ∀ (n : Nat), VRs H (as.drop n) (vs.drop n)
  | [], _, h, n => by unfold VRs at h; rw [h]; simpa using VRs.nil
  | _ :: as, _, h, n => by
    unfold VRs at h
    refine e2_3 h ?_
    clear h
    rintro u us rfl h1 h2
    cases n with
    | zero => simpa using VRs.cons h1 h2
    | succ n => simpa using h2.drop n

theorem vr_fix {H : HF} {o : Obj} {v : Value} (h : VR H (.fix o) v) : ∃ a, v = .ref a ∧ H a = some o ∧ Fixed o ∧ CodeOf H o := by unfold VR at h; exact h
theorem mk_fixF {H : HF} {o : Obj} {a : Addr} (h : H a = some o) (f : Fixed o) (c : CodeOf H o) : VR H (.fix o) (.ref a) := by unfold VR; exact ⟨a, rfl, h, f, c⟩
theorem mk_fix {H : HF} {o : Obj} {a : Addr} (h : H a = some o) (f : (∃ vs, o.data = .fields vs) ∧ (o.cls = .type "range" ∨ o.cls = .type "dict_items")) : VR H (.fix o) (.ref a) :=
  mk_fixF h (.inl f) fun fd c e _ => by obtain ⟨⟨vs, e'⟩, _⟩ := f; rw [e'] at e; cases e
theorem vr_int {H : HF} {i : Int} {v : Value} (h : VR H (.int i) v) : ∃ t, v = .int i t := by unfold VR at h; exact h
theorem vr_str {H : HF} {x : Str} {v : Value} (h : VR H (.str x) v) : ∃ t, v = .str x t := by unfold VR at h; exact h
theorem vr_bool {H : HF} {b : Bool} {v : Value} (h : VR H (.bool b) v) : v = .bool b := by unfold VR at h; exact h
theorem vr_none {H : HF} {v : Value} (h : VR H .none v) : v = .none := by unfold VR at h; exact h
theorem vr_raw {H : HF} {x v : Value} (h : VR H (.raw x) v) : v = x := by unfold VR at h; exact h
theorem vr_tup {H : HF} {vs : List AV} {v : Value} (h : VR H (.tup vs) v) : ∃ a ws, v = .ref a ∧ H a = some (tupO ws) ∧ VRs H vs ws.toList := by unfold VR at h; exact h
theorem vr_lst {H : HF} {vs : List AV} {v : Value} (h : VR H (.lst vs) v) : ∃ a ws n, v = .ref a ∧ H a = some (lstO ws n) ∧ VRs H vs ws.toList := by unfold VR at h; exact h
theorem mk_int {H : HF} (i : Int) (t : Tok) : VR H (.int i) (.int i t) := by unfold VR; exact ⟨t, rfl⟩
theorem mk_str {H : HF} (x : Str) (t : Tok) : VR H (.str x) (.str x t) := by unfold VR; exact ⟨t, rfl⟩
theorem mk_bool {H : HF} (b : Bool) : VR H (.bool b) (.bool b) := by unfold VR; rfl
theorem mk_none {H : HF} : VR H .none .none := by unfold VR; rfl
theorem mk_raw {H : HF} (v : Value) : VR H (.raw v) v := by unfold VR; rfl
theorem mk_tup {H : HF} {a : Addr} {ws : Array Value} {vs : List AV} (h : H a = some (tupO ws)) (k : VRs H vs ws.toList) : VR H (.tup vs) (.ref a) := by unfold VR; exact ⟨a, ws, rfl, h, k⟩
theorem mk_lst {H : HF} {a : Addr} {ws : Array Value} {n : Nat} {vs : List AV} (h : H a = some (lstO ws n)) (k : VRs H vs ws.toList) : VR H (.lst vs) (.ref a) := by unfold VR; exact ⟨a, ws, n, rfl, h, k⟩

inductive MO where
  | list (vs : List AV)
  | ob (o : Obj)
  | tab (line col : Nat) (q : Str)

noncomputable def MO.sat (H : HF) (a : Addr) (h : Heap) : MO → Prop
  | .list vs => ∃ ws n, h.get? a = some (lstO ws n) ∧ VRs H vs ws.toList
  | .ob o => h.get? a = some o
  | .tab line col q => h.get? a = some (PySem.W.tabObj #[]) ∨ ∃ c oc, h.get? a = some (PySem.W.tabObj #[rawInt line, rawInt col, .ref c]) ∧ H c = some oc ∧ CodeLike q oc
theorem MO.sat.mono {H H' : HF} {a : Addr} {h : Heap} {m : MO} (x : HF.le H H') (k : m.sat H a h) : m.sat H' a h := by
  cases m with
  | list vs => obtain ⟨ws, n, e, v⟩ := k; exact ⟨ws, n, e, v.mono x⟩
  | ob o => exact k
  | tab l c q =>
    rcases k with e | ⟨c', oc, e, h1, h2⟩
    · exact .inl e
    · exact .inr ⟨c', oc, e, x _ _ h1, h2⟩
theorem MO.sat.get {H : HF} {a : Addr} {h : Heap} {m : MO} (k : m.sat H a h) : ∃ o, h.get? a = some o := by
  cases m with
  | list vs => obtain ⟨ws, n, e, v⟩ := k; exact ⟨_, e⟩
  | ob o => exact ⟨_, k⟩
  | tab l c q => rcases k with e | ⟨c', oc, e, _⟩ <;> exact ⟨_, e⟩
theorem MO.sat.at {H : HF} {a : Addr} {h h' : Heap} {m : MO} (k : m.sat H a h) (e : h'.get? a = h.get? a) : m.sat H a h' := by
  cases m with
  | list vs => obtain ⟨ws, n, e', v⟩ := k; exact ⟨ws, n, e.trans e', v⟩
  | ob o => exact e.trans k
  | tab l c q =>
    rcases k with e' | ⟨c', oc, e', h1⟩
    · exact .inl (e.trans e')
    · exact .inr ⟨c', oc, e.trans e', h1⟩

noncomputable abbrev Mu := List (Addr × MO)

structure StM (B H : HF) (mu : Mu) (h : Heap) : Prop where
  base : HF.le B H
  keep : ∀ a o, H a = some o → h.get? a = some o
  own : ∀ p ∈ mu, H p.1 = none ∧ p.2.sat H p.1 h
  nd : (mu.map (·.1)).Nodup

structure Frm where
  env : Env
  ns : List Str
  cs : List (Str × Addr)
  fr : List (Str × AV)

structure Frm.Ok (F : Frm) : Prop where
  kind : F.env.scope.kind = .function
  loc : ∀ x ∈ F.ns, F.env.kindOf x = some .local
  nd : F.ns.Nodup
  cell : ∀ p ∈ F.cs, F.env.kindOf p.1 = some .cell ∧ F.env.cells.lookup p.1 = some p.2
  cnd : (F.cs.map (·.1)).Nodup
  free : ∀ p ∈ F.fr, (F.env.kindOf p.1 = some .free ∨ F.env.kindOf p.1 = some .cell) ∧ (p.1 == ("__classdict__" : Str)) = false
  glob : F.env.globals = mainGlobals
  blt : F.env.builtins = builtinsNs

structure S where
  vars : List (Option AV)
  cells : List (Option AV)
  mu : Mu

noncomputable def Frm.own (F : Frm) : List Addr := F.env.locals :: F.cs.map (·.2)

structure St (B H : HF) (F : Frm) (σ : S) (h : Heap) : Prop where
  m : StM B H σ.mu h
  new : H F.env.locals = none
  ns : ∃ m, h.Ns F.env.locals m ∧ ∀ (i : Nat) (x : Str) (v : AV), F.ns[i]? = some x → σ.vars[i]? = some (some v) → ∃ u, m x = some u ∧ VR H v u
  cell : ∀ (i : Nat) (x : Str) (c : Addr) (v : Option AV), F.cs[i]? = some (x, c) → σ.cells[i]? = some v → H c = none ∧ ∃ u, h.IsCell c u ∧ ∀ a, v = some a → ∃ b, u = some b ∧ VR H a b
  nd : (F.own ++ σ.mu.map (·.1)).Nodup
  fr : ∀ p ∈ F.fr, ∃ c o u, F.env.cells.lookup p.1 = some c ∧ H c = some o ∧ o.data = .cell (some u) ∧ VR H p.2 u
  lenv : σ.vars.length = F.ns.length
  lenc : σ.cells.length = F.cs.length

noncomputable def Tri (prog : Program) (w : World) (A : Around) (B : HF) (F : Frm) {α β : Type} (R : HF → β → α → Prop) (t : Sem α) (σ : S) (Post : β → S → Prop) : Prop :=
  ∀ H s, St B H F σ s.heap → ∀ (Q : α → Shared → Prop) (E : Value → Shared → Prop),
    (∀ b a H' σ' h' tk, HF.le H H' → St B H' F σ' h' → R H' b a → Post b σ' → Q a { s with heap := h', toks := tk }) → wpAny (model prog w) A t Q E s

inductive AF where
  | next | brk | cont | ret (v : AV)
noncomputable def FR (H : HF) : AF → Flow → Prop
  | .next, f => f = .next
  | .brk, f => f = .brk
  | .cont, f => f = .cont
  | .ret v, f => ∃ u, f = .ret u ∧ VR H v u

theorem StM.up {B H H' : HF} {mu : Mu} {h : Heap} (x : StM B H mu h) (le : HF.le H H') (k : ∀ a o, H' a = some o → h.get? a = some o) (n : ∀ p ∈ mu, H' p.1 = none) : StM B H' mu h :=
  ⟨x.base.trans le, k, fun p hp => ⟨n p hp, (x.own p hp).2.mono le⟩, x.nd⟩

theorem StM.at {B H : HF} {mu : Mu} {h h' : Heap} {a : Addr} (x : StM B H mu h) (hs : Heap.SameBut a h h') (ha : H a = none) (hm : ∀ p ∈ mu, p.1 ≠ a) : StM B H mu h' :=
  ⟨x.base, fun b o e => (hs.2 b (fun z => by rw [z, ha] at e; cases e)).trans (x.keep b o e), fun p hp => ⟨(x.own p hp).1, (x.own p hp).2.at (hs.2 p.1 (hm p hp))⟩, x.nd⟩

theorem St.own_none {B H : HF} {F : Frm} {σ : S} {h : Heap} (x : St B H F σ h) : ∀ a ∈ F.own, H a = none := by
  intro a ha
  rcases List.mem_cons.mp ha with rfl | ha
  · exact x.new
  · refine e1_2 (List.mem_map.mp ha) ?_
    rintro p hp rfl
    refine e1_1 (List.getElem?_of_mem hp) ?_
    rintro i hi
    obtain ⟨y, c⟩ := p
    have hl : i < σ.cells.length := by rw [x.lenc]; exact (List.getElem?_eq_some_iff.mp hi).1
    exact (x.cell i y c σ.cells[i] hi (List.getElem?_eq_getElem hl)).1
theorem St.own_mu {B H : HF} {F : Frm} {σ : S} {h : Heap} (x : St B H F σ h) : ∀ a ∈ F.own, ∀ p ∈ σ.mu, p.1 ≠ a := by
  intro a ha p hp e
  have := (List.nodup_append.mp x.nd).2.2 a ha p.1 (List.mem_map_of_mem hp)
  exact this e.symm

theorem St.own_obj {B H : HF} {F : Frm} {σ : S} {h : Heap} (x : St B H F σ h) : ∀ a ∈ F.own, ∃ o, h.get? a = some o ∧ NS o := by
  intro a ha
  rcases List.mem_cons.mp ha with rfl | ha
  · obtain ⟨m, ⟨o, es, ep, ho, hd, _⟩, _⟩ := x.ns
    exact i1_4 o ho (fun ws n e => by rw [hd] at e; cases e) (fun z => by rcases z with ⟨⟨vs, e⟩, _⟩ | ⟨fd, e⟩ <;> (rw [hd] at e; cases e)) (fun q z => by obtain ⟨vs, t, e, _⟩ := z; rw [hd] at e; cases e)
  · obtain ⟨p, hp, rfl⟩ := List.mem_map.mp ha
    obtain ⟨i, hi⟩ := List.getElem?_of_mem hp
    obtain ⟨y, c⟩ := p
    have hl : i < σ.cells.length := by rw [x.lenc]; exact (List.getElem?_eq_some_iff.mp hi).1
    obtain ⟨_, u, ⟨o, ho, hd⟩, _⟩ := x.cell i y c σ.cells[i] hi (List.getElem?_eq_getElem hl)
    exact i1_4 o ho (fun ws n e => by rw [hd] at e; cases e) (fun z => by rcases z with ⟨⟨vs, e⟩, _⟩ | ⟨fd, e⟩ <;> (rw [hd] at e; cases e)) (fun q z => by obtain ⟨vs, t, e, _⟩ := z; rw [hd] at e; cases e)

noncomputable def HF.minus (H : HF) (l : List Addr) : HF := fun a => if a ∈ l then none else H a
theorem HF.minus_le (H : HF) (l : List Addr) : HF.le (H.minus l) H := fun a o e => by
  unfold HF.minus at e
  split at e
  · cases e
  · exact e
mutual
theorem VR.minus {H : HF} {l : List Addr} (x : ∀ a ∈ l, ∀ o, H a = some o → NS o) : ∀ {a : AV} {v : Value}, VR H a v → VR (H.minus l) a v
  | .none, _, h => by unfold VR at h ⊢; exact h
  | .bool _, _, h => by unfold VR at h ⊢; exact h
  | .int _, _, h => by unfold VR at h ⊢; exact h
  | .str _, _, h => by unfold VR at h ⊢; exact h
  | .raw _, _, h => by unfold VR at h ⊢; exact h
  | .fix _, _, h => by
    unfold VR at h ⊢
    refine e1_4 h ?_
    clear h
    rintro a e ha hf hc
    refine i1_4 a e ?_ hf (fun fd c e1 e2 => ?_)
    · unfold HF.minus
      rw [if_neg (fun hl => (x a hl _ ha).2.1 hf)]; exact ha
    · refine e1_2 (hc fd c e1 e2) ?_
      rintro oc h1 h2
      refine ⟨oc, ?_, h2⟩
      unfold HF.minus
      rw [if_neg (fun hl => (x c hl _ h1).2.2 _ h2)]; exact h1
  | .tup vs, _, h => by
    unfold VR at h ⊢
    refine e2_3 h ?_
    clear h
    rintro a ws e ha hv
    refine i2_3 a ws e ?_ (VRs.minus x hv)
    unfold HF.minus
    rw [if_neg (fun hl => (x a hl _ ha).1 ws 0 rfl)]; exact ha
  | .lst vs, _, h => by
    unfold VR at h ⊢
    refine e3_3 h ?_
    clear h
    rintro a ws n e ha hv
    refine i3_3 a ws n e ?_ (VRs.minus x hv)
    unfold HF.minus
    rw [if_neg (fun hl => (x a hl _ ha).1 ws n rfl)]; exact ha
theorem VRs.minus {H : HF} {l : List Addr} (x : ∀ a ∈ l, ∀ o, H a = some o → NS o) : ∀ {as : List AV} {vs : List Value}, VRs H as vs → VRs (H.minus l) as vs
  | [], _, h => by unfold VRs at h ⊢; exact h
  | _ :: _, _, h => by
    unfold VRs at h ⊢
    refine e2_3 h ?_
    clear h
    rintro u us e h1 h2
    exact i2_3 u us e (VR.minus x h1) (VRs.minus x h2)
end

noncomputable def HF.plus (H : HF) (l : List Addr) (h : Heap) : HF := fun a => if a ∈ l then h.get? a else H a
theorem HF.le_plus {H : HF} {l : List Addr} {h : Heap} (x : ∀ a ∈ l, H a = none) : HF.le H (H.plus l h) := fun a o e => by
  unfold HF.plus
  rw [if_neg (fun hl => by rw [x a hl] at e; cases e)]; exact e
theorem HF.plus_at {H : HF} {l : List Addr} {h : Heap} {a : Addr} (x : a ∈ l) : H.plus l h a = h.get? a := by unfold HF.plus; rw [if_pos x]

theorem StM.hide {B H : HF} {mu : Mu} {h : Heap} (x : StM B H mu h) (l : List Addr) (hn : ∀ a ∈ l, H a = none) (hm : ∀ a ∈ l, ∀ p ∈ mu, p.1 ≠ a) : StM B (H.plus l h) mu h := by
  refine x.up (HF.le_plus hn) (fun a o e => ?_) fun p hp => ?_
  · unfold HF.plus at e
    split at e
    · exact e
    · exact x.keep a o e
  · unfold HF.plus
    rw [if_neg (fun hl => hm p.1 hl p hp rfl)]; exact (x.own p hp).1

theorem StM.show_ {B H H' : HF} {mu' : Mu} {h h' : Heap} {l : List Addr} (hB : HF.le B H) (hn : ∀ a ∈ l, H a = none) (le : HF.le (H.plus l h) H') (x' : StM B H' mu' h')
    (ho : ∀ a ∈ l, ∃ o, h.get? a = some o ∧ NS o) :
    HF.le H (H'.minus l) ∧ StM B (H'.minus l) mu' h' ∧ (∀ a ∈ l, h'.get? a = h.get? a) ∧ (∀ a ∈ l, ∀ p ∈ mu', p.1 ≠ a) ∧ (∀ a v, VR H' a v → VR (H'.minus l) a v) ∧ (∀ as vs, VRs H' as vs → VRs (H'.minus l) as vs) := by
  have at_ : ∀ a ∈ l, ∃ o, h.get? a = some o ∧ H' a = some o ∧ NS o := fun a ha => by
    refine e1_2 (ho a ha) ?_
    rintro o e d
    exact i1_3 o e (le a o (by rw [HF.plus_at ha]; exact e)) d
  have le' : HF.le H (H'.minus l) := fun a o e => by
    unfold HF.minus
    rw [if_neg (fun hl => by rw [hn a hl] at e; cases e)]
    exact le a o (HF.le_plus hn a o e)
  have hx : ∀ a ∈ l, ∀ o, H' a = some o → NS o := fun a ha o e => by
    refine e1_3 (at_ a ha) ?_
    rintro o' _ e' d
    rw [e'] at e; cases e; exact d
  refine ⟨le', ⟨hB.trans le', fun a o e => x'.keep a o (HF.minus_le _ _ a o e), fun p hp => ?_, x'.nd⟩, fun a ha => ?_, fun a ha p hp e => ?_, fun _ _ => VR.minus hx, fun _ _ => VRs.minus hx⟩
  · refine e0_2 (x'.own p hp) ?_
    rintro q r
    refine ⟨?_, ?_⟩
    · unfold HF.minus; split
      · rfl
      · exact q
    · cases hpm : p.2 with
      | list vs =>
        rw [hpm] at r
        refine e2_2 r ?_
        clear r
        rintro ws n e v
        exact i2_2 ws n e (VRs.minus hx v)
      | ob o => rw [hpm] at r; exact r
      | tab l c q =>
        rw [hpm] at r
        rcases r with e | ⟨c', oc, e, h1, h2⟩
        · exact .inl e
        · refine .inr ⟨c', oc, e, ?_, h2⟩
          unfold HF.minus
          rw [if_neg (fun hl => (hx c' hl _ h1).2.2 _ h2)]; exact h1
  · refine e1_3 (at_ a ha) ?_
    rintro o e e' _
    rw [e]; exact x'.keep a o e'
  · refine e1_3 (at_ a ha) ?_
    rintro o _ e' _
    have := (x'.own p hp).1
    rw [e, e'] at this; cases this

theorem St.hide {B H : HF} {F : Frm} {σ : S} {h : Heap} (x : St B H F σ h) : StM B (H.plus F.own h) σ.mu h := x.m.hide F.own x.own_none x.own_mu
theorem St.back {B H H' : HF} {F : Frm} {σ : S} {mu' : Mu} {h h' : Heap} (x : St B H F σ h) (le : HF.le (H.plus F.own h) H') (x' : StM B H' mu' h') :
    HF.le H (H'.minus F.own) ∧ St B (H'.minus F.own) F { σ with mu := mu' } h' ∧ (∀ a v, VR H' a v → VR (H'.minus F.own) a v) ∧ (∀ as vs, VRs H' as vs → VRs (H'.minus F.own) as vs) := by
  refine e0_6 (StM.show_ x.m.base x.own_none le x' x.own_obj) ?_
  rintro l1 s1 at_ ne v1 v2
  have nn : ∀ a ∈ F.own, H'.minus F.own a = none := fun a ha => by unfold HF.minus; rw [if_pos ha]
  refine ⟨l1, ⟨s1, nn _ (.head _), ?_, ?_, ?_, ?_, x.lenv, x.lenc⟩, v1, v2⟩
  · refine e1_2 x.ns ?_
    rintro m ⟨o, es, ep, ho, r⟩ hv
    refine ⟨m, ⟨o, es, ep, (at_ _ (.head _)).trans ho, r⟩, fun i y v h1 h2 => ?_⟩
    refine e1_2 (hv i y v h1 h2) ?_
    rintro u e k
    exact ⟨u, e, k.mono l1⟩
  · intro i y c v h1 h2
    have hc : c ∈ F.own := List.mem_cons_of_mem _ (List.mem_map.mpr ⟨(y, c), List.mem_of_getElem? h1, rfl⟩)
    obtain ⟨_, u, ⟨o, ho, hd⟩, k⟩ := x.cell i y c v h1 h2
    refine ⟨nn c hc, u, ⟨o, (at_ c hc).trans ho, hd⟩, fun a e => ?_⟩
    refine e1_2 (k a e) ?_
    rintro b e1 e2
    exact ⟨b, e1, e2.mono l1⟩
  · refine List.nodup_append.mpr ⟨(List.nodup_append.mp x.nd).1, s1.nd, fun a ha b hb e => ?_⟩
    refine e1_2 (List.mem_map.mp hb) ?_
    rintro p hp rfl
    exact ne a ha p hp e.symm
  · intro p hp
    refine e3_4 (x.fr p hp) ?_
    rintro c o u h1 h2 h3 h4
    exact i3_4 c o u h1 (l1 c o h2) h3 (h4.mono l1)
noncomputable def Sub (B : HF) (h : Heap) : Prop := ∀ a o, B a = some o → h.get? a = some o

structure Gr (B : HF) (mg mb : Str → Option Value) : Prop where
  g : ∀ h : Heap, Sub B h → h.Ns mainGlobals mg
  b : ∀ h : Heap, Sub B h → h.Ns builtinsNs mb
  lim : ∀ h : Heap, Sub B h → h.NoLimit
theorem Gr.mono {B B' : HF} {mg mb : Str → Option Value} (x : Gr B mg mb) (le : HF.le B B') : Gr B' mg mb :=
  ⟨fun h k => x.g h fun a o e => k a o (le a o e), fun h k => x.b h fun a o e => k a o (le a o e), fun h k => x.lim h fun a o e => k a o (le a o e)⟩

structure Fit (A : Around) (n : Nat) : Prop where
  hd : A.handled = none
  dp : A.depth + n + 1 < recursionLimit
  un : A.units + 8 * n + 40 < cLine

structure Cx where
  prog : Program
  w : World
  A : Around
  B : HF
  F : Frm
  ok : F.Ok
  mg : Str → Option Value
  mb : Str → Option Value
  gr : Gr B mg mb
  n : Nat
  fit : Fit A n

noncomputable abbrev Cx.St (K : Cx) := Mine.St K.B
noncomputable abbrev Cx.T (K : Cx) {α β : Type} (R : HF → β → α → Prop) (t : Sem α) (σ : S) (Post : β → S → Prop) : Prop := Tri K.prog K.w K.A K.B K.F R t σ Post
noncomputable abbrev Ev (K : Cx) (e : Expr) (σ : S) (Post : AV → S → Prop) : Prop := K.T VR (eval e K.F.env) σ Post
noncomputable abbrev Xs (K : Cx) (b : List Stmt) (σ : S) (Post : AF → S → Prop) : Prop := K.T FR (execs b K.F.env) σ Post
noncomputable abbrev X (K : Cx) (b : Stmt) (σ : S) (Post : AF → S → Prop) : Prop := K.T FR (exec b K.F.env) σ Post
noncomputable abbrev LdN (K : Cx) (x : Str) (σ : S) (Post : AV → S → Prop) : Prop := K.T VR (loadName K.F.env x) σ Post
noncomputable def BR (_ : HF) (b : Bool) (c : Bool) : Prop := c = b
noncomputable abbrev Tst (K : Cx) (e : Expr) (σ : S) (Post : Bool → S → Prop) : Prop := K.T BR (isTrue e K.F.env (eval e K.F.env)) σ Post
noncomputable def UR (_ : HF) (_ : Unit) (_ : Unit) : Prop := True

section
variable {α β : Type} {prog : Program} {w : World} {A : Around} {B : HF} {F : Frm} {R : HF → β → α → Prop} {t : Sem α} {σ : S} {Post Post' : β → S → Prop}
theorem Tri.mono (h : Tri prog w A B F R t σ Post) (k : ∀ b σ', Post b σ' → Post' b σ') : Tri prog w A B F R t σ Post' :=
  fun H s hs Q E hq => h H s hs Q E fun b a H' σ' h' tk le x r p => hq b a H' σ' h' tk le x r (k b σ' p)
theorem Tri.run (h : Tri prog w A B F R t σ Post) {H : HF} {s : Shared} (hs : St B H F σ s.heap) {Q : α → Shared → Prop} {E : Value → Shared → Prop}
    (k : ∀ b a H' σ' h' tk, HF.le H H' → St B H' F σ' h' → R H' b a → Post b σ' → Q a { s with heap := h', toks := tk }) : wpAny (model prog w) A t Q E s := h H s hs Q E k
theorem Tri.leaf {b : β} (h : ∀ H s, St B H F σ s.heap → ∀ (Q : α → Shared → Prop) (E : Value → Shared → Prop), (∀ a tk, R H b a → Q a { s with toks := tk }) → wpAny (model prog w) A t Q E s) (p : Post b σ) : Tri prog w A B F R t σ Post :=
  fun H s hs Q E hq => h H s hs Q E fun a tk r => hq b a H σ s.heap tk (.refl _) hs r p
end

noncomputable def one {α : Type} (f : Value → Sem α) : List Value → Sem α
  | [x] => f x
  | _ => .unsupported ""
noncomputable def two {α : Type} (f : Value → Value → Sem α) : List Value → Sem α
  | [x, y] => f x y
  | _ => .unsupported ""
noncomputable def three {α : Type} (f : Value → Value → Value → Sem α) : List Value → Sem α
  | [x, y, z] => f x y z
  | _ => .unsupported ""
noncomputable def On {α β : Type} (K : Cx) (R : HF → β → α → Prop) (as : List AV) (t : List Value → Sem α) (σ : S) (Post : β → S → Prop) : Prop :=
  ∀ H s, K.St H K.F σ s.heap → ∀ vs, VRs H as vs → ∀ (Q : α → Shared → Prop) (E : Value → Shared → Prop),
    (∀ b a H' σ' h' tk, HF.le H H' → K.St H' K.F σ' h' → R H' b a → Post b σ' → Q a { s with heap := h', toks := tk }) → wpAny (model K.prog K.w) K.A (t vs) Q E s

section
variable {K : Cx} {σ : S} {Post : AV → S → Prop} {PF : AF → S → Prop} {PB : Bool → S → Prop}

/- names -/
theorem ld_loc (i : Nat) {x : Str} {v : AV} (hi : K.F.ns[i]? = some x) (hv : σ.vars[i]? = some (some v)) (hP : Post v σ) : LdN K x σ Post :=
  Tri.leaf (b := v) (fun H s hs Q E hq => by
    refine e1_2 hs.ns ?_
    rintro m hn hm
    refine e1_2 (hm i x v hi hv) ?_
    rintro u e k
    exact wpAny_loadName_local K.ok.kind (K.ok.loc x (List.mem_of_getElem? hi)) hn e (hq u s.toks k)) hP
theorem ev_loc (i : Nat) {x : Str} {p : Pos} {v : AV} (hi : K.F.ns[i]? = some x) (hv : σ.vars[i]? = some (some v)) (hd : (x == ("__debug__" : Str)) = false) (hP : Post v σ) : Ev K (.Name x p) σ Post :=
  Tri.leaf (b := v) (fun H s hs Q E hq => by
    refine e1_2 hs.ns ?_
    rintro m hn hm
    refine e1_2 (hm i x v hi hv) ?_
    rintro u e k
    exact wpAny_Name (wpAny_loadName_local K.ok.kind (K.ok.loc x (List.mem_of_getElem? hi)) hn e (hq u s.toks k)) hd) hP
theorem ev_cell (i : Nat) {x : Str} {c : Addr} {p : Pos} {v : AV} (hi : K.F.cs[i]? = some (x, c)) (hv : σ.cells[i]? = some (some v)) (hd : (x == ("__debug__" : Str)) = false) (hP : Post v σ) : Ev K (.Name x p) σ Post :=
  Tri.leaf (b := v) (fun H s hs Q E hq => by
    obtain ⟨_, u, hc, k⟩ := hs.cell i x c _ hi hv
    refine e1_2 (k v rfl) ?_
    rintro b rfl k'
    have z := K.ok.cell (x, c) (List.mem_of_getElem? hi)
    exact wpAny_Name (wpAny_loadName_cell K.ok.kind z.1 z.2 hc (hq b s.toks k')) hd) hP
theorem ev_free (i : Nat) {x : Str} {p : Pos} {v : AV} (hi : K.F.fr[i]? = some (x, v)) (hd : (x == ("__debug__" : Str)) = false) (hP : Post v σ) : Ev K (.Name x p) σ Post :=
  Tri.leaf (b := v) (fun H s hs Q E hq => by
    have hm := List.mem_of_getElem? hi
    refine e3_4 (hs.fr _ hm) ?_
    rintro c o u h1 h2 h3 h4
    have z := K.ok.free _ hm
    rcases z.1 with z1 | z1
    · exact wpAny_Name (wpAny_loadName_free K.ok.kind z1 h1 ⟨o, hs.m.keep c o h2, h3⟩ (hq u s.toks h4) z.2) hd
    · exact wpAny_Name (wpAny_loadName_cell K.ok.kind z1 h1 ⟨o, hs.m.keep c o h2, h3⟩ (hq u s.toks h4)) hd) hP
theorem Cx.sub (K : Cx) {H : HF} {h : Heap} (hs : K.St H K.F σ h) : Sub K.B h := fun a o e => hs.m.keep a o (hs.m.base a o e)
theorem ev_glob {x : Str} {p : Pos} {v : Value} (hk : K.F.env.kindOf x = some .globalImplicit) (hm : K.mg x = some v) (hd : (x == ("__debug__" : Str)) = false) (hP : Post (.raw v) σ) : Ev K (.Name x p) σ Post :=
  Tri.leaf (b := .raw v) (fun H s hs Q E hq => by
    refine wpAny_Name ?_ hd
    refine rwl (PyProof.Rows.loadName_read K.ok.kind hk) ?_
    exact Calls.loadGlobal_global (by rw [K.ok.glob]; exact K.gr.g _ (K.sub hs)) hm (hq v s.toks (mk_raw v))) hP
theorem ev_blt {x : Str} {p : Pos} {v : Value} (hk : K.F.env.kindOf x = some .globalImplicit) (hm : K.mg x = none) (hb : K.mb x = some v) (hd : (x == ("__debug__" : Str)) = false) (hP : Post (.raw v) σ) : Ev K (.Name x p) σ Post :=
  Tri.leaf (b := .raw v) (fun H s hs Q E hq => by
    refine wpAny_Name ?_ hd
    refine rwl (PyProof.Rows.loadName_read K.ok.kind hk) ?_
    exact Calls.loadGlobal_builtin (by rw [K.ok.glob]; exact K.gr.g _ (K.sub hs)) hm (by rw [K.ok.blt]; exact K.gr.b _ (K.sub hs)) hb (hq v s.toks (mk_raw v))) hP

/- constants -/
theorem ev_int {i : Int} {k : Nat} {p : Pos} (hP : Post (.int i) σ) : Ev K (.Constant (.int i) k p) σ Post :=
  Tri.leaf (b := .int i) (fun H s hs Q E hq => wpAny_Constant_int (hq _ _ (mk_int ..))) hP
theorem ev_str {x : Str} {k : Nat} {p : Pos} (hP : Post (.str x) σ) : Ev K (.Constant (.str x) k p) σ Post :=
  Tri.leaf (b := .str x) (fun H s hs Q E hq => fun _ _ _ => hq _ _ (mk_str ..)) hP
theorem ev_none {k : Nat} {p : Pos} (hP : Post .none σ) : Ev K (.Constant .none k p) σ Post :=
  Tri.leaf (b := .none) (fun H s hs Q E hq => fun _ _ _ => hq _ _ mk_none) hP
theorem ev_bool {b : Bool} {k : Nat} {p : Pos} (hP : Post (.bool b) σ) : Ev K (.Constant (.bool b) k p) σ Post :=
  Tri.leaf (b := .bool b) (fun H s hs Q E hq => fun _ _ _ => hq _ _ (mk_bool _)) hP

/- operators -/
noncomputable abbrev Bin (K : Cx) (op : Operator) (a b : AV) (σ : S) (Post : AV → S → Prop) : Prop :=
  On K VR [a, b] (two (binaryOp op)) σ Post
noncomputable abbrev IBin (K : Cx) (op : Operator) (a b : AV) (σ : S) (Post : AV → S → Prop) : Prop :=
  On K VR [a, b] (two (inplaceOp op)) σ Post
noncomputable abbrev Cmp (K : Cx) (op : CmpOp) (a b : AV) (σ : S) (Post : AV → S → Prop) : Prop :=
  On K VR [a, b] (two (compareOp op)) σ Post
noncomputable abbrev Una (K : Cx) (op : UnaryOp) (a : AV) (σ : S) (Post : AV → S → Prop) : Prop :=
  On K VR [a] (one (unaryOp op)) σ Post
noncomputable abbrev Tru (K : Cx) (a : AV) (σ : S) (Post : Bool → S → Prop) : Prop :=
  On K BR [a] (one truthy) σ Post
noncomputable abbrev SubT (K : Cx) (value slice : Expr) (a b : AV) (σ : S) (Post : AV → S → Prop) : Prop :=
  On K VR [a, b] (two (PyProof.Rows.subscriptTail value slice)) σ Post

theorem On.at {α β : Type} {R : HF → β → α → Prop} {as : List AV} {t : List Value → Sem α} {P : β → S → Prop} {H : HF} {s : Shared} (h : On K R as t σ P) (hs : K.St H K.F σ s.heap) {vs : List Value} (hv : VRs H as vs) {Q : α → Shared → Prop} {E : Value → Shared → Prop}
    (hq : ∀ b a H' σ' h' tk, HF.le H H' → K.St H' K.F σ' h' → R H' b a → P b σ' → Q a { s with heap := h', toks := tk }) : wpAny (model K.prog K.w) K.A (t vs) Q E s := h H s hs vs hv Q E hq

theorem ev_binop {l r : Expr} {op : Operator} {p : Pos} (h : Ev K l σ fun a σ1 => Ev K r σ1 fun b σ2 => Bin K op a b σ2 Post) : Ev K (.BinOp l op r p) σ Post :=
  fun H s hs Q E hq => wpAny_BinOp (h.run hs fun a va H1 σ1 h1 t1 le1 s1 ra hb => hb.run s1 fun b vb H2 σ2 h2 t2 le2 s2 rb ho =>
    ho.at (vs := [va, vb]) s2 (VRs.cons (ra.mono le2) (VRs.cons rb VRs.nil)) fun v u H3 σ3 h3 t3 le3 s3 rv hp => hq v u H3 σ3 h3 t3 (le1.trans (le2.trans le3)) s3 rv hp)
theorem ev_cmp {l r : Expr} {op : CmpOp} {p : Pos} (h : Ev K l σ fun a σ1 => Ev K r σ1 fun b σ2 => Cmp K op a b σ2 Post) (hm : behindInMarks op r = false := by with_unfolding_all rfl) : Ev K (.Compare l [op] [r] p) σ Post :=
  fun H s hs Q E hq => wpAny_Compare1 (h.run hs fun a va H1 σ1 h1 t1 le1 s1 ra hb => hb.run s1 fun b vb H2 σ2 h2 t2 le2 s2 rb ho =>
    ho.at (vs := [va, vb]) s2 (VRs.cons (ra.mono le2) (VRs.cons rb VRs.nil)) fun v u H3 σ3 h3 t3 le3 s3 rv hp => hq v u H3 σ3 h3 t3 (le1.trans (le2.trans le3)) s3 rv hp) hm
theorem ev_una {x : Expr} {op : UnaryOp} {p : Pos} (h : Ev K x σ fun a σ1 => Una K op a σ1 Post) : Ev K (.UnaryOp op x p) σ Post :=
  fun H s hs Q E hq => by
    show wpAny _ _ (do let v ← eval x K.F.env; standAt p; holding [v] (unaryOp op v)) _ _ _
    exact wpAny_bind (h.run hs fun a va H1 σ1 h1 t1 le1 s1 ra ho => wpAny_bind (wpAny_standAt (wpAny_holding (ho.at (vs := [va]) s1 (VRs.cons ra VRs.nil) fun v u H3 σ3 h3 t3 le3 s3 rv hp => hq v u H3 σ3 h3 t3 (le1.trans le3) s3 rv hp))))
theorem ev_ifexp {t b o : Expr} {p : Pos} (h : Tst K t σ fun c σ1 => if c = true then Ev K b σ1 Post else Ev K o σ1 Post) : Ev K (.IfExp t b o p) σ Post :=
  fun H s hs Q E hq => PyProof.Rows.IfExp_ (h.run hs fun c c' H1 σ1 h1 t1 le1 s1 rc hb => by
    cases rc
    cases c with
    | true => exact (show Ev K b σ1 Post from hb).run s1 fun v u H3 σ3 h3 t3 le3 s3 rv hp => hq v u H3 σ3 h3 t3 (le1.trans le3) s3 rv hp
    | false => exact (show Ev K o σ1 Post from hb).run s1 fun v u H3 σ3 h3 t3 le3 s3 rv hp => hq v u H3 σ3 h3 t3 (le1.trans le3) s3 rv hp)
theorem ev_sub {v sl : Expr} {p : Pos} (h : Ev K v σ fun a σ1 => Ev K sl σ1 fun b σ2 => SubT K v sl a b σ2 Post) : Ev K (.Subscript v sl p) σ Post :=
  fun H s hs Q E hq => PyProof.Rows.Subscript_ (h.run hs fun a va H1 σ1 h1 t1 le1 s1 ra hb => hb.run s1 fun b vb H2 σ2 h2 t2 le2 s2 rb ho =>
    ho.at (vs := [va, vb]) s2 (VRs.cons (ra.mono le2) (VRs.cons rb VRs.nil)) fun v u H3 σ3 h3 t3 le3 s3 rv hp => hq v u H3 σ3 h3 t3 (le1.trans (le2.trans le3)) s3 rv hp)

/- tests -/
theorem tst_cmp {l r : Expr} {op : CmpOp} {p : Pos} (h : Ev K l σ fun a σ1 => Ev K r σ1 fun b σ2 => Cmp K op a b σ2 fun c σ3 => Tru K c σ3 PB) (hm : behindInMarks op r = false := by with_unfolding_all rfl) : Tst K (.Compare l [op] [r] p) σ PB :=
  fun H s hs Q E hq => wpAny_isTrue_Compare1 (h.run hs fun a va H1 σ1 h1 t1 le1 s1 ra hb => hb.run s1 fun b vb H2 σ2 h2 t2 le2 s2 rb ho =>
    ho.at (vs := [va, vb]) s2 (VRs.cons (ra.mono le2) (VRs.cons rb VRs.nil)) fun v u H3 σ3 h3 t3 le3 s3 rv ht =>
      ht.at (vs := [u]) s3 (VRs.cons rv VRs.nil) fun c c' H4 σ4 h4 t4 le4 s4 rc hp => hq c c' H4 σ4 h4 t4 (le1.trans (le2.trans (le3.trans le4))) s4 rc hp) hm
theorem tst_plain {e : Expr} (h : Ev K e σ fun c σ1 => Tru K c σ1 PB) (he : isTrue e K.F.env (eval e K.F.env) = (do let v ← eval e K.F.env; standAt e.pos; holding [v] (truthy v)) := by rfl) : Tst K e σ PB :=
  fun H s hs Q E hq => PyProof.Rows.isTrue_plain (h.run hs fun a va H1 σ1 h1 t1 le1 s1 ra ht => ht.at (vs := [va]) s1 (VRs.cons ra VRs.nil) fun c c' H4 σ4 h4 t4 le4 s4 rc hp => hq c c' H4 σ4 h4 t4 (le1.trans le4) s4 rc hp) he
theorem tst_and_nil {p : Pos} (h : PB true σ) : Tst K (.BoolOp .And [] p) σ PB := Tri.leaf (b := true) (fun H s hs Q E hq => PyProof.Rows.isTrue_and_nil (hq true s.toks rfl)) h
theorem tst_or_nil {p : Pos} (h : PB false σ) : Tst K (.BoolOp .Or [] p) σ PB := Tri.leaf (b := false) (fun H s hs Q E hq => PyProof.Rows.isTrue_or_nil (hq false s.toks rfl)) h
theorem tst_and {x : Expr} {rest : List Expr} {p : Pos} (h : Tst K x σ fun c σ1 => if c = true then Tst K (.BoolOp .And rest p) σ1 PB else PB false σ1) : Tst K (.BoolOp .And (x :: rest) p) σ PB :=
  fun H s hs Q E hq => PyProof.Rows.isTrue_and (h.run hs fun c c' H1 σ1 h1 t1 le1 s1 rc hb => by
    cases rc
    cases c with
    | true => exact (show Tst K (.BoolOp .And rest p) σ1 PB from hb).run s1 fun v u H3 σ3 h3 t3 le3 s3 rv hp => hq v u H3 σ3 h3 t3 (le1.trans le3) s3 rv hp
    | false => exact hq false false H1 σ1 h1 t1 le1 s1 rfl hb)
theorem tst_or {x : Expr} {rest : List Expr} {p : Pos} (h : Tst K x σ fun c σ1 => if c = true then PB true σ1 else Tst K (.BoolOp .Or rest p) σ1 PB) : Tst K (.BoolOp .Or (x :: rest) p) σ PB :=
  fun H s hs Q E hq => PyProof.Rows.isTrue_or (h.run hs fun c c' H1 σ1 h1 t1 le1 s1 rc hb => by
    cases rc
    cases c with
    | false => exact (show Tst K (.BoolOp .Or rest p) σ1 PB from hb).run s1 fun v u H3 σ3 h3 t3 le3 s3 rv hp => hq v u H3 σ3 h3 t3 (le1.trans le3) s3 rv hp
    | true => exact hq true true H1 σ1 h1 t1 le1 s1 rfl hb)
theorem tst_not {x : Expr} {p : Pos} (h : Tst K x σ fun c σ1 => PB (!c) σ1) : Tst K (.UnaryOp .Not x p) σ PB :=
  fun H s hs Q E hq => PyProof.Rows.isTrue_not (h.run hs fun c c' H1 σ1 h1 t1 le1 s1 rc hb => by cases rc; exact hq (!c) (!c) H1 σ1 h1 t1 le1 s1 rfl hb)
end

section
variable {K : Cx} {σ : S} {α β : Type} {R : HF → β → α → Prop} {P : β → S → Prop}
theorem VRs.two {H : HF} {a b : AV} {vs : List Value} (h : VRs H [a, b] vs) : ∃ x y, vs = [x, y] ∧ VR H a x ∧ VR H b y := by
  unfold VRs at h
  refine e2_3 h ?_
  clear h
  rintro x us rfl h1 h2
  unfold VRs at h2
  refine e2_3 h2 ?_
  clear h2
  rintro y us' rfl h3 h4
  unfold VRs at h4
  subst h4
  exact i2_3 x y rfl h1 h3
theorem VRs.one {H : HF} {a : AV} {vs : List Value} (h : VRs H [a] vs) : ∃ x, vs = [x] ∧ VR H a x := by
  unfold VRs at h
  refine e2_3 h ?_
  clear h
  rintro x us rfl h1 h2
  unfold VRs at h2
  subst h2
  exact ⟨x, rfl, h1⟩
theorem VRs.three {H : HF} {a b c : AV} {vs : List Value} (h : VRs H [a, b, c] vs) : ∃ x y z, vs = [x, y, z] ∧ VR H a x ∧ VR H b y ∧ VR H c z := by
  unfold VRs at h
  refine e2_3 h ?_
  clear h
  rintro x us rfl h1 h2
  refine e2_3 h2.two ?_
  rintro y z rfl h3 h4
  exact i3_4 x y z rfl h1 h3 h4
theorem on2 {a b : AV} {f : Value → Value → Sem α} (r : β)
    (h : ∀ H s, K.St H K.F σ s.heap → ∀ x y, VR H a x → VR H b y → ∀ (Q : α → Shared → Prop) (E : Value → Shared → Prop), (∀ u tk, R H r u → Q u { s with toks := tk }) → wpAny (model K.prog K.w) K.A (f x y) Q E s)
    (p : P r σ) : On K R [a, b] (two f) σ P := fun H s hs vs hv Q E hq => by
  refine e2_3 hv.two ?_
  rintro x y rfl rx ry
  exact h H s hs x y rx ry Q E fun u tk ru => hq r u H σ s.heap tk (.refl _) hs ru p
theorem on1 {a : AV} {f : Value → Sem α} (r : β)
    (h : ∀ H s, K.St H K.F σ s.heap → ∀ x, VR H a x → ∀ (Q : α → Shared → Prop) (E : Value → Shared → Prop), (∀ u tk, R H r u → Q u { s with toks := tk }) → wpAny (model K.prog K.w) K.A (f x) Q E s)
    (p : P r σ) : On K R [a] (one f) σ P := fun H s hs vs hv Q E hq => by
  refine e1_2 hv.one ?_
  rintro x rfl rx
  exact h H s hs x rx Q E fun u tk ru => hq r u H σ s.heap tk (.refl _) hs ru p
end
section
variable {K : Cx} {σ : S} {P : AV → S → Prop} {PB : Bool → S → Prop} {a b : Int} {x y : Str}
theorem bin_add (p : P (.int (a + b)) σ) : Bin K .Add (.int a) (.int b) σ P := on2 _ (fun H s hs u v ru rv Q E hq => by
  obtain ⟨t, rfl⟩ := vr_int ru; obtain ⟨t', rfl⟩ := vr_int rv
  exact PySem.P.add_int (hq _ _ (mk_int ..))) p
theorem bin_sub (p : P (.int (a - b)) σ) : Bin K .Sub (.int a) (.int b) σ P := on2 _ (fun H s hs u v ru rv Q E hq => by
  obtain ⟨t, rfl⟩ := vr_int ru; obtain ⟨t', rfl⟩ := vr_int rv
  exact PySem.P.sub_int (hq _ _ (mk_int ..))) p
theorem bin_mul (hm : IntMulOk a b) (p : P (.int (a * b)) σ) : Bin K .Mult (.int a) (.int b) σ P := on2 _ (fun H s hs u v ru rv Q E hq => by
  obtain ⟨t, rfl⟩ := vr_int ru; obtain ⟨t', rfl⟩ := vr_int rv
  exact PySem.P.mul_int (hq _ _ (mk_int ..)) hm) p
theorem bin_fdiv (hb : b ≠ 0) (hp : Builtin.divisionGoesByPylong a b = false) (p : P (.int (a.fdiv b)) σ) : Bin K .FloorDiv (.int a) (.int b) σ P := on2 _ (fun H s hs u v ru rv Q E hq => by
  obtain ⟨t, rfl⟩ := vr_int ru; obtain ⟨t', rfl⟩ := vr_int rv
  exact PyProof.Rows.floordiv_int hb (hq _ _ (mk_int ..)) (.inl hp)) p
theorem bin_fmod (hb : b ≠ 0) (p : P (.int (a.fmod b)) σ) : Bin K .Mod (.int a) (.int b) σ P := on2 _ (fun H s hs u v ru rv Q E hq => by
  obtain ⟨t, rfl⟩ := vr_int ru; obtain ⟨t', rfl⟩ := vr_int rv
  exact PyProof.Rows.mod_int_or K.fit.hd (fun e => absurd e hb) (fun _ => hq _ _ (mk_int ..))) p
theorem bin_shl (hn : 0 ≤ b) (hsz : (Builtin.Int.intBits a : Int) + b ≤ 2 ^ 27) (p : P (.int (a * 2 ^ b.toNat)) σ) : Bin K .LShift (.int a) (.int b) σ P := on2 _ (fun H s hs u v ru rv Q E hq => by
  obtain ⟨t, rfl⟩ := vr_int ru; obtain ⟨t', rfl⟩ := vr_int rv
  exact PyProof.Rows.lshift_int_or K.fit.hd (fun e => absurd e (by lia)) (fun _ => hsz) (fun _ => hq _ _ (mk_int ..))) p
theorem bin_shr (hn : 0 ≤ b) (p : P (.int (a.fdiv (2 ^ b.toNat))) σ) : Bin K .RShift (.int a) (.int b) σ P := on2 _ (fun H s hs u v ru rv Q E hq => by
  obtain ⟨t, rfl⟩ := vr_int ru; obtain ⟨t', rfl⟩ := vr_int rv
  exact PyProof.Rows.rshift_int hn (hq _ _ (mk_int ..))) p
theorem bin_and (p : P (.int (Builtin.bitAnd a b)) σ) : Bin K .BitAnd (.int a) (.int b) σ P := on2 _ (fun H s hs u v ru rv Q E hq => by
  obtain ⟨t, rfl⟩ := vr_int ru; obtain ⟨t', rfl⟩ := vr_int rv
  exact PyProof.Rows.and_int (hq _ _ (mk_int ..))) p
theorem bin_or (p : P (.int (Builtin.bitOr a b)) σ) : Bin K .BitOr (.int a) (.int b) σ P := on2 _ (fun H s hs u v ru rv Q E hq => by
  obtain ⟨t, rfl⟩ := vr_int ru; obtain ⟨t', rfl⟩ := vr_int rv
  exact PyProof.Rows.or_int (hq _ _ (mk_int ..))) p
theorem bin_xor (p : P (.int (Builtin.bitXor a b)) σ) : Bin K .BitXor (.int a) (.int b) σ P := on2 _ (fun H s hs u v ru rv Q E hq => by
  obtain ⟨t, rfl⟩ := vr_int ru; obtain ⟨t', rfl⟩ := vr_int rv
  exact PyProof.Rows.xor_int (hq _ _ (mk_int ..))) p
theorem bin_pow (hn : 0 ≤ b) (hsz : (Builtin.Int.intBits a : Int) * b ≤ 2 ^ 27) (p : P (.int (a ^ b.toNat)) σ) : Bin K .Pow (.int a) (.int b) σ P := on2 _ (fun H s hs u v ru rv Q E hq => by
  obtain ⟨t, rfl⟩ := vr_int ru; obtain ⟨t', rfl⟩ := vr_int rv
  exact PyProof.Rows.pow_int hn hsz (hq _ _ (mk_int ..))) p
theorem ibin_add (p : P (.int (a + b)) σ) : IBin K .Add (.int a) (.int b) σ P := on2 _ (fun H s hs u v ru rv Q E hq => by
  obtain ⟨t, rfl⟩ := vr_int ru; obtain ⟨t', rfl⟩ := vr_int rv
  exact PySem.P.iadd_int (hq _ _ (mk_int ..))) p
theorem ibin_sub (p : P (.int (a - b)) σ) : IBin K .Sub (.int a) (.int b) σ P := on2 _ (fun H s hs u v ru rv Q E hq => by
  obtain ⟨t, rfl⟩ := vr_int ru; obtain ⟨t', rfl⟩ := vr_int rv
  exact PySem.P.isub_int (hq _ _ (mk_int ..))) p
theorem ibin_xor (p : P (.int (Builtin.bitXor a b)) σ) : IBin K .BitXor (.int a) (.int b) σ P := on2 _ (fun H s hs u v ru rv Q E hq => by
  obtain ⟨t, rfl⟩ := vr_int ru; obtain ⟨t', rfl⟩ := vr_int rv
  exact PyProof.Rows.ixor_int (hq _ _ (mk_int ..))) p
theorem ibin_shl (hn : 0 ≤ b) (hsz : (Builtin.Int.intBits a : Int) + b ≤ 2 ^ 27) (p : P (.int (a * 2 ^ b.toNat)) σ) : IBin K .LShift (.int a) (.int b) σ P := on2 _ (fun H s hs u v ru rv Q E hq => by
  obtain ⟨t, rfl⟩ := vr_int ru; obtain ⟨t', rfl⟩ := vr_int rv
  exact PyProof.Rows.ilshift_int hn hsz (hq _ _ (mk_int ..))) p
theorem ibin_shr (hn : 0 ≤ b) (p : P (.int (a.fdiv (2 ^ b.toNat))) σ) : IBin K .RShift (.int a) (.int b) σ P := on2 _ (fun H s hs u v ru rv Q E hq => by
  obtain ⟨t, rfl⟩ := vr_int ru; obtain ⟨t', rfl⟩ := vr_int rv
  exact PyProof.Rows.irshift_int hn (hq _ _ (mk_int ..))) p
theorem una_neg (p : P (.int (-a)) σ) : Una K .USub (.int a) σ P := on1 _ (fun H s hs u ru Q E hq => by
  refine e1_1 (vr_int ru) ?_
  rintro t rfl
  exact PySem.P.neg_int (hq _ _ (mk_int ..))) p
theorem una_inv (p : P (.int (Builtin.bitNot a)) σ) : Una K .Invert (.int a) σ P := on1 _ (fun H s hs u ru Q E hq => by
  refine e1_1 (vr_int ru) ?_
  rintro t rfl
  exact PyProof.Rows.invert_int (hq _ _ (mk_int ..))) p
/- texts -/
theorem bin_cat (hsz : x.length + y.length ≤ sizeLine) (p : P (.str (x ++ y)) σ) : Bin K .Add (.str x) (.str y) σ P := on2 _ (fun H s hs u v ru rv Q E hq => by
  obtain ⟨t, rfl⟩ := vr_str ru; obtain ⟨t', rfl⟩ := vr_str rv
  exact PyProof.Rows.add_str (fun t' tk => hq _ tk (mk_str ..)) hsz) p
/- comparisons -/
theorem cmp_eqi (p : P (.bool (a == b)) σ) : Cmp K .Eq (.int a) (.int b) σ P := on2 _ (fun H s hs u v ru rv Q E hq => by
  obtain ⟨t, rfl⟩ := vr_int ru; obtain ⟨t', rfl⟩ := vr_int rv
  exact PySem.P.eq_int (hq _ s.toks (mk_bool _))) p
theorem cmp_lti (p : P (.bool (decide (a < b))) σ) : Cmp K .Lt (.int a) (.int b) σ P := on2 _ (fun H s hs u v ru rv Q E hq => by
  obtain ⟨t, rfl⟩ := vr_int ru; obtain ⟨t', rfl⟩ := vr_int rv
  exact PySem.P.lt_int (hq _ s.toks (mk_bool _))) p
theorem cmp_lei (p : P (.bool (decide (a ≤ b))) σ) : Cmp K .LtE (.int a) (.int b) σ P := on2 _ (fun H s hs u v ru rv Q E hq => by
  obtain ⟨t, rfl⟩ := vr_int ru; obtain ⟨t', rfl⟩ := vr_int rv
  exact PySem.P.le_int (hq _ s.toks (mk_bool _))) p
theorem cmp_gti (p : P (.bool (decide (a > b))) σ) : Cmp K .Gt (.int a) (.int b) σ P := on2 _ (fun H s hs u v ru rv Q E hq => by
  obtain ⟨t, rfl⟩ := vr_int ru; obtain ⟨t', rfl⟩ := vr_int rv
  exact PySem.P.gt_int (hq _ s.toks (mk_bool _))) p
theorem cmp_eqs (p : P (.bool (x == y)) σ) : Cmp K .Eq (.str x) (.str y) σ P := on2 _ (fun H s hs u v ru rv Q E hq => by
  obtain ⟨t, rfl⟩ := vr_str ru; obtain ⟨t', rfl⟩ := vr_str rv
  exact PyProof.Rows.eq_str (hq _ s.toks (mk_bool _))) p
/- truth -/
theorem tru_bool {c : Bool} (p : PB c σ) : Tru K (.bool c) σ PB := on1 (R := BR) c (fun H s hs u ru Q E hq => by
  cases vr_bool ru
  exact wpAny_truthy_bool (hq c s.toks rfl)) p
theorem tru_int (p : PB (a != 0) σ) : Tru K (.int a) σ PB := on1 (R := BR) (a != 0) (fun H s hs u ru Q E hq => by
  refine e1_1 (vr_int ru) ?_
  rintro t rfl
  exact PySem.P.truthy_int (hq _ s.toks rfl)) p
theorem tru_none (p : PB false σ) : Tru K .none σ PB := on1 (R := BR) false (fun H s hs u ru Q E hq => by
  cases vr_none ru
  exact PyProof.Rows.truthy_none (hq _ s.toks rfl)) p
end
theorem nodup_idx {α : Type} {l : List α} (h : l.Nodup) {i j : Nat} {x : α} (hi : l[i]? = some x) (hj : l[j]? = some x) : i = j := by
  have p := List.pairwise_iff_getElem.mp h
  obtain ⟨hi1, hi2⟩ := List.getElem?_eq_some_iff.mp hi
  obtain ⟨hj1, hj2⟩ := List.getElem?_eq_some_iff.mp hj
  rcases Nat.lt_trichotomy i j with q | q | q
  · exact absurd (hi2.trans hj2.symm) (p i j hi1 hj1 q)
  · exact q
  · exact absurd (hj2.trans hi2.symm) (p j i hj1 hi1 q)
noncomputable def HF.put (H : HF) (a : Addr) (o : Obj) : HF := fun b => if b = a then some o else H b
theorem HF.put_at (H : HF) (a : Addr) (o : Obj) : H.put a o a = some o := by unfold HF.put; rw [if_pos rfl]
theorem HF.le_put {H : HF} {a : Addr} {o : Obj} (h : H a = none) : HF.le H (H.put a o) := fun b x e => by
  unfold HF.put
  rw [if_neg (fun z => by rw [z, h] at e; cases e)]; exact e
theorem HF.put_ne (H : HF) {a b : Addr} (o : Obj) (h : b ≠ a) : H.put a o b = H b := by unfold HF.put; rw [if_neg h]

section
variable {B H : HF} {F : Frm} {σ : S} {mu : Mu} {h : Heap}
theorem StM.none_size (x : StM B H mu h) : H h.objs.size = none := by
  cases e : H h.objs.size with
  | none => rfl
  | some o => exact absurd (Heap.lt_size (x.keep _ _ e)) (Nat.lt_irrefl _)
theorem StM.lt (x : StM B H mu h) : ∀ p ∈ mu, p.1 < h.objs.size := fun p hp => by
  refine e1_1 ((x.own p hp).2.get) ?_
  rintro o e
  exact Heap.lt_size e
theorem St.own_lt (x : St B H F σ h) : ∀ a ∈ F.own, a < h.objs.size := fun a ha => by
  refine e1_2 (x.own_obj a ha) ?_
  rintro o e _
  exact Heap.lt_size e

noncomputable def Kept (h h' : Heap) : Prop := ∀ b o, h.get? b = some o → h'.get? b = some o
theorem Kept.push (h : Heap) (o : Obj) : Kept h (h.push o) := fun _ _ e => Heap.get?_push_of_some o e
theorem StM.kept {h' : Heap} (x : StM B H mu h) (k : Kept h h') : StM B H mu h' :=
  ⟨x.base, fun a o e => k a o (x.keep a o e), fun p hp => ⟨(x.own p hp).1, by
    refine e1_1 ((x.own p hp).2.get) ?_
    rintro o e
    exact (x.own p hp).2.at ((k _ _ e).trans e.symm)⟩, x.nd⟩
theorem St.kept {h' : Heap} (x : St B H F σ h) (k : Kept h h') : St B H F σ h' := by
  refine ⟨x.m.kept k, x.new, ?_, ?_, x.nd, x.fr, x.lenv, x.lenc⟩
  · refine e1_2 x.ns ?_
    rintro m hn hv
    exact ⟨m, hn.keeps k, hv⟩
  · intro i y c v h1 h2
    obtain ⟨a, u, hc, r⟩ := x.cell i y c v h1 h2
    exact ⟨a, u, hc.keeps k, r⟩
theorem StM.freeze {a : Addr} {o : Obj} (x : StM B H mu h) (e : h.get? a = some o) (hm : ∀ p ∈ mu, p.1 ≠ a) (hn : H a = none) : HF.le H (H.put a o) ∧ StM B (H.put a o) mu h := by
  refine ⟨HF.le_put hn, x.up (HF.le_put hn) (fun b ob eb => ?_) fun p hp => ?_⟩
  · by_cases z : b = a
    · subst z; rw [HF.put_at] at eb; cases eb; exact e
    · rw [HF.put_ne H o z] at eb; exact x.keep b ob eb
  · rw [HF.put_ne H o (hm p hp)]; exact (x.own p hp).1
theorem St.freeze {a : Addr} {o : Obj} (x : St B H F σ h) (e : h.get? a = some o) (hm : ∀ p ∈ σ.mu, p.1 ≠ a) (ho : a ∉ F.own) (hn : H a = none) : HF.le H (H.put a o) ∧ St B (H.put a o) F σ h := by
  refine e0_2 (x.m.freeze e hm hn) ?_
  rintro le xm
  have ne : ∀ b ∈ F.own, H.put a o b = none := fun b hb => by
    rw [HF.put_ne H o (fun z => ho (by rw [← z]; exact hb))]; exact x.own_none b hb
  refine ⟨le, xm, ne _ (.head _), ?_, ?_, x.nd, ?_, x.lenv, x.lenc⟩
  · refine e1_2 x.ns ?_
    rintro m hn' hv
    refine ⟨m, hn', fun i y v h1 h2 => ?_⟩
    refine e1_2 (hv i y v h1 h2) ?_
    rintro u e1 e2
    exact ⟨u, e1, e2.mono le⟩
  · intro i y c v h1 h2
    obtain ⟨q, u, hc, r⟩ := x.cell i y c v h1 h2
    refine ⟨ne c (List.mem_cons_of_mem _ (List.mem_map.mpr ⟨(y, c), List.mem_of_getElem? h1, rfl⟩)), u, hc, fun b eb => ?_⟩
    refine e1_2 (r b eb) ?_
    rintro z e1 e2
    exact ⟨z, e1, e2.mono le⟩
  · intro p hp
    refine e3_4 (x.fr p hp) ?_
    rintro c o' u h1 h2 h3 h4
    exact i3_4 c o' u h1 (le _ _ h2) h3 (h4.mono le)
theorem St.alloc (x : St B H F σ h) (o : Obj) (hf : o.isFreed = false := by rfl) : HF.le H (H.put h.objs.size o) ∧ St B (H.put h.objs.size o) F σ (h.push o) :=
  (x.kept (Kept.push h o)).freeze (Heap.get?_push_size _ hf) (fun p hp => Nat.ne_of_lt (x.m.lt p hp)) (fun ho => Nat.lt_irrefl _ (x.own_lt _ ho)) x.m.none_size
theorem St.make (x : St B H F σ h) (o : Obj) {m : MO} (hm : ∀ h' : Heap, h'.get? h.objs.size = some o → m.sat H h.objs.size h') (hf : o.isFreed = false := by rfl) : St B H F { σ with mu := (h.objs.size, m) :: σ.mu } (h.push o) := by
  have y := x.kept (Kept.push h o)
  refine ⟨⟨y.m.base, y.m.keep, fun p hp => ?_, ?_⟩, y.new, y.ns, y.cell, ?_, y.fr, y.lenv, y.lenc⟩
  · rcases List.mem_cons.mp hp with rfl | hp
    · exact ⟨x.m.none_size, hm _ (Heap.get?_push_size _ hf)⟩
    · exact y.m.own p hp
  · show ((h.objs.size, m) :: σ.mu |>.map (·.1)).Nodup
    refine rwl List.map_cons ?_
    refine List.nodup_cons.mpr ⟨fun hm => ?_, x.m.nd⟩
    refine e1_2 (List.mem_map.mp hm) ?_
    rintro p hp e
    exact Nat.ne_of_lt (x.m.lt p hp) e
  · show (F.own ++ ((h.objs.size, m) :: σ.mu).map (·.1)).Nodup
    refine rwl List.map_cons ?_
    have z := List.nodup_append.mp x.nd
    refine List.nodup_append.mpr ⟨z.1, List.nodup_cons.mpr ⟨fun hm => ?_, z.2.1⟩, fun a ha b hb e => ?_⟩
    · refine e1_2 (List.mem_map.mp hm) ?_
      rintro p hp e
      exact Nat.ne_of_lt (x.m.lt p hp) e
    · rcases List.mem_cons.mp hb with rfl | hb
      · subst e; exact Nat.lt_irrefl _ (x.own_lt _ ha)
      · exact z.2.2 a ha b hb e
theorem St.settle {a : Addr} {m : MO} {l r : Mu} (x : St B H F σ h) (hs : σ.mu = l ++ (a, m) :: r) {o : Obj} (e : h.get? a = some o) : HF.le H (H.put a o) ∧ St B (H.put a o) F { σ with mu := l ++ r } h := by
  have sub : ∀ p ∈ l ++ r, p ∈ σ.mu := fun p hp => by rw [hs]; rcases List.mem_append.mp hp with q | q; exact List.mem_append_left _ q; exact List.mem_append_right _ (List.mem_cons_of_mem _ q)
  have nda : (l.map (·.1) ++ a :: r.map (·.1)).Nodup := by have := x.m.nd; rw [hs, List.map_append, List.map_cons] at this; exact this
  have nda' := List.nodup_append.mp nda
  have ha : ∀ p ∈ l ++ r, p.1 ≠ a := fun p hp => by
    rcases List.mem_append.mp hp with q | q
    · exact nda'.2.2 p.1 (List.mem_map_of_mem q) a (.head _)
    · exact fun z => (List.nodup_cons.mp nda'.2.1).1 (z ▸ List.mem_map_of_mem q)
  have hmem : (a, m) ∈ σ.mu := by rw [hs]; simp
  have hown : a ∉ F.own := fun z => x.own_mu a z (a, m) hmem rfl
  have ndw := List.nodup_append.mp x.nd
  have y : St B H F { σ with mu := l ++ r } h := by
    refine ⟨⟨x.m.base, x.m.keep, fun p hp => x.m.own p (sub p hp), ?_⟩, x.new, x.ns, x.cell, ?_, x.fr, x.lenv, x.lenc⟩
    · refine rwl List.map_append ?_
      exact List.nodup_append.mpr ⟨nda'.1, (List.nodup_cons.mp nda'.2.1).2, fun u hu v hv => nda'.2.2 u hu v (List.mem_cons_of_mem _ hv)⟩
    · refine List.nodup_append.mpr ⟨ndw.1, ?_, fun u hu v hv => ?_⟩
      · show ((l ++ r).map (·.1)).Nodup
        refine rwl List.map_append ?_
        exact List.nodup_append.mpr ⟨nda'.1, (List.nodup_cons.mp nda'.2.1).2, fun u hu v hv => nda'.2.2 u hu v (List.mem_cons_of_mem _ hv)⟩
      · refine e1_2 (List.mem_map.mp hv) ?_
        rintro p hp rfl
        exact ndw.2.2 u hu p.1 (List.mem_map_of_mem (sub p hp))
  exact y.freeze e ha hown (x.m.own _ hmem).1
end

/- changing one of our own lists -/
theorem StM.change {B H : HF} {mu : Mu} {h h' : Heap} {a : Addr} {m m' : MO} {l r : Mu} (x : StM B H mu h) (hs : mu = l ++ (a, m) :: r) (sb : Heap.SameBut a h h') (hm : m'.sat H a h') : StM B H (l ++ (a, m') :: r) h' := by
  have nda : (l.map (·.1) ++ a :: r.map (·.1)).Nodup := by have := x.nd; rw [hs, List.map_append, List.map_cons] at this; exact this
  have nda' := List.nodup_append.mp nda
  have hmem : (a, m) ∈ mu := by rw [hs]; simp
  have hn := (x.own _ hmem).1
  refine ⟨x.base, fun b o e => (sb.2 b (fun z => by rw [z, hn] at e; cases e)).trans (x.keep b o e), fun p hp => ?_, ?_⟩
  · rcases List.mem_append.mp hp with q | q
    · have y := x.own p (by rw [hs]; exact List.mem_append_left _ q)
      exact ⟨y.1, y.2.at (sb.2 _ (nda'.2.2 p.1 (List.mem_map_of_mem q) a (.head _)))⟩
    · rcases List.mem_cons.mp q with rfl | q
      · exact ⟨hn, hm⟩
      · have y := x.own p (by rw [hs]; exact List.mem_append_right _ (List.mem_cons_of_mem _ q))
        exact ⟨y.1, y.2.at (sb.2 _ fun z => (List.nodup_cons.mp nda'.2.1).1 (z ▸ List.mem_map_of_mem q))⟩
  · rw [List.map_append, List.map_cons]; exact nda
theorem St.change {B H : HF} {F : Frm} {σ : S} {h h' : Heap} {a : Addr} {m m' : MO} {l r : Mu} (x : St B H F σ h) (hs : σ.mu = l ++ (a, m) :: r) (sb : Heap.SameBut a h h') (hm : m'.sat H a h') : St B H F { σ with mu := l ++ (a, m') :: r } h' := by
  have hmem : (a, m) ∈ σ.mu := by rw [hs]; simp
  have hown : ∀ b ∈ F.own, b ≠ a := fun b hb z => x.own_mu b hb (a, m) hmem z.symm
  refine ⟨x.m.change hs sb hm, x.new, ?_, ?_, ?_, x.fr, x.lenv, x.lenc⟩
  · refine e1_2 x.ns ?_
    rintro mm hn hv
    exact ⟨mm, hn.sameBut sb (hown _ (.head _)), hv⟩
  · intro i y c v h1 h2
    obtain ⟨q, u, hc, r'⟩ := x.cell i y c v h1 h2
    exact ⟨q, u, hc.sameBut sb (hown c (List.mem_cons_of_mem _ (List.mem_map.mpr ⟨(y, c), List.mem_of_getElem? h1, rfl⟩))), r'⟩
  · have : (l ++ (a, m') :: r).map (·.1) = σ.mu.map (·.1) := by rw [hs]; simp
    show (F.own ++ (l ++ (a, m') :: r).map (·.1)).Nodup
    rw [this]; exact x.nd

/- our own variables -/
noncomputable def S.setV (σ : S) (i : Nat) (v : AV) : S := { σ with vars := σ.vars.set i (some v) }
noncomputable def S.setC (σ : S) (i : Nat) (v : AV) : S := { σ with cells := σ.cells.set i (some v) }
theorem St.setV {B H : HF} {F : Frm} {σ : S} {h h' : Heap} (ok : F.Ok) (x : St B H F σ h) {i : Nat} {y : Str} {v : AV} {u : Value} (hi : F.ns[i]? = some y) (hv : VR H v u) {m : Str → Option Value}
    (hn : ∀ m, h.Ns F.env.locals m → h'.Ns F.env.locals (fun z => if z = y then some u else m z)) (sb : Heap.SameBut F.env.locals h h') : St B H F (σ.setV i v) h' := by
  refine ⟨⟨x.m.base, fun b o e => (sb.2 b (fun z => by rw [z, x.new] at e; cases e)).trans (x.m.keep b o e), fun p hp => ⟨(x.m.own p hp).1, (x.m.own p hp).2.at (sb.2 _ (x.own_mu _ (.head _) p hp))⟩, x.m.nd⟩, x.new, ?_, ?_, x.nd, x.fr, ?_, x.lenc⟩
  · refine e1_2 x.ns ?_
    rintro mm hns hvs
    refine ⟨_, hn mm hns, fun j z w h1 h2 => ?_⟩
    show ∃ u', (if z = y then some u else mm z) = some u' ∧ VR H w u'
    have h2' : (σ.vars.set i (some v))[j]? = some (some w) := h2
    by_cases e : j = i
    · subst e
      rw [hi] at h1; cases h1
      refine rwl (if_pos rfl) ?_
      rw [List.getElem?_set] at h2'
      rw [if_pos rfl] at h2'
      split at h2'
      · cases h2'; exact ⟨u, rfl, hv⟩
      · cases h2'
    · rw [List.getElem?_set_ne (fun z => e z.symm)] at h2'
      have : z ≠ y := fun q => by
        subst q
        exact e (nodup_idx ok.nd h1 hi)
      refine rwl (if_neg this) ?_
      exact hvs j z w h1 h2'
  · intro j z c w h1 h2
    obtain ⟨q, u', hc, r⟩ := x.cell j z c w h1 h2
    have nd := (List.nodup_append.mp x.nd).1
    have hne : c ≠ F.env.locals := fun q => (List.nodup_cons.mp nd).1 (q ▸ List.mem_map.mpr ⟨(z, c), List.mem_of_getElem? h1, rfl⟩)
    exact ⟨q, u', hc.sameBut sb hne, r⟩
  · show (σ.vars.set i (some v)).length = _
    rw [List.length_set]; exact x.lenv
theorem St.setC {B H : HF} {F : Frm} {σ : S} {h h' : Heap} (ok : F.Ok) (x : St B H F σ h) {i : Nat} {y : Str} {c : Addr} {v : AV} {u : Value} (hi : F.cs[i]? = some (y, c)) (hv : VR H v u)
    (hc : h'.IsCell c (some u)) (sb : Heap.SameBut c h h') : St B H F (σ.setC i v) h' := by
  have nd := (List.nodup_append.mp x.nd).1
  have hm : c ∈ F.own := List.mem_cons_of_mem _ (List.mem_map.mpr ⟨(y, c), List.mem_of_getElem? hi, rfl⟩)
  have hne : F.env.locals ≠ c := fun q => (List.nodup_cons.mp nd).1 (q ▸ List.mem_map.mpr ⟨(y, c), List.mem_of_getElem? hi, rfl⟩)
  have hn := x.own_none c hm
  refine ⟨⟨x.m.base, fun b o e => (sb.2 b (fun z => by rw [z, hn] at e; cases e)).trans (x.m.keep b o e), fun p hp => ⟨(x.m.own p hp).1, (x.m.own p hp).2.at (sb.2 _ (x.own_mu _ hm p hp))⟩, x.m.nd⟩, x.new, ?_, ?_, x.nd, x.fr, x.lenv, ?_⟩
  · refine e1_2 x.ns ?_
    rintro mm hns hvs
    exact ⟨mm, hns.sameBut sb hne, hvs⟩
  · intro j z d w h1 h2
    have h2' : (σ.cells.set i (some v))[j]? = some w := h2
    by_cases e : j = i
    · subst e
      rw [hi] at h1; cases h1
      rw [List.getElem?_set, if_pos rfl] at h2'
      split at h2'
      · cases h2'; exact ⟨hn, some u, hc, fun a ea => by cases ea; exact ⟨u, rfl, hv⟩⟩
      · cases h2'
    · rw [List.getElem?_set_ne (fun z => e z.symm)] at h2'
      obtain ⟨q, u', hc', r⟩ := x.cell j z d w h1 h2'
      have hdc : d ≠ c := fun q => by
        subst q
        have nd2 : (F.cs.map (·.2)).Nodup := (List.nodup_cons.mp nd).2
        exact e (nodup_idx nd2 (x := d) (by rw [List.getElem?_map, h1]; rfl) (by rw [List.getElem?_map, hi]; rfl))
      exact ⟨q, u', hc'.sameBut sb hdc, r⟩
  · show (σ.cells.set i (some v)).length = _
    rw [List.length_set]; exact x.lenc
noncomputable abbrev EvL (K : Cx) (es : List Expr) (p : Pos) (σ : S) (Post : List AV → S → Prop) : Prop := K.T VRs (spliced (backTo p (starEach es K.F.env))) σ Post
noncomputable abbrev Sto (K : Cx) (x : Str) (v : AV) (σ : S) (Post : Unit → S → Prop) : Prop := On K UR [v] (one (storeName K.F.env x)) σ Post

section
variable {K : Cx} {σ : S} {Post : AV → S → Prop} {PF : AF → S → Prop} {PB : Bool → S → Prop} {PU : Unit → S → Prop} {PL : List AV → S → Prop}
theorem evl_nil {p : Pos} (h : PL [] σ) : EvL K [] p σ PL := Tri.leaf (b := []) (fun H s hs Q E hq => PyProof.Rows.spliced_none (hq [] s.toks VRs.nil)) h
theorem evl_cons {e : Expr} {r : List Expr} {p : Pos} (h : Ev K e σ fun v σ1 => EvL K r p σ1 fun vs σ2 => PL (v :: vs) σ2) (he : starEach (e :: r) K.F.env = (false, eval e K.F.env) :: starEach r K.F.env := by rfl) : EvL K (e :: r) p σ PL :=
  fun H s hs Q E hq => PyProof.Rows.spliced_more (h.run hs fun a va H1 σ1 h1 t1 le1 s1 ra hb => hb.run s1 fun b vb H2 σ2 h2 t2 le2 s2 rb hp => hq (a :: b) (va :: vb) H2 σ2 h2 t2 (le1.trans le2) s2 (VRs.cons (ra.mono le2) rb) hp) he
theorem ev_tuple {es : List Expr} {k : Nat} {p : Pos} (h : EvL K es p σ fun vs σ1 => vs.length ≤ sizeLine ∧ Post (.tup vs) σ1) : Ev K (.Tuple es k p) σ Post :=
  fun H s hs Q E hq => PyProof.Rows.Tuple_ (h.run hs fun vs us H1 σ1 h1 t1 le1 s1 rv hp => wpAny_newTuple (by
    refine e0_2 (s1.alloc { cls := .type "tuple", data := .seq us.toArray }) ?_
    rintro le s2
    exact hq (.tup vs) _ _ σ1 _ t1 (le1.trans le) s2 (mk_tup (HF.put_at _ _ _) (by simpa using rv.mono le)) hp.2) (by rw [rv.length]; exact hp.1))
theorem ev_listF {es : List Expr} {p : Pos} (h : EvL K es p σ fun vs σ1 => vs.length ≤ sizeLine ∧ Post (.lst vs) σ1) : Ev K (.List es p) σ Post :=
  fun H s hs Q E hq => PyProof.Rows.List_ (h.run hs fun vs us H1 σ1 h1 t1 le1 s1 rv hp => wpAny_newObj_type (by
    refine e0_2 (s1.alloc { cls := .type "list", data := .seq us.toArray }) ?_
    rintro le s2
    exact hq (.lst vs) _ _ σ1 _ t1 (le1.trans le) s2 (mk_lst (n := 0) (HF.put_at _ _ _) (by simpa using rv.mono le)) hp.2) (by show us.toArray.size ≤ sizeLine; rw [List.size_toArray, rv.length]; exact hp.1))
theorem ev_list {es : List Expr} {p : Pos} (h : EvL K es p σ fun vs σ1 => vs.length ≤ sizeLine ∧ ∀ a, Post (.raw (.ref a)) { σ1 with mu := (a, .list vs) :: σ1.mu }) : Ev K (.List es p) σ Post :=
  fun H s hs Q E hq => PyProof.Rows.List_ (h.run hs fun vs us H1 σ1 h1 t1 le1 s1 rv hp => wpAny_newObj_type (by
    have s2 := s1.make (m := .list vs) { cls := .type "list", data := .seq us.toArray } (fun h' e => ⟨_, 0, e, by simpa using rv⟩)
    exact hq (.raw (.ref _)) _ _ _ _ t1 le1 s2 (mk_raw _) (hp.2 _)) (by show us.toArray.size ≤ sizeLine; rw [List.size_toArray, rv.length]; exact hp.1))

/- stores -/
theorem sto_loc (i : Nat) {x : Str} {v : AV} (hi : K.F.ns[i]? = some x) (h : PU () (σ.setV i v)) : Sto K x v σ PU := fun H s hs vs hv Q E hq => by
  refine e1_2 hv.one ?_
  rintro u rfl ru
  refine e1_2 (id hs.ns) ?_
  rintro m hn _
  have hl := K.ok.loc x (List.mem_of_getElem? hi)
  have hp : (K.F.env.scope.kind == .class || (K.F.env.scope.kind == .module && K.F.env.locals != K.F.env.globals)) = false := by rw [K.ok.kind]; rfl
  show wpAny _ _ (storeName K.F.env x u) _ _ _
  refine rwl (storeName_local hl hp _) ?_
  refine fun Γ p hΓ => ?_
  refine e3_4 (id hn) ?_
  rintro o es ep ho hd hk hm
  refine Sem.wp_nsSet _ Γ _ p s hn x u _ fun h' hn' sb => ?_
  refine hq () () H _ h' _ (.refl _) (hs.setV K.ok hi ru (m := m) (fun m2 hn2 => ?_) sb) trivial h
  refine e3_4 hn2 ?_
  clear hn2
  rintro o2 es2 ep2 ho2 hd2 hk2 hm2
  rw [ho] at ho2; cases ho2
  rw [hd] at hd2; cases hd2
  refine e3_4 hn' ?_
  clear hn'
  rintro o3 es3 ep3 a b c d
  exact i3_4 o3 es3 ep3 a b c (fun name => by rw [d name]; simp only [← hm, hm2])
theorem sto_cell (i : Nat) {x : Str} {c : Addr} {v : AV} (hi : K.F.cs[i]? = some (x, c)) (h : PU () (σ.setC i v)) : Sto K x v σ PU := fun H s hs vs hv Q E hq => by
  refine e1_2 hv.one ?_
  rintro u rfl ru
  have z := K.ok.cell (x, c) (List.mem_of_getElem? hi)
  have hl : i < σ.cells.length := by rw [hs.lenc]; exact (List.getElem?_eq_some_iff.mp hi).1
  obtain ⟨_, u0, hc, _⟩ := hs.cell i x c _ hi (List.getElem?_eq_getElem hl)
  exact wpAny_storeName_cell K.ok.kind z.1 z.2 hc fun h' hc' sb => hq () () H _ h' s.toks (.refl _) (hs.setC K.ok hi ru hc' sb) trivial h

/- statements -/
theorem xs_nil (h : PF .next σ) : Xs K [] σ PF := Tri.leaf (b := .next) (fun H s hs Q E hq => wpAny_execs_nil (hq .next s.toks rfl)) h
noncomputable def then_ (K : Cx) (r : List Stmt) (PF : AF → S → Prop) : AF → S → Prop
  | .next, σ => Xs K r σ PF
  | f, σ => PF f σ
theorem xs_cons {st : Stmt} {r : List Stmt} (h : X K st σ (then_ K r PF)) : Xs K (st :: r) σ PF :=
  fun H s hs Q E hq => wpAny_execs_cons (h.run hs fun f g H1 σ1 h1 t1 le1 s1 rf hp => by
    cases f with
    | next =>
      cases (show g = .next from rf)
      exact (show Xs K r σ1 PF from hp).run s1 fun f2 g2 H2 σ2 h2 t2 le2 s2 rf2 hp2 => hq f2 g2 H2 σ2 h2 t2 (le1.trans le2) s2 rf2 hp2
    | brk => cases (show g = .brk from rf); exact hq .brk _ H1 σ1 h1 t1 le1 s1 rfl hp
    | cont => cases (show g = .cont from rf); exact hq .cont _ H1 σ1 h1 t1 le1 s1 rfl hp
    | ret v => obtain ⟨u, rfl, k⟩ := (show ∃ u, g = .ret u ∧ VR H1 v u from rf); exact hq (.ret v) _ H1 σ1 h1 t1 le1 s1 ⟨u, rfl, k⟩ hp)
theorem x_break {p : Pos} (h : PF .brk σ) : X K (.Break p) σ PF := Tri.leaf (b := .brk) (fun H s hs Q E hq => fun _ _ _ => hq .brk s.toks rfl) h
theorem x_assign {x : Str} {p' p : Pos} {value : Expr} (h : Ev K value σ fun v σ1 => Sto K x v σ1 fun _ σ2 => PF .next σ2) (hs : swapsWith value (some (.Name x p')) p.line K.F.env = pure false := by rfl) : X K (.Assign [.Name x p'] value p) σ PF :=
  fun H s hst Q E hq => wpAny_Assign_Name (h.run hst fun a va H1 σ1 h1 t1 le1 s1 ra hb => hb.at (vs := [va]) s1 (VRs.cons ra VRs.nil) fun _ _ H2 σ2 h2 t2 le2 s2 _ hp => hq .next _ H2 σ2 h2 t2 (le1.trans le2) s2 rfl hp) hs
theorem x_aug {x : Str} {p' p : Pos} {op : Operator} {value : Expr} (h : LdN K x σ fun a σ1 => Ev K value σ1 fun b σ2 => IBin K op a b σ2 fun v σ3 => Sto K x v σ3 fun _ σ4 => PF .next σ4) : X K (.AugAssign (.Name x p') op value p) σ PF :=
  fun H s hst Q E hq => wpAny_AugAssign_Name (h.run hst fun a va H1 σ1 h1 t1 le1 s1 ra hb => hb.run s1 fun b vb H2 σ2 h2 t2 le2 s2 rb ho =>
      ho.at (vs := [va, vb]) s2 (VRs.cons (ra.mono le2) (VRs.cons rb VRs.nil)) fun v u H3 σ3 h3 t3 le3 s3 rv hs => hs.at (vs := [u]) s3 (VRs.cons rv VRs.nil) fun _ _ H4 σ4 h4 t4 le4 s4 _ hp =>
        hq .next _ H4 σ4 h4 t4 (le1.trans (le2.trans (le3.trans le4))) s4 rfl hp)
theorem x_if {t : Expr} {b o : List Stmt} {p : Pos} (h : Tst K t σ fun c σ1 => if c = true then Xs K b σ1 PF else Xs K o σ1 PF) : X K (.If t b o p) σ PF :=
  fun H s hs Q E hq => wpAny_If (h.run hs fun c c' H1 σ1 h1 t1 le1 s1 rc hb => by
    cases rc
    cases c with
    | true => exact (show Xs K b σ1 PF from hb).run s1 fun v u H3 σ3 h3 t3 le3 s3 rv hp => hq v u H3 σ3 h3 t3 (le1.trans le3) s3 rv hp
    | false => exact (show Xs K o σ1 PF from hb).run s1 fun v u H3 σ3 h3 t3 le3 s3 rv hp => hq v u H3 σ3 h3 t3 (le1.trans le3) s3 rv hp)
theorem x_ret {e : Expr} {p : Pos} (h : Ev K e σ fun v σ1 => PF (.ret v) σ1) : X K (.Return (some e) p) σ PF :=
  fun H s hs Q E hq => wpAny_Return_some (h.run hs fun a va H1 σ1 h1 t1 le1 s1 ra hp => hq (.ret a) _ H1 σ1 h1 t1 le1 s1 ⟨va, rfl, ra⟩ hp)
theorem x_ret0 {p : Pos} (h : PF (.ret .none) σ) : X K (.Return none p) σ PF :=
  fun H s hs Q E hq => wpAny_Return_none (hq (.ret .none) _ H σ s.heap s.toks (.refl _) hs ⟨_, rfl, mk_none⟩ h)
theorem x_expr {e : Expr} {p : Pos} (h : Ev K e σ fun v σ1 => PF .next σ1) (hi : interactive K.F.env = false := by rfl) (hs : swapsWith e none p.line K.F.env = pure false := by rfl) : X K (.Expr e p) σ PF :=
  fun H s hst Q E hq => wpAny_Expr_any (h.run hst fun a va H1 σ1 h1 t1 le1 s1 ra hp => hq .next _ H1 σ1 h1 t1 le1 s1 rfl hp) hi hs
end
noncomputable def BindR (H : HF) : List (Str × AV) → List (Str × Value) → Prop
  | [], bs => bs = []
  | (x, a) :: as, bs => ∃ u us, bs = (x, u) :: us ∧ VR H a u ∧ BindR H as us
theorem BindR.nil {H : HF} : BindR H [] [] := rfl
theorem BindR.cons {H : HF} {x : Str} {a : AV} {u : Value} {as : List (Str × AV)} {us : List (Str × Value)} (h : VR H a u) (t : BindR H as us) : BindR H ((x, a) :: as) ((x, u) :: us) := ⟨u, us, rfl, h, t⟩
theorem BindR.names {H : HF} : ∀ {as : List (Str × AV)} {bs : List (Str × Value)}, BindR H as bs → bs.map (·.1) = as.map (·.1)
  | [], _, h => by rw [show _ = [] from h]; rfl
  | (x, a) :: as, _, h => by
    refine e2_3 h ?_
    clear h
    rintro u us rfl _ t
    simp [BindR.names t]
theorem BindR.mem {H : HF} : ∀ {as : List (Str × AV)} {bs : List (Str × Value)}, BindR H as bs → ∀ {x : Str} {v : AV}, as.lookup x = some v → ∃ u, (x, u) ∈ bs ∧ VR H v u
  | [], _, _, _, _, e => by simp at e
  | (y, a) :: as, _, h, x, v, e => by
    refine e2_3 h ?_
    clear h
    rintro u us rfl k t
    rw [List.lookup_cons] at e
    cases hb : x == y with
    | true =>
      rw [hb] at e
      cases e
      refine rwl (beq_iff_eq.mp hb) ?_
      exact ⟨u, List.mem_cons_self, k⟩
    | false =>
      rw [hb] at e
      refine e1_2 (BindR.mem t e) ?_
      rintro u' hm k'
      exact ⟨u', List.mem_cons_of_mem _ hm, k'⟩
theorem bindL_out {k : Str → Option NameKind} : ∀ (bs : List (Str × Value)) (m : Str → Option Value) (x : Str), (∀ u, (x, u) ∉ bs) → bindL k bs m x = m x
  | [], m, x, _ => rfl
  | (y, v) :: r, m, x, h => by
    unfold bindL
    refine rwl (bindL_out r _ x fun u hu => h u (List.mem_cons_of_mem _ hu)) ?_
    have hxy : x ≠ y := fun e => h v (by rw [e]; exact List.mem_cons_self)
    split
    · show (if x = y then some v else m x) = m x
      rw [if_neg hxy]
    · rfl
theorem bindC_out {k : Str → Option NameKind} : ∀ (bs : List (Str × Value)) (m : Str → Option Value) (x : Str), (∀ u, (x, u) ∉ bs) → bindC k bs m x = m x
  | [], m, x, _ => rfl
  | (y, v) :: r, m, x, h => by
    unfold bindC
    refine rwl (bindC_out r _ x fun u hu => h u (List.mem_cons_of_mem _ hu)) ?_
    have hxy : x ≠ y := fun e => h v (by rw [e]; exact List.mem_cons_self)
    split
    · rfl
    · show (if x = y then some v else m x) = m x
      rw [if_neg hxy]
theorem bindL_in {k : Str → Option NameKind} : ∀ (bs : List (Str × Value)) (m : Str → Option Value) {x : Str} {u : Value}, (bs.map (·.1)).Nodup → k x = some .local → (x, u) ∈ bs → bindL k bs m x = some u
  | [], m, x, u, _, _, h => by cases h
  | (y, v) :: r, m, x, u, nd, hk, h => by
    rw [List.map_cons] at nd
    refine e0_2 (List.nodup_cons.mp nd) ?_
    rintro n1 n2
    unfold bindL
    rcases List.mem_cons.mp h with e | h
    · refine e0_2 (Prod.mk.inj e) ?_
      rintro e1 e2
      subst e1; subst e2
      rw [bindL_out r _ _ fun u hu => n1 (List.mem_map.mpr ⟨_, hu, rfl⟩), if_pos hk]
      exact if_pos rfl
    · exact bindL_in r _ n2 hk h
theorem bindC_in {k : Str → Option NameKind} : ∀ (bs : List (Str × Value)) (m : Str → Option Value) {x : Str} {u : Value}, (bs.map (·.1)).Nodup → k x ≠ some .local → (x, u) ∈ bs → bindC k bs m x = some u
  | [], m, x, u, _, _, h => by cases h
  | (y, v) :: r, m, x, u, nd, hk, h => by
    rw [List.map_cons] at nd
    refine e0_2 (List.nodup_cons.mp nd) ?_
    rintro n1 n2
    unfold bindC
    rcases List.mem_cons.mp h with e | h
    · refine e0_2 (Prod.mk.inj e) ?_
      rintro e1 e2
      subst e1; subst e2
      rw [bindC_out r _ _ fun u hu => n1 (List.mem_map.mpr ⟨_, hu, rfl⟩), if_neg hk]
      exact if_pos rfl
    · exact bindC_in r _ n2 hk h

/- the cells' list -/
theorem cellsFrom_mem : ∀ (names : List (Str × NameKind)) (n : Nat) (acc : List (Str × Addr)) (p : Str × Addr), p ∈ cellsFrom n names acc → p ∈ acc ∨ (p.1, NameKind.cell) ∈ names
  | [], n, acc, p, h => .inl h
  | (x, k) :: r, n, acc, p, h => by
    unfold cellsFrom at h
    split at h
    · rename_i hk
      rcases cellsFrom_mem r _ _ p h with q | q
      · rcases List.mem_cons.mp q with rfl | q
        · exact .inr (by rw [beq_iff_eq.mp hk]; exact List.mem_cons_self)
        · exact .inl q
      · exact .inr (List.mem_cons_of_mem _ q)
    · rcases cellsFrom_mem r _ _ p h with q | q
      · exact .inl q
      · exact .inr (List.mem_cons_of_mem _ q)
theorem cellsFrom_nd : ∀ (names : List (Str × NameKind)) (n : Nat) (acc : List (Str × Addr)), (acc.map (·.1) ++ names.map (·.1)).Nodup → ((cellsFrom n names acc).map (·.1)).Nodup
  | [], n, acc, h => by unfold cellsFrom; simpa using h
  | (x, k) :: r, n, acc, h => by
    unfold cellsFrom
    have h' : (acc.map (·.1) ++ x :: r.map (·.1)).Nodup := by simpa using h
    split
    · refine cellsFrom_nd r _ _ ?_
      show (x :: acc.map (·.1) ++ r.map (·.1)).Nodup
      exact (List.perm_middle.nodup_iff).mp h'
    · refine cellsFrom_nd r _ _ ?_
      exact (List.nodup_cons.mp ((List.perm_middle.nodup_iff).mp h')).2
theorem lookup_mem {α : Type} : ∀ {l : List (Str × α)} {p : Str × α}, (l.map (·.1)).Nodup → p ∈ l → l.lookup p.1 = some p.2
  | [], p, _, h => by cases h
  | q :: r, p, nd, h => by
    rw [List.map_cons] at nd
    obtain ⟨n1, n2⟩ := List.nodup_cons.mp nd
    obtain ⟨x, v⟩ := q
    refine rwl List.lookup_cons ?_
    rcases List.mem_cons.mp h with rfl | h
    · simp
    · have : (p.1 == x) = false := by
        rw [beq_eq_false_iff_ne]
        exact fun e => n1 (List.mem_map.mpr ⟨p, h, e⟩)
      refine rwl this ?_
      exact lookup_mem n2 h

theorem Frm.ok_of {F : Frm} {sc : Scope} {L : Addr} (hs : F.env.scope = sc) (hk : sc.kind = .function) (hnd : (sc.names.map (·.1)).Nodup)
    (hl : ∀ x ∈ F.ns, sc.names.lookup x = some .local) (hn : F.ns.Nodup) (hc : F.cs = cellsFrom (L + 1) sc.names []) (he : F.env.cells = F.cs) (hf : F.fr = [])
    (hg : F.env.globals = mainGlobals) (hb : F.env.builtins = builtinsNs) : F.Ok := by
  have cnd : (F.cs.map (·.1)).Nodup := by rw [hc]; exact cellsFrom_nd _ _ _ (by simpa using hnd)
  refine ⟨by rw [hs]; exact hk, fun x hx => by unfold Env.kindOf; rw [hs]; exact hl x hx, hn, fun p hp => ⟨?_, ?_⟩, cnd, fun p hp => (by rw [hf] at hp; cases hp), hg, hb⟩
  · unfold Env.kindOf
    refine rwl hs ?_
    rw [hc] at hp
    rcases cellsFrom_mem _ _ _ _ hp with q | q
    · cases q
    · exact lookup_mem (p := (p.1, NameKind.cell)) hnd q
  · rw [he]; exact lookup_mem cnd hp

noncomputable def Con (prog : Program) (w : World) (B : HF) (n : Nat) (f : Value) (as : List AV) (kw : List (Str × AV)) (mu : Mu) (Post : AV → Mu → Prop) : Prop :=
  ∀ A, Fit A n → ∀ H s, StM B H mu s.heap → ∀ vs, VRs H as vs → ∀ ks, VRs H (kw.map (·.2)) ks → ∀ (Q : Value → Shared → Prop) (E : Value → Shared → Prop),
    (∀ b a H' mu' h' tk, HF.le H H' → StM B H' mu' h' → VR H' b a → Post b mu' → Q a { s with heap := h', toks := tk }) → wpAny (model prog w) A (PySem.call f vs ((kw.map (·.1)).zip ks)) Q E s

theorem Fit.deeper {A : Around} {n : Nat} (x : Fit A (n + 1)) (env : Env) : Fit (A.deeper env) n :=
  ⟨x.hd, by have := x.dp; show A.depth + 1 + n + 1 < _; lia, by have := x.un; show A.units + 3 + 8 * n + 40 < _; lia⟩
theorem Fit.mono {A : Around} {n m : Nat} (x : Fit A n) (h : m ≤ n) : Fit A m := ⟨x.hd, by have := x.dp; lia, by have := x.un; lia⟩
theorem Con.mono {prog : Program} {w : World} {B : HF} {n : Nat} {f : Value} {as : List AV} {kw : List (Str × AV)} {mu : Mu} {Post Post' : AV → Mu → Prop} (h : Con prog w B n f as kw mu Post) (k : ∀ v m, Post v m → Post' v m) : Con prog w B n f as kw mu Post' :=
  fun A fit H s hs vs hv ks hk Q E hq => h A fit H s hs vs hv ks hk Q E fun b a H' mu' h' tk le x r p => hq b a H' mu' h' tk le x r (k _ _ p)
theorem Con.le {prog : Program} {w : World} {B : HF} {n m : Nat} {f : Value} {as : List AV} {kw : List (Str × AV)} {mu : Mu} {Post : AV → Mu → Prop} (h : Con prog w B n f as kw mu Post) (k : n ≤ m) : Con prog w B m f as kw mu Post :=
  fun A fit => h A (fit.mono k)

noncomputable def Binds (prog : Program) (w : World) (B : HF) (fd : FuncData) (as : List AV) (kw : List (Str × AV)) (mu : Mu) (ab : List (Str × AV)) (mu1 : Mu) : Prop :=
  ∀ A H s, StM B H mu s.heap → ∀ vs, VRs H as vs → ∀ ks, VRs H (kw.map (·.2)) ks → ∀ (Q : List (Str × Value) → Shared → Prop) (E : Value → Shared → Prop),
    (∀ bs H' h' tk, HF.le H H' → StM B H' mu1 h' → BindR H' ab bs → Q bs { s with heap := h', toks := tk }) → wpAny (model prog w) A (bindArgs fd ⟨vs, (kw.map (·.1)).zip ks⟩) Q E s

noncomputable def AF.val : AF → AV
  | .ret v => v
  | _ => .none

noncomputable def callF (fd : FuncData) (ns : List Str) (a L : Addr) : Frm := { env := callEnvC fd L a, ns := ns, cs := cellsFrom (L + 1) fd.scope.names [], fr := [] }
noncomputable def callS (fd : FuncData) (ns : List Str) (ab : List (Str × AV)) (mu : Mu) : S :=
  { vars := ns.map (fun x => ab.lookup x), cells := (cellsFrom 0 fd.scope.names []).map fun p => ab.lookup p.1, mu := mu }
theorem cellsFrom_names : ∀ (names : List (Str × NameKind)) (n m : Nat) (acc acc' : List (Str × Addr)), acc.map (·.1) = acc'.map (·.1) → (cellsFrom n names acc).map (·.1) = (cellsFrom m names acc').map (·.1)
  | [], n, m, acc, acc', h => h
  | (x, k) :: r, n, m, acc, acc', h => by
    unfold cellsFrom
    split
    · exact cellsFrom_names r _ _ _ _ (by simp [h])
    · exact cellsFrom_names r _ _ _ _ h

structure FnOk (fd : FuncData) (ns : List Str) : Prop where
  co : fd.scope.isCoroutine = false
  gen : fd.scope.isGenerator = false
  kind : fd.scope.kind = .function
  nd : (fd.scope.names.map (·.1)).Nodup
  loc : ∀ x ∈ ns, fd.scope.names.lookup x = some .local
  ns : ns.Nodup
  clo : fd.closure = []
  glob : fd.globals = mainGlobals
  blt : fd.builtins = builtinsNs

theorem FnOk.frm {fd : FuncData} {ns : List Str} (x : FnOk fd ns) (a L : Addr) : (callF fd ns a L).Ok :=
  Frm.ok_of (F := callF fd ns a L) (sc := fd.scope) (L := L) rfl x.kind x.nd x.loc x.ns rfl rfl rfl x.glob x.blt

noncomputable def HasCode (B : HF) (code : Value) (qual : Str) : Prop := ∀ h : Heap, Sub B h → h.CodeRec code qual

theorem St.enter {B H : HF} {mu : Mu} {s s' : Shared} {fd : FuncData} {ns : List Str} {a : Addr} {ab : List (Str × AV)} {bs : List (Str × Value)} (ok : FnOk fd ns) (x : StM B H mu s.heap) (hb : BindR H ab bs) (hnd : (ab.map (·.1)).Nodup)
    (hk : ∀ p ∈ ab, fd.scope.names.lookup p.1 = some .local ∨ fd.scope.names.lookup p.1 = some .cell)
    (hc : InCallC s (callEnvC fd s.heap.objs.size a).locals (bindL (callEnvC fd s.heap.objs.size a).kindOf bs fun _ => none) (callEnvC fd s.heap.objs.size a).cells (bindC (callEnvC fd s.heap.objs.size a).kindOf bs fun _ => none) s') :
    St B H (callF fd ns a s.heap.objs.size) (callS fd ns ab mu) s'.heap := by
  have fresh : ∀ b, s.heap.objs.size ≤ b → H b = none := fun b hb => by
    cases e : H b with
    | none => rfl
    | some o => exact absurd (Heap.lt_size (x.keep b o e)) (Nat.not_lt.mpr hb)
  have bnd : (bs.map (·.1)).Nodup := by rw [hb.names]; exact hnd
  have okF := ok.frm a s.heap.objs.size
  have old : ∀ p ∈ mu, p.1 < s.heap.objs.size := fun p hp => by
    refine e1_1 ((x.own p hp).2.get) ?_
    rintro o e
    exact Heap.lt_size e
  have mem : ∀ p ∈ (callF fd ns a s.heap.objs.size).cs, s.heap.objs.size < p.2 := fun p hp => hc.above p.1 p.2 hp
  refine ⟨⟨x.base, fun b o e => hc.toInCall.keep b o (x.keep b o e), fun p hp => ⟨(x.own p hp).1, ?_⟩, x.nd⟩, fresh _ (Nat.le_refl _), ⟨_, hc.toInCall.ns, fun i y v h1 h2 => ?_⟩, fun i y c v h1 h2 => ?_, ?_, fun p hp => (by cases hp), ?_, ?_⟩
  · refine e1_1 ((x.own p hp).2.get) ?_
    rintro o e
    exact (x.own p hp).2.at (by rw [e]; exact hc.toInCall.keep _ _ e)
  · have h2' : (ns.map fun x => ab.lookup x)[i]? = some (some v) := h2
    have h1' : ns[i]? = some y := h1
    rw [List.getElem?_map, h1'] at h2'
    have h3 : ab.lookup y = some v := by simpa using h2'
    refine e1_2 (hb.mem h3) ?_
    rintro u hm k
    exact ⟨u, bindL_in bs _ bnd (okF.loc y (List.mem_of_getElem? h1)) hm, k⟩
  · have hm := List.mem_of_getElem? h1
    have z := okF.cell _ hm
    refine ⟨fresh c (Nat.le_of_lt (mem _ hm)), _, hc.cell y c z.2, fun w e => ?_⟩
    subst e
    have h2' : ((cellsFrom 0 fd.scope.names []).map fun p => ab.lookup p.1)[i]? = some (some w) := h2
    have e1 : ((cellsFrom 0 fd.scope.names []).map (·.1))[i]? = some y := by
      refine rwl (cellsFrom_names fd.scope.names 0 (s.heap.objs.size + 1) [] [] rfl) ?_
      have h1' : (cellsFrom (s.heap.objs.size + 1) fd.scope.names [])[i]? = some (y, c) := h1
      rw [List.getElem?_map, h1']; rfl
    have h3 : ab.lookup y = some w := by
      rw [List.getElem?_map] at h2' e1
      cases e2 : (cellsFrom 0 fd.scope.names [])[i]? with
      | none => rw [e2] at h2'; cases h2'
      | some q =>
        rw [e2] at h2' e1
        have e3 : q.1 = y := by simpa using e1
        have e4 : ab.lookup q.1 = some w := by simpa using h2'
        rw [e3] at e4; exact e4
    refine e1_2 (hb.mem h3) ?_
    rintro u hm' k
    exact ⟨u, bindC_in bs _ bnd (fun q => by have := z.1.symm.trans q; cases this) hm', k⟩
  · refine List.nodup_append.mpr ⟨?_, x.nd, fun b hb c hc' e => ?_⟩
    · refine List.nodup_cons.mpr ⟨fun hm => ?_, ?_⟩
      · refine e1_2 (List.mem_map.mp hm) ?_
        rintro p hp e
        exact Nat.lt_irrefl _ (e ▸ mem p hp)
      · exact List.pairwise_map.mpr hc.apart
    · refine e1_2 (List.mem_map.mp hc') ?_
      rintro p hp rfl
      have hlt := old p hp
      rcases List.mem_cons.mp hb with rfl | hb
      · rw [← e] at hlt; exact Nat.lt_irrefl _ hlt
      · refine e1_2 (List.mem_map.mp hb) ?_
        rintro q hq rfl
        have := mem q hq
        have e' : q.2 = p.1 := e
        exact Nat.lt_irrefl _ (Nat.lt_trans this (e' ▸ hlt))
  · simp [callS, callF]
  · have e := congrArg List.length (cellsFrom_names fd.scope.names 0 (s.heap.objs.size + 1) [] [] rfl)
    simp only [List.length_map] at e
    simpa [callS, callF] using e

noncomputable def BindsD (prog : Program) (w : World) (B : HF) (fd : FuncData) (as : List AV) (kw : List (Str × AV)) (mu : Mu) (ab : Addr → List (Str × AV)) (mu1 : Addr → Mu) : Prop :=
  ∀ A H s, StM B H mu s.heap → ∀ vs, VRs H as vs → ∀ ks, VRs H (kw.map (·.2)) ks → ∀ (Q : List (Str × Value) → Shared → Prop) (E : Value → Shared → Prop),
    (∀ d bs H' h' tk, HF.le H H' → StM B H' (mu1 d) h' → BindR H' (ab d) bs → Q bs { s with heap := h', toks := tk }) → wpAny (model prog w) A (bindArgs fd ⟨vs, (kw.map (·.1)).zip ks⟩) Q E s

theorem Con.of_defD {prog : Program} {w : World} {B : HF} {mg mb : Str → Option Value} (gr : Gr B mg mb) {n : Nat} {a : Addr} {o : Obj} {fd : FuncData} {body : List Stmt} {ns : List Str} {as : List AV} {kw : List (Str × AV)} {mu : Mu} {mu1 : Addr → Mu} {ab : Addr → List (Str × AV)} {Post : AV → Mu → Prop}
    (ho : B a = some o) (hd : o.data = .func fd) (hcd : HasCode B fd.code fd.qualname) (hbody : fd.body = .stmts body) (ok : FnOk fd ns)
    (hbind : BindsD prog w B fd as kw mu ab mu1) (hnd : ∀ d, ((ab d).map (·.1)).Nodup) (hk : ∀ d, ∀ p ∈ ab d, fd.scope.names.lookup p.1 = some .local ∨ fd.scope.names.lookup p.1 = some .cell)
    (h : ∀ d A (fit : Fit A n) L, Xs { prog := prog, w := w, A := A, B := B, F := callF fd ns a L, ok := ok.frm a L, mg := mg, mb := mb, gr := gr, n := n, fit := fit } body (callS fd ns (ab d) (mu1 d)) fun f σ => Post f.val σ.mu) :
    Con prog w B (n + 1) (.ref a) as kw mu Post := by
  intro A fit H s hs vs hv ks hks Q E hq
  have sub : Sub B s.heap := fun b o e => hs.keep b o (hs.base b o e)
  refine wpAny_call ?_
  refine codeAny_call_function (by have := fit.dp; lia) (sub a o ho) hd ok.co ok.gen hbody (hcd _ sub) ?_
  refine hbind _ H s hs vs hv ks hks _ _ fun d bs H1 h1 t1 le1 s1 rb => ?_
  refine rwl ok.clo ?_
  have sub1 : Sub B h1 := fun b o e => s1.keep b o (s1.base b o e)
  refine wpAny_newFunctionEnv_cells ok.kind (fun p hp => ?_) fun env he s' x => ?_
  · have hn : p.1 ∈ bs.map (·.1) := List.mem_map.mpr ⟨_, hp, rfl⟩
    rw [rb.names] at hn
    refine e1_2 (List.mem_map.mp hn) ?_
    rintro q hq' e
    rcases hk d q hq' with k | k
    · exact .inl (e ▸ k)
    · refine .inr ⟨e ▸ k, ?_⟩
      have hin : ∀ (names : List (Str × NameKind)) (n : Nat) (acc : List (Str × Addr)) (x : Str), ((acc.lookup x).isSome = true ∨ (x, NameKind.cell) ∈ names) → ((cellsFrom n names acc).lookup x).isSome = true := by
        intro names
        induction names with
        | nil => intro n acc x h; rcases h with h | h
                 · exact h
                 · cases h
        | cons y r ih =>
          intro n acc x h
          obtain ⟨y, k⟩ := y
          unfold cellsFrom
          split
          · rename_i hk'
            refine ih _ _ _ ?_
            rcases h with h | h
            · refine .inl ?_
              refine rwl List.lookup_cons ?_
              cases x == y
              · exact h
              · rfl
            · rcases List.mem_cons.mp h with e | h
              · cases e
                exact .inl (by simp)
              · exact .inr h
          · rename_i hk'
            refine ih _ _ _ ?_
            rcases h with h | h
            · exact .inl h
            · rcases List.mem_cons.mp h with e | h
              · cases e; simp at hk'
              · exact .inr h
      exact hin _ _ _ _ (.inr (by rw [← e]; exact mem_of_lookup k))
  · subst he
    have st := St.enter (s := { s with heap := h1, toks := t1 }) (a := a) ok s1 rb (hnd d) (hk d) x
    refine e2_1 x.toInCall.same ?_
    rintro h2 t2 e2
    subst e2
    have sub2 : Sub B h2 := fun b o e => st.m.keep b o (st.m.base b o e)
    refine ⟨gr.lim _ sub2, codeAny_func ?_⟩
    refine (h d (A.deeper _) (fit.deeper _) h1.objs.size).run st fun f g H3 σ3 h3 t3 le3 s3 rf hp => ?_
    cases f with
    | ret v =>
      refine e1_2 (show ∃ u, g = .ret u ∧ VR H3 v u from rf) ?_
      rintro u rfl k
      exact hq v u H3 σ3.mu h3 t3 (le1.trans le3) s3.m k hp
    | next => cases (show g = .next from rf); exact hq .none .none H3 σ3.mu h3 t3 (le1.trans le3) s3.m mk_none hp
    | brk => cases (show g = .brk from rf); exact hq .none .none H3 σ3.mu h3 t3 (le1.trans le3) s3.m mk_none hp
    | cont => cases (show g = .cont from rf); exact hq .none .none H3 σ3.mu h3 t3 (le1.trans le3) s3.m mk_none hp

theorem Con.of_def {prog : Program} {w : World} {B : HF} {mg mb : Str → Option Value} (gr : Gr B mg mb) {n : Nat} {a : Addr} {o : Obj} {fd : FuncData} {body : List Stmt} {ns : List Str} {as : List AV} {kw : List (Str × AV)} {mu mu1 : Mu} {ab : List (Str × AV)} {Post : AV → Mu → Prop}
    (ho : B a = some o) (hd : o.data = .func fd) (hcd : HasCode B fd.code fd.qualname) (hbody : fd.body = .stmts body) (ok : FnOk fd ns)
    (hbind : Binds prog w B fd as kw mu ab mu1) (hnd : (ab.map (·.1)).Nodup) (hk : ∀ p ∈ ab, fd.scope.names.lookup p.1 = some .local ∨ fd.scope.names.lookup p.1 = some .cell)
    (h : ∀ A (fit : Fit A n) L, Xs { prog := prog, w := w, A := A, B := B, F := callF fd ns a L, ok := ok.frm a L, mg := mg, mb := mb, gr := gr, n := n, fit := fit } body (callS fd ns ab mu1) fun f σ => Post f.val σ.mu) :
    Con prog w B (n + 1) (.ref a) as kw mu Post :=
  Con.of_defD (ab := fun _ => ab) (mu1 := fun _ => mu1) gr ho hd hcd hbody ok (fun A H s hs vs hv ks hk' Q E hq => hbind A H s hs vs hv ks hk' Q E fun bs H' h' tk le x r => hq 0 bs H' h' tk le x r) (fun _ => hnd) (fun _ => hk) fun _ => h
noncomputable abbrev CallK (K : Cx) (f : Value) (as : List AV) (σ : S) (Post : AV → S → Prop) : Prop := On K VR as (fun vs => PySem.call f vs []) σ Post
noncomputable def HasT (K : Cx) (v : AV) (T : String) (σ : S) : Prop := ∀ (H : HF) (s : Shared), K.St H K.F σ s.heap → ∀ u, VR H v u → s.TypeIs u T ∧ (∀ a, u = .ref a → ∃ ob, s.heap.get? a = some ob ∧ ob.dict = none)

theorem Con.callK {K : Cx} {m : Nat} {f : Value} {as : List AV} {σ : S} {Post : AV → S → Prop} (h : Con K.prog K.w K.B m f as [] σ.mu fun v mu' => Post v { σ with mu := mu' }) (hm : m ≤ K.n) : CallK K f as σ Post := by
  intro H s hs vs hv Q E hq
  have hs' : StM K.B (H.plus K.F.own s.heap) σ.mu s.heap := St.hide hs
  refine h K.A (K.fit.mono hm) _ s hs' vs (hv.mono (HF.le_plus hs.own_none)) [] VRs.nil Q E fun b a H' mu' h' tk le x r p => ?_
  refine e0_4 (St.back hs le x) ?_
  rintro l1 s1 v1 _
  exact hq b a _ _ h' tk l1 s1 (v1 _ _ r) p

section
variable {M : Model} {A : Around} {E : Value → Shared → Prop} {s : Shared}
theorem evalArgs_any {f : Value} {l : List (Bool × Sem Value)} {Q : Args → Shared → Prop} (hl : l.all (fun x => !x.1) = true)
    (h : wpAny M A (spliced l) (fun vs s' => Q ⟨vs, []⟩ s') E s) : wpAny M A (evalArgs f true l []) Q E s := by
  cases l with
  | nil =>
    unfold evalArgs
    show wpAny M A (spliced [] >>= _) Q E s
    refine wpAny_bind (wpAny_mono h (fun vs s' h' => ?_) fun _ _ x => x)
    refine wpAny_bind (wpAny_pure ?_)
    refine wpAny_holding ?_
    exact wpAny_bind (wpAny_pure (wpAny_bind (wpAny_pure (wpAny_pure h'))))
  | cons x r =>
    obtain ⟨b, t⟩ := x
    cases b with
    | true => simp at hl
    | false => exact Calls.evalArgs_plain h
end
theorem all_any {l : List (Bool × Sem Value)} (hl : l.all (fun x => !x.1) = true) : l.any (·.1) = false := by
  rw [List.any_eq_false]
  intro x hx e
  have := List.all_eq_true.mp hl x hx
  rw [e] at this
  cases this

section
variable {K : Cx} {σ : S} {Post : AV → S → Prop}
theorem ev_callF {f : Str} {pf pos : Pos} {args : List Expr} {a : Addr} {o : Obj} {fd : FuncData} (hB : K.B a = some o) (ho : o.data = .func fd)
    (h : Ev K (.Name f pf) σ fun fv σ1 => fv = .raw (.ref a) ∧ EvL K args pos σ1 fun vs σ2 => CallK K (.ref a) vs σ2 Post) (hl : (backTo pos (starEach args K.F.env)).all (fun x => !x.1) = true := by rfl) :
    Ev K (.Call (.Name f pf) args [] pos) σ Post :=
  fun H s hs Q E hq => wpAny_Call_Name_kw (h.run hs fun fv u H1 σ1 h1 t1 le1 s1 ra hb => by
    obtain ⟨rfl, hb⟩ := hb
    cases vr_raw ra
    refine Calls.callWith_function (o := o) (fd := fd) (evalArgs_any hl (hb.run s1 fun vs us H2 σ2 h2 t2 le2 s2 rv ho' => ⟨⟨s2.m.keep a o (s2.m.base a o hB), ho⟩, ?_⟩))
    exact ho'.at (vs := us) s2 rv fun v u H3 σ3 h3 t3 le3 s3 rv hp => hq v u H3 σ3 h3 t3 (le1.trans (le2.trans le3)) s3 rv hp)
theorem ev_callB {f : Str} {pf pos : Pos} {args : List Expr} {id : String}
    (h : Ev K (.Name f pf) σ fun fv σ1 => fv = .raw (.builtin id) ∧ EvL K args pos σ1 fun vs σ2 => CallK K (.builtin id) vs σ2 Post) (hl : (backTo pos (starEach args K.F.env)).all (fun x => !x.1) = true := by rfl) :
    Ev K (.Call (.Name f pf) args [] pos) σ Post :=
  fun H s hs Q E hq => wpAny_Call_Name_kw (h.run hs fun fv u H1 σ1 h1 t1 le1 s1 ra hb => by
    obtain ⟨rfl, hb⟩ := hb
    cases vr_raw ra
    refine Calls.callWith_builtin (all_any hl) (evalArgs_any hl (hb.run s1 fun vs us H2 σ2 h2 t2 le2 s2 rv ho' => ?_))
    exact ho'.at (vs := us) s2 rv fun v u H3 σ3 h3 t3 le3 s3 rv hp => hq v u H3 σ3 h3 t3 (le1.trans (le2.trans le3)) s3 rv hp)
theorem ev_callT {f : Str} {pf pos : Pos} {args : List Expr} {T : String}
    (h : Ev K (.Name f pf) σ fun fv σ1 => fv = .raw (.type T) ∧ EvL K args pos σ1 fun vs σ2 => CallK K (.type T) vs σ2 Post) (hl : (backTo pos (starEach args K.F.env)).all (fun x => !x.1) = true := by rfl) :
    Ev K (.Call (.Name f pf) args [] pos) σ Post :=
  fun H s hs Q E hq => wpAny_Call_Name_kw (h.run hs fun fv u H1 σ1 h1 t1 le1 s1 ra hb => by
    obtain ⟨rfl, hb⟩ := hb
    cases vr_raw ra
    refine callWith_type (all_any hl) (evalArgs_any hl (hb.run s1 fun vs us H2 σ2 h2 t2 le2 s2 rv ho' => ?_))
    exact ho'.at (vs := us) s2 rv fun v u H3 σ3 h3 t3 le3 s3 rv hp => hq v u H3 σ3 h3 t3 (le1.trans (le2.trans le3)) s3 rv hp)
theorem ev_meth {o : Expr} {name : Str} {apos pos : Pos} {args : List Expr} {T id : String} (pa : PlainAttrs T) (slot : Slot T name id) (hty : typeOf (.builtin id) = pure (.type "method_descriptor"))
    (h : Ev K o σ fun ov σ1 => HasT K ov T σ1 ∧ EvL K args pos σ1 fun vs σ2 => CallK K (.builtin id) (ov :: vs) σ2 Post)
    (hbase : attributeBase o name K.F.env (eval o K.F.env) = eval o K.F.env := by rfl)
    (hfew : ((backTo pos (starEach args K.F.env)).all (fun x => !x.1) && (backToKw pos (keywordEach [] K.F.env)).all (fun x => x.1.isSome)
      && decide (args.length + ([] : List Keyword).length + (if ([] : List Keyword).isEmpty then 0 else 1) < 30)) = true := by rfl)
    (hline : (apos.endLine == pos.line) = true := by rfl) :
    Ev K (.Call (.Attribute o name apos) args [] pos) σ Post :=
  fun H s hs Q E hq => wpAny_Call_method hbase hfew hline pa slot hty (h.run hs fun ov u H1 σ1 h1 t1 le1 s1 ra hb => by
    refine e0_2 hb ?_
    clear hb
    rintro hT hb
    have hl : (backTo pos (starEach args K.F.env)).all (fun x => !x.1) = true := by
      simp only [Bool.and_eq_true] at hfew
      exact hfew.1.1
    have := hT H1 { s with heap := h1, toks := t1 } s1 u ra
    refine ⟨this.1, this.2, Calls.callWith_builtin (all_any hl) (evalArgs_any hl (hb.run s1 fun vs us H2 σ2 h2 t2 le2 s2 rv ho' => ?_))⟩
    exact ho'.at (vs := u :: us) s2 (VRs.cons (ra.mono le2) rv) fun v u H3 σ3 h3 t3 le3 s3 rv hp => hq v u H3 σ3 h3 t3 (le1.trans (le2.trans le3)) s3 rv hp)

/- types of values -/
theorem hasT_str {x : Str} {σ : S} : HasT K (.str x) "str" σ := fun H s hs u hu => by
  refine e1_1 (vr_str hu) ?_
  rintro t rfl
  exact ⟨rfl, fun a e => by cases e⟩
theorem hasT_int {x : Int} {σ : S} : HasT K (.int x) "int" σ := fun H s hs u hu => by
  refine e1_1 (vr_int hu) ?_
  rintro t rfl
  exact ⟨rfl, fun a e => by cases e⟩
theorem hasT_lst {x : List AV} {σ : S} : HasT K (.lst x) "list" σ := fun H s hs u hu => by
  refine e3_3 (vr_lst hu) ?_
  rintro a ws n rfl ha _
  have := hs.m.keep _ _ ha
  exact ⟨⟨_, this, rfl⟩, fun b e => by cases e; exact ⟨_, this, rfl⟩⟩
theorem mu_at {H : HF} {h : Heap} (hs : K.St H K.F σ h) {a : Addr} {m : MO} (hm : (a, m) ∈ σ.mu) : m.sat H a h := (hs.m.own _ hm).2
theorem hasT_mu {a : Addr} {vs : List AV} {σ : S} (hm : (a, .list vs) ∈ σ.mu) : HasT K (.raw (.ref a)) "list" σ := fun H s hs u hu => by
  cases vr_raw hu
  refine e2_2 (mu_at hs hm) ?_
  rintro ws n e _
  exact ⟨⟨_, e, rfl⟩, fun b q => by cases q; exact ⟨_, e, rfl⟩⟩

theorem callK_leaf {f : Value} {as : List AV} {b : AV} (h : ∀ (H : HF) (s : Shared), K.St H K.F σ s.heap → ∀ vs, VRs H as vs → ∀ (Q : Value → Shared → Prop) (E : Value → Shared → Prop), (∀ a tk, VR H b a → Q a { s with toks := tk }) → wpAny (model K.prog K.w) K.A (PySem.call f vs []) Q E s) (p : Post b σ) : CallK K f as σ Post :=
  fun H s hs vs hv Q E hq => h H s hs vs hv Q E fun a tk r => hq b a H σ s.heap tk (.refl _) hs r p
end

section
variable {K : Cx} {σ : S} {Post : AV → S → Prop}
open PySem.P PyProof.Rows
theorem c_len_lst {vs : List AV} (hn : vs.length < 2 ^ 62) (h : Post (.int vs.length) σ) : CallK K (.builtin "len") [.lst vs] σ Post :=
  callK_leaf (fun H s hs us hu Q E hq => by
    refine e1_2 hu.one ?_
    rintro u rfl hu'
    refine e3_3 (vr_lst hu') ?_
    rintro a ws n rfl ha hv
    have e := hv.length
    have e' : ws.size = vs.length := by simpa using e
    refine Calls.call_len_list ⟨_, hs.m.keep _ _ ha, rfl, n, rfl⟩ (by rw [e']; lia) ?_
    rw [e']; exact hq _ _ (mk_int _ _)) h
theorem c_len_mu {a : Addr} {vs : List AV} (hm : (a, .list vs) ∈ σ.mu) (hn : vs.length < 2 ^ 62) (h : Post (.int vs.length) σ) : CallK K (.builtin "len") [.raw (.ref a)] σ Post :=
  callK_leaf (fun H s hs us hu Q E hq => by
    refine e1_2 hu.one ?_
    rintro u rfl hu'
    cases vr_raw hu'
    refine e2_2 (mu_at hs hm) ?_
    rintro ws n e hv
    have e' : ws.size = vs.length := by simpa using hv.length
    refine Calls.call_len_list ⟨_, e, rfl, n, rfl⟩ (by rw [e']; lia) ?_
    rw [e']; exact hq _ _ (mk_int _ _)) h
theorem c_len_tup {vs : List AV} (hn : vs.length < 2 ^ 62) (h : Post (.int vs.length) σ) : CallK K (.builtin "len") [.tup vs] σ Post :=
  callK_leaf (fun H s hs us hu Q E hq => by
    refine e1_2 hu.one ?_
    rintro u rfl hu'
    refine e2_3 (vr_tup hu') ?_
    rintro a ws rfl ha hv
    have e' : ws.size = vs.length := by simpa using hv.length
    refine len_tuple (hs.m.keep _ _ ha) (by rw [e']; lia) ?_
    rw [e']; exact hq _ _ (mk_int _ _)) h
theorem c_hex {i : Int} (hf : (baseText "0x" 16 i).length ≤ sizeLine) (h : Post (.str (baseText "0x" 16 i)) σ) : CallK K (.builtin "hex") [.int i] σ Post :=
  callK_leaf (fun H s hs us hu Q E hq => by
    refine e1_2 hu.one ?_
    rintro u rfl hu'
    refine e1_1 (vr_int hu') ?_
    rintro t rfl
    exact hex_of_int (hq _ _ (mk_str _ _)) hf) h
end
noncomputable def NotOurs (o : Obj) : Prop := NS o ∧ ∀ u, o.data ≠ .cell u
noncomputable def Quiet (o : Obj) : Prop := ∃ n, o.cls = .type n ∧ ["enumerate", "zip", "dict_itemiterator", "dict_reverseitemiterator", "odict_iterator", "itertools.zip_longest", "itertools.pairwise"].contains n = false

structure Itr (prog : Program) (w : World) (A : Around) (B H0 : HF) (P : Nat → Obj → Prop) (items : List AV) (ok : Mu → Prop) : Prop where
  ours : ∀ i o, P i o → NotOurs o
  quiet : ∀ i o, P (i + 1) o → Quiet o
  next : ∀ i v a o (H : HF) (s : Shared) mu, ok mu → HF.le H0 H → StM B H mu s.heap → s.heap.get? a = some o → P i o → items[i]? = some v → ∀ (Q : Option Value → Shared → Prop) (E : Value → Shared → Prop),
    (∀ u h' tk o', h'.get? a = some o' → P (i + 1) o' → Heap.SameBut a s.heap h' → VR H v u → Q (some u) { s with heap := h', toks := tk }) → wpAny (model prog w) A (pyNext (.ref a)) Q E s
  self : ∀ i a o (s : Shared), s.heap.get? a = some o → P i o → ∀ (Q : Value → Shared → Prop) (E : Value → Shared → Prop), Q (.ref a) s → wpAny (model prog w) A (pyIter (.ref a)) Q E s
  fin : ∀ a o (H : HF) (s : Shared) mu, ok mu → HF.le H0 H → StM B H mu s.heap → s.heap.get? a = some o → P items.length o → ∀ (Q : Option Value → Shared → Prop) (E : Value → Shared → Prop),
    (∀ h' tk, Heap.ExtBut a s.heap h' → Q none { s with heap := h', toks := tk }) → wpAny (model prog w) A (pyNext (.ref a)) Q E s

noncomputable def Walk (K : Cx) (v : AV) (items : List AV) (ok : Mu → Prop) (σ : S) : Prop :=
  ∀ (H : HF) (s : Shared), StM K.B H σ.mu s.heap → ∀ u, VR H v u → ∃ P, Itr K.prog K.w K.A K.B H P items ok ∧ ∀ (Q : Value → Shared → Prop) (E : Value → Shared → Prop),
    (∀ o tk, o.isFreed = false → P 0 o → Q (.ref s.heap.objs.size) { s with heap := s.heap.push o, toks := tk }) → wpAny (model K.prog K.w) K.A (pyIter u) Q E s

theorem HF.minus_one {H : HF} {a : Addr} : H.minus [a] a = none := by unfold HF.minus; rw [if_pos List.mem_cons_self]
theorem HF.minus_ne {H : HF} {a b : Addr} (h : b ≠ a) : H.minus [a] b = H b := by unfold HF.minus; rw [if_neg (by simpa using h)]
theorem HF.le_minus {H0 H : HF} {a : Addr} (h : H0 a = none) (le : HF.le H0 H) : HF.le H0 (H.minus [a]) := fun b o e => by
  by_cases z : b = a
  · rw [z, h] at e; cases e
  · rw [HF.minus_ne z]; exact le b o e

section
variable {B H : HF} {F : Frm} {σ : S} {mu : Mu} {h : Heap} {a : Addr} {o : Obj}
theorem vr_minus {v : AV} {u : Value} (ha : H a = some o) (hn : NotOurs o) (k : VR H v u) : VR (H.minus [a]) v u :=
  k.minus (l := [a]) (fun b hb ob e => by
    have : b = a := by simpa using hb
    subst this; rw [ha] at e; cases e; exact hn.1)
theorem vrs_minus {v : List AV} {u : List Value} (ha : H a = some o) (hn : NotOurs o) (k : VRs H v u) : VRs (H.minus [a]) v u :=
  k.minus (l := [a]) (fun b hb ob e => by
    have : b = a := by simpa using hb
    subst this; rw [ha] at e; cases e; exact hn.1)
theorem sat_minus {m : MO} {b : Addr} (ha : H a = some o) (hn : NotOurs o) (k : m.sat H b h) : m.sat (H.minus [a]) b h := by
  cases m with
  | list vs => obtain ⟨ws, n, e, v⟩ := k; exact ⟨ws, n, e, vrs_minus ha hn v⟩
  | ob o => exact k
  | tab l c q =>
    rcases k with e | ⟨c', oc, e, h1, h2⟩
    · exact .inl e
    · refine .inr ⟨c', oc, e, ?_, h2⟩
      have : c' ≠ a := fun z => by rw [z, ha] at h1; cases h1; exact hn.1.2.2 _ h2
      rw [HF.minus_ne this]; exact h1
theorem StM.unpin (x : StM B H mu h) (hB : HF.le B (H.minus [a])) (ha : H a = some o) (hn : NotOurs o) : StM B (H.minus [a]) mu h :=
  ⟨hB, fun b ob e => x.keep b ob (HF.minus_le _ _ _ _ e), fun p hp => ⟨by
    by_cases z : p.1 = a
    · rw [z]; exact HF.minus_one
    · rw [HF.minus_ne z]; exact (x.own p hp).1, sat_minus ha hn (x.own p hp).2⟩, x.nd⟩
theorem St.unpin (x : St B H F σ h) (hB : HF.le B (H.minus [a])) (ha : H a = some o) (hn : NotOurs o) : St B (H.minus [a]) F σ h := by
  have no : ∀ b, H b = none → H.minus [a] b = none := fun b e => by
    by_cases z : b = a
    · rw [z]; exact HF.minus_one
    · rw [HF.minus_ne z]; exact e
  refine ⟨x.m.unpin hB ha hn, no _ x.new, ?_, ?_, x.nd, ?_, x.lenv, x.lenc⟩
  · refine e1_2 x.ns ?_
    rintro m hn' hv
    refine ⟨m, hn', fun i y v h1 h2 => ?_⟩
    refine e1_2 (hv i y v h1 h2) ?_
    rintro u e1 e2
    exact ⟨u, e1, vr_minus ha hn e2⟩
  · intro i y c v h1 h2
    obtain ⟨q, u, hc, r⟩ := x.cell i y c v h1 h2
    refine ⟨no _ q, u, hc, fun b eb => ?_⟩
    refine e1_2 (r b eb) ?_
    rintro z e1 e2
    exact ⟨z, e1, vr_minus ha hn e2⟩
  · intro p hp
    refine e3_4 (x.fr p hp) ?_
    rintro c o' u h1 h2 h3 h4
    have hca : c ≠ a := fun z => by rw [z, ha] at h2; cases h2; exact hn.2 _ h3
    exact i3_4 c o' u h1 (by rw [HF.minus_ne hca]; exact h2) h3 (vr_minus ha hn h4)
theorem St.other {h' : Heap} (x : St B H F σ h) (hs : Heap.SameBut a h h') (ha : H a = none) (ho : a ∉ F.own) (hm : ∀ p ∈ σ.mu, p.1 ≠ a) : St B H F σ h' := by
  refine ⟨x.m.at hs ha hm, x.new, ?_, ?_, x.nd, x.fr, x.lenv, x.lenc⟩
  · refine e1_2 x.ns ?_
    rintro m hn' hv
    exact ⟨m, hn'.sameBut hs (fun z => ho (z ▸ List.mem_cons_self)), hv⟩
  · intro i y c v h1 h2
    obtain ⟨q, u, hc, r⟩ := x.cell i y c v h1 h2
    exact ⟨q, u, hc.sameBut hs (fun z => ho (z ▸ List.mem_cons_of_mem _ (List.mem_map.mpr ⟨(y, c), List.mem_of_getElem? h1, rfl⟩))), r⟩
theorem St.notmine (x : St B H F σ h) (ha : H a = some o) : a ∉ F.own ∧ ∀ p ∈ σ.mu, p.1 ≠ a :=
  ⟨fun z => (by have := x.own_none a z; rw [ha] at this; cases this), fun p hp z => (by have := (x.m.own p hp).1; rw [z, ha] at this; cases this)⟩
theorem St.otherExt {h' : Heap} (x : St B H F σ h) (hs : Heap.ExtBut a h h') (ha : H a = none) (ho : a ∉ F.own) (hm : ∀ p ∈ σ.mu, p.1 ≠ a) : St B H F σ h' := by
  refine ⟨⟨x.m.base, fun b o e => hs b o (fun z => by rw [z, ha] at e; cases e) (x.m.keep b o e), fun p hp => ⟨(x.m.own p hp).1, ?_⟩, x.m.nd⟩, x.new, ?_, ?_, x.nd, x.fr, x.lenv, x.lenc⟩
  · obtain ⟨o, e⟩ := (x.m.own p hp).2.get
    exact (x.m.own p hp).2.at ((hs _ _ (hm p hp) e).trans e.symm)
  · obtain ⟨m, ⟨o, es, ep, ho', r⟩, hv⟩ := x.ns
    exact ⟨m, ⟨o, es, ep, hs _ _ (fun z => ho (z ▸ List.mem_cons_self)) ho', r⟩, hv⟩
  · intro i y c v h1 h2
    obtain ⟨q, u, ⟨o, ho', hd⟩, r⟩ := x.cell i y c v h1 h2
    exact ⟨q, u, ⟨o, hs _ _ (fun z => ho (z ▸ List.mem_cons_of_mem _ (List.mem_map.mpr ⟨(y, c), List.mem_of_getElem? h1, rfl⟩))) ho', hd⟩, r⟩
end

theorem quiet_go {M : Model} {A : Around} {target : Expr} {a : Addr} {o : Obj} {v : Value} {Q : Unit → Shared → Prop} {E : Value → Shared → Prop} {s : Shared} (ho : s.heap.get? a = some o) (hq : Quiet o) (h : Q () s) : wpAny M A (letOwnedTupleGo target (.ref a) v) Q E s := by
  refine e1_2 hq ?_
  clear hq
  rintro n hc hn
  have key : ∀ v : Value, wpAny M A (match ((Value.ref a, v) : Value × Value) with
      | (.ref r, .ref a) => (do
        let o ← load r
        match o.cls, o.data with
        | .type n, .fields vs =>
          if ["enumerate", "zip", "dict_itemiterator", "dict_reverseitemiterator", "odict_iterator", "itertools.zip_longest", "itertools.pairwise"].contains n && vs[0]? == some (rawInt a) then
            rule "for.unpacks-the-owned-tuple"
            updateField r 0 .none
        | _, _ => pure ())
      | _ => pure () : Sem Unit) Q E s := by
    intro v
    cases v with
    | ref b =>
      refine wpAny_bind (wpAny_load ho ?_)
      refine rwl hc ?_
      split
      · rename_i n' vs e1 e2
        cases e1
        refine rwl hn ?_
        exact wpAny_pure h
      · exact wpAny_pure h
    | _ => exact wpAny_pure h
  cases target with
  | Tuple _ _ _ => exact key v
  | List _ _ => exact key v
  | _ => exact wpAny_pure h

/- weaker knowledge -/
noncomputable def Le (σ σ' : S) : Prop := ∀ (B H : HF) (F : Frm) (h : Heap), St B H F σ h → ∃ H', HF.le H H' ∧ St B H' F σ' h
theorem Le.refl (σ : S) : Le σ σ := fun B H F h st => ⟨H, .refl _, st⟩
theorem Le.trans {σ σ' σ'' : S} (x : Le σ σ') (y : Le σ' σ'') : Le σ σ'' := fun B H F h st => by
  refine e1_2 (x B H F h st) ?_
  rintro H1 l1 s1
  refine e1_2 (y B H1 F h s1) ?_
  rintro H2 l2 s2
  exact ⟨H2, l1.trans l2, s2⟩
noncomputable abbrev Asg (K : Cx) (t : Expr) (v : AV) (σ : S) (Post : Unit → S → Prop) : Prop := On K UR [v] (one (assign t K.F.env)) σ Post
section
variable {K : Cx} {σ : S} {Post : AV → S → Prop} {PF : AF → S → Prop} {PU : Unit → S → Prop}
theorem asg_name {x : Str} {p : Pos} {v : AV} (h : Sto K x v σ PU) : Asg K (.Name x p) v σ PU := fun H s hs vs hv Q E hq => by
  refine e1_2 hv.one ?_
  rintro u rfl ru
  exact wpAny_assign_Name (h.at (vs := [u]) hs hv hq)

noncomputable def turn_ (PF : AF → S → Prop) (nx : S → Prop) : AF → S → Prop
  | .next, σ => nx σ
  | .cont, σ => nx σ
  | .brk, σ => PF .next σ
  | .ret v, σ => PF (.ret v) σ

theorem for_core {target : Expr} {body orelse : List Stmt} {items : List AV} {ok : Mu → Prop} {H1 : HF} {P : Nat → Obj → Prop} {a : Addr} {o0 : Obj} {σ1 : S} {s : Shared} {G : Result → Shared → Prop}
    (it : Itr K.prog K.w K.A K.B H1 P items ok) {I : Nat → S → Prop} (hok : ∀ i σ, I i σ → ok σ.mu) (hturn : ∀ i v σ, items[i]? = some v → I i σ → Asg K target v σ fun _ σ2 => Xs K body σ2 (turn_ PF fun σ3 => ∃ σ4, Le σ3 σ4 ∧ I (i + 1) σ4))
    (hend : ∀ σ, I items.length σ → Xs K orelse σ PF) (s1 : K.St H1 K.F σ1 s.heap) (hH1 : H1 a = none) (hown : a ∉ K.F.own) (hmu : ∀ p ∈ σ1.mu, p.1 ≠ a) (ho0 : s.heap.get? a = some o0) (hP0 : P 0 o0) (h0 : I 0 σ1)
    (hq : ∀ f g H' σ' h' tk, HF.le H1 H' → K.St H' K.F σ' h' → FR H' f g → PF f σ' → G (.ok g) { s with heap := h', toks := tk }) :
    codeAny (model K.prog K.w) K.A (.forLoop target (.ref a) body orelse K.F.env) G s := by
  have hB : K.B a = none := by
    cases e : K.B a with
    | none => rfl
    | some o => have := s1.m.base a o e; rw [hH1] at this; cases this
  refine codeAny_forLoop_any (fun n s' => ∃ i σ' H' o h' tk, n = items.length - i ∧ i ≤ items.length ∧ s' = { s with heap := h', toks := tk } ∧ K.St H' K.F σ' h' ∧ HF.le H1 (H'.minus [a]) ∧ H' a = some o ∧ P i o ∧ I i σ') ?_ items.length ?_
  · rintro n s' ⟨i, σ', H', o, h', tk, rfl, hi, rfl, st, le, ha, hP, hI⟩
    have hno := it.ours i o hP
    have leB : HF.le K.B (H'.minus [a]) := s1.m.base.trans le
    have le' : HF.le H1 H' := le.trans (HF.minus_le _ _)
    have hn := st.notmine ha
    have ho : h'.get? a = some o := st.m.keep a o ha
    have stu := st.unpin leB ha hno
    by_cases hlt : i < items.length
    · have hv : items[i]? = some items[i] := List.getElem?_eq_getElem hlt
      refine it.next i _ a o H' { s with heap := h', toks := tk } σ'.mu (hok i σ' hI) le' st.m ho hP hv _ _ fun u h2 tk2 o2 ho2 hP2 hs2 ru => ?_
      refine quiet_go (s := { s with heap := h2, toks := tk2 }) ho2 (it.quiet _ _ hP2) ?_
      have st2 := stu.other hs2 HF.minus_one hn.1 hn.2
      refine e0_2 (st2.freeze ho2 hn.2 hn.1 HF.minus_one) ?_
      rintro le3 st3
      refine (hturn i _ σ' hv hI).at (vs := [u]) (s := { s with heap := h2, toks := tk2 }) st3 (VRs.cons ((vr_minus ha hno ru).mono le3) VRs.nil) fun _ _ H4 σ4 h4 tk4 le4 st4 _ hb => ?_
      refine hb.run (s := { s with heap := h4, toks := tk4 }) st4 fun f g H5 σ5 h5 tk5 le5 st5 rf hp => ?_
      have ha5 : H5 a = some o2 := le5 _ _ (le4 _ _ (HF.put_at _ _ _))
      have leH : HF.le H1 (H5.minus [a]) := HF.le_minus hH1 (le.trans (le3.trans (le4.trans le5)))
      have hno2 := it.ours _ _ hP2
      have fin : ∀ f', FR H5 f' g → PF f' σ5 → G (.ok g) { s with heap := h5, toks := tk5 } := fun f' rf' hp' => by
        refine hq f' g (H5.minus [a]) σ5 h5 tk5 leH (st5.unpin (s1.m.base.trans leH) ha5 hno2) ?_ hp'
        cases f' with
        | ret v => obtain ⟨u, e, k⟩ := rf'; exact ⟨u, e, vr_minus ha5 hno2 k⟩
        | next => exact rf'
        | brk => exact rf'
        | cont => exact rf'
      have again : (∃ σ4, Le σ5 σ4 ∧ I (i + 1) σ4) → ∃ m, m < items.length - i ∧ (∃ i σ' H' o h' tk, m = items.length - i ∧ i ≤ items.length ∧ ({ s with heap := h5, toks := tk5 } : Shared) = { s with heap := h', toks := tk } ∧ K.St H' K.F σ' h' ∧ HF.le H1 (H'.minus [a]) ∧ H' a = some o ∧ P i o ∧ I i σ') := fun hI' => by
        refine e1_2 hI' ?_
        clear hI'
        rintro σ6 l6 hI'
        refine e1_2 (l6 _ _ _ _ st5) ?_
        rintro H6 le6 st6
        exact ⟨items.length - (i + 1), by omega, i + 1, σ6, H6, o2, h5, tk5, rfl, hlt, rfl, st6, HF.le_minus hH1 (le.trans (le3.trans (le4.trans (le5.trans le6)))), le6 _ _ ha5, hP2, hI'⟩
      cases f with
      | next => cases (show g = .next from rf); exact again hp
      | cont => cases (show g = .cont from rf); exact again hp
      | brk => cases (show g = .brk from rf); exact hq .next .next (H5.minus [a]) σ5 h5 tk5 leH (st5.unpin (s1.m.base.trans leH) ha5 hno2) rfl hp
      | ret v => obtain ⟨u', rfl, k⟩ := (show ∃ u, g = .ret u ∧ VR H5 v u from rf); exact fin (.ret v) ⟨u', rfl, k⟩ hp
    · have hi' : i = items.length := Nat.le_antisymm hi (Nat.not_lt.mp hlt)
      subst hi'
      refine it.fin a o H' { s with heap := h', toks := tk } σ'.mu (hok _ σ' hI) le' st.m ho hP _ _ fun h2 tk2 hs2 => ?_
      have st2 := stu.otherExt hs2 HF.minus_one hn.1 hn.2
      exact (hend σ' hI).run (s := { s with heap := h2, toks := tk2 }) st2 fun f g H5 σ5 h5 tk5 le5 st5 rf hp => hq f g H5 σ5 h5 tk5 (le.trans le5) st5 rf hp
  · refine e0_2 (s1.freeze ho0 hmu hown hH1) ?_
    rintro le2 st2
    exact ⟨0, σ1, _, o0, _, s.toks, rfl, Nat.zero_le _, rfl, st2, HF.le_minus hH1 le2, HF.put_at _ _ _, hP0, h0⟩

theorem x_for {target iter : Expr} {body orelse : List Stmt} {pos : Pos} (h : Ev K iter σ fun v σ1 => ∃ items ok, Walk K v items ok σ1 ∧ ∃ I : Nat → S → Prop, (∀ i σ, I i σ → ok σ.mu) ∧ I 0 σ1 ∧
      (∀ i v σ, items[i]? = some v → I i σ → Asg K target v σ fun _ σ2 => Xs K body σ2 (turn_ PF fun σ3 => ∃ σ4, Le σ3 σ4 ∧ I (i + 1) σ4)) ∧ ∀ σ, I items.length σ → Xs K orelse σ PF)
    (hf : ∀ x, foldedSetIterable iter K.F.env x = pure x := by intro _; rfl) : X K (.For target iter body orelse pos) σ PF := by
  intro H s hs Q E hq
  refine wpAny_For (h.run hs fun v u H1 σ1 h1 t1 le1 s1 rv hI => ?_) hf
  obtain ⟨items, ok, hw, I, hok, h0, hturn, hend⟩ := hI
  refine e1_2 (hw H1 { s with heap := h1, toks := t1 } s1.m u rv) ?_
  rintro P it hiter
  refine hiter _ _ fun o0 t2 hfr hP0 => ?_
  refine for_core (s := { s with heap := h1.push o0, toks := t2 }) it hok hturn hend (s1.kept (Kept.push h1 o0)) s1.m.none_size (fun z => Nat.lt_irrefl _ (s1.own_lt _ z)) (fun p hp => Nat.ne_of_lt (s1.m.lt p hp)) (Heap.get?_push_size _ hfr) hP0 h0 fun f g H5 σ5 h5 tk5 le5 st5 rf hp => ?_
  exact hq f g H5 σ5 h5 tk5 (le1.trans le5) st5 rf hp
end
/- lists -/
noncomputable def PList (l : Addr) (i : Nat) (o : Obj) : Prop := o.cls = .type "list_iterator" ∧ o.data = .fields #[.ref l, .int i 0]
theorem pl_ours {l : Addr} {i : Nat} {o : Obj} (h : PList l i o) : NotOurs o :=
  ⟨⟨fun ws n e => (by rw [h.2] at e; cases e), (fun z => by
    rcases z with ⟨_, e⟩ | ⟨fd, e⟩
    · rcases e with e | e <;> (rw [h.1] at e; exact absurd (Value.type.inj e) (by decide))
    · rw [h.2] at e; cases e), fun q z => by obtain ⟨vs, t, e, e2⟩ := z; rw [h.2] at e; cases e; cases e2⟩, fun u e => by rw [h.2] at e; cases e⟩
theorem pl_quiet {l : Addr} {i : Nat} {o : Obj} (h : PList l i o) : Quiet o := ⟨_, h.1, by decide⟩

section
variable {prog : Program} {w : World} {A : Around} {B H0 : HF} {items : List AV}
theorem itr_list (hh : A.handled = none) {l : Addr} {ok : Mu → Prop}
    (hl : ∀ (H : HF) (h : Heap) mu, ok mu → HF.le H0 H → StM B H mu h → ∃ ws n, h.get? l = some (lstO ws n) ∧ VRs H items ws.toList) : Itr prog w A B H0 (PList l) items ok where
  ours _ _ h := pl_ours h
  quiet _ _ h := pl_quiet h
  next := fun i v a o H s mu hok le st ho hP hv Q E hq => by
    refine e2_2 (hl H s.heap mu hok le st) ?_
    rintro ws n e r
    refine e1_2 (r.get hv) ?_
    rintro u hu ru
    have hla : l ≠ a := fun z => by rw [z, ho] at e; cases e; have := hP.2; cases this
    refine wpAny_pyNext_list_item (l := l) (i := i) (items := ws) (x := u) ⟨o, ho, hP.1, hP.2⟩ ⟨_, e, rfl, n, rfl⟩ (by simpa using hu) fun h' hi hs => ?_
    refine e1_3 hi ?_
    clear hi
    rintro o' ho' hc' hd'
    exact hq u h' s.toks o' ho' ⟨hc', hd'⟩ hs ru
  self := fun i a o s ho hP Q E hq => wpAny_pyIter_listiter ⟨o, ho, hP.1, hP.2⟩ hq
  fin := fun a o H s mu hok le st ho hP Q E hq => by
    refine e2_2 (hl H s.heap mu hok le st) ?_
    rintro ws n e r
    refine wpAny_pyNext_list_end (l := l) (i := items.length) (items := ws) hh ⟨o, ho, hP.1, hP.2⟩ ⟨_, e, rfl, n, rfl⟩ ?_ fun h' hs => hq h' s.toks hs
    have := r.length
    have e2 : ws.size = items.length := by simpa using this
    rw [← e2]; simp

theorem walk_lst {K : Cx} {σ : S} {vs : List AV} : Walk K (.lst vs) vs (fun _ => True) σ := fun H s st u hu => by
  refine e3_3 (vr_lst hu) ?_
  rintro l ws n rfl hl r
  refine ⟨PList l, itr_list K.fit.hd fun H' h mu _ le st' => ⟨ws, n, st'.keep _ _ (le _ _ hl), r.mono le⟩, fun Q E hq => ?_⟩
  exact wpAny_pyIter_list ⟨_, st.keep _ _ hl, rfl, n, rfl⟩ (hq _ s.toks rfl ⟨rfl, rfl⟩)
theorem walk_mu {K : Cx} {σ : S} {l : Addr} {vs : List AV} (hm : (l, .list vs) ∈ σ.mu) : Walk K (.raw (.ref l)) vs (fun mu => (l, .list vs) ∈ mu) σ := fun H s st u hu => by
  cases vr_raw hu
  refine ⟨PList l, itr_list K.fit.hd fun H' h mu hmu le st' => ?_, fun Q E hq => ?_⟩
  · refine e2_2 ((st'.own _ hmu).2) ?_
    rintro ws n e r
    exact i2_2 ws n e r
  · refine e2_2 ((st.own _ hm).2) ?_
    rintro ws n e r
    exact wpAny_pyIter_list ⟨_, e, rfl, n, rfl⟩ (hq _ s.toks rfl ⟨rfl, rfl⟩)
end

/- tuples -/
noncomputable def PTup (l : Addr) (i : Nat) (o : Obj) : Prop := o.cls = .type "tuple_iterator" ∧ o.data = .fields #[.ref l, .int i 0]
theorem pt_ours {l : Addr} {i : Nat} {o : Obj} (h : PTup l i o) : NotOurs o :=
  ⟨⟨fun ws n e => (by rw [h.2] at e; cases e), (fun z => by
    rcases z with ⟨_, e⟩ | ⟨fd, e⟩
    · rcases e with e | e <;> (rw [h.1] at e; exact absurd (Value.type.inj e) (by decide))
    · rw [h.2] at e; cases e), fun q z => by obtain ⟨vs, t, e, e2⟩ := z; rw [h.2] at e; cases e; cases e2⟩, fun u e => by rw [h.2] at e; cases e⟩
theorem pt_quiet {l : Addr} {i : Nat} {o : Obj} (h : PTup l i o) : Quiet o := ⟨_, h.1, by decide⟩
theorem walk_tup {K : Cx} {σ : S} {vs : List AV} : Walk K (.tup vs) vs (fun _ => True) σ := fun H s st u hu => by
  refine e2_3 (vr_tup hu) ?_
  rintro l ws rfl hl r
  refine ⟨PTup l, ⟨fun _ _ h => pt_ours h, fun _ _ h => pt_quiet h, ?_, fun i a o s ho hP Q E hq => wpAny_pyIter_tupleiter ⟨o, ho, hP.1, hP.2⟩ hq, ?_⟩, fun Q E hq => ?_⟩
  · intro i v a o H' s' mu _ le st' ho hP hv Q E hq
    refine e1_2 ((r.mono le).get hv) ?_
    rintro u hu ru
    refine wpAny_pyNext_tuple_item (t := l) (i := i) (items := ws) (x := u) ⟨o, ho, hP.1, hP.2⟩ ⟨_, st'.keep _ _ (le _ _ hl), rfl, 0, rfl⟩ (by simpa using hu) fun h' hi hs => ?_
    refine e1_3 hi ?_
    clear hi
    rintro o' ho' hc' hd'
    exact hq u h' _ o' ho' ⟨hc', hd'⟩ hs ru
  · intro a o H' s' mu _ le st' ho hP Q E hq
    refine wpAny_pyNext_tuple_end (t := l) (i := vs.length) (items := ws) K.fit.hd ⟨o, ho, hP.1, hP.2⟩ ⟨_, st'.keep _ _ (le _ _ hl), rfl, 0, rfl⟩ ?_ fun h' hs => hq h' _ hs
    have e2 : ws.size = vs.length := by simpa using r.length
    rw [← e2]; simp
  · exact wpAny_pyIter_tuple ⟨_, st.keep _ _ hl, rfl, 0, rfl⟩ (hq _ s.toks rfl ⟨rfl, rfl⟩)

/- ranges -/
noncomputable def PRange (a b : Int) (i : Nat) (o : Obj) : Prop := o = { cls := .type "range_iterator", dict := none, data := .fields #[rawInt (a + i), rawInt (b - a - i), rawInt 1], slots := #[] }
theorem pr_ours {a b : Int} {i : Nat} {o : Obj} (h : PRange a b i o) : NotOurs o := by
  cases (show o = _ from h)
  exact ⟨⟨fun ws n e => (by cases e), (fun z => by
    rcases z with ⟨_, e⟩ | ⟨fd, e⟩
    · rcases e with e | e <;> exact absurd (Value.type.inj e) (by decide)
    · cases e), fun q z => by obtain ⟨vs, t, e, e2⟩ := z; cases e; cases e2⟩, fun u e => by cases e⟩
theorem pr_quiet {a b : Int} {i : Nat} {o : Obj} (h : PRange a b i o) : Quiet o := by
  cases (show o = _ from h)
  exact ⟨_, rfl, by decide⟩
noncomputable def rngO (a b : Int) (t u w : Tok) : Obj := { cls := .type "range", data := .fields #[.int a t, .int b u, .int 1 w] }
noncomputable def upto (n : Nat) : List AV := (List.range n).map fun i : Nat => AV.int (Int.ofNat i)
theorem upto_len (n : Nat) : (upto n).length = n := by simp [upto]
theorem upto_get {n i : Nat} {v : AV} (h : (upto n)[i]? = some v) : i < n ∧ v = .int (i : Int) := by
  unfold upto at h
  rw [List.getElem?_map] at h
  cases e : (List.range n)[i]? with
  | none => rw [e] at h; cases h
  | some j =>
    rw [e] at h
    obtain ⟨h1, h2⟩ := List.getElem?_eq_some_iff.mp e
    simp at h1 h2 h
    subst h2
    exact ⟨h1, h.symm⟩
theorem small_to {n : Nat} (h : n < 2 ^ 62) : Builtin.Range.small 0 (n : Int) 1 = true := small_one (by decide) (by decide) (by lia) (by lia)
theorem walk_range {K : Cx} {σ : S} {n : Nat} {t u w : Tok} (hn : n < 2 ^ 62) : Walk K (.fix (rngO 0 (n : Int) t u w)) (upto n) (fun _ => True) σ := fun H s st x hx => by
  refine e1_3 (vr_fix hx) ?_
  rintro l rfl hl _
  refine ⟨PRange 0 (n : Int), ⟨fun _ _ h => pr_ours h, fun _ _ h => pr_quiet h, ?_, fun i a o s ho hP Q E hq => wpAny_pyIter_rangeiter (by cases (show o = _ from hP); exact ho) hq, ?_⟩, fun Q E hq => ?_⟩
  · intro i v a o H' s' mu _ le st' ho hP hv Q E hq
    cases (show o = _ from hP)
    refine e0_2 (upto_get hv) ?_
    rintro hi rfl
    refine wpAny_pyNext_range_item (it := a) (x := 0 + (i : Int)) (left := (n : Int) - 0 - i) (step := 1) ho (by lia) fun h' hit hs => ?_
    refine hq _ h' _ _ hit ?_ hs (by rw [Int.zero_add]; exact mk_int _ _)
    unfold PRange
    rw [show (0 : Int) + (i : Int) + 1 = 0 + ((i + 1 : Nat) : Int) by lia, show (n : Int) - 0 - (i : Int) - 1 = (n : Int) - 0 - ((i + 1 : Nat) : Int) by lia]
  · intro a o H' s' mu _ le st' ho hP Q E hq
    cases (show o = _ from hP)
    rw [upto_len] at ho
    exact wpAny_pyNext_range_end (it := a) (x := 0 + (n : Int)) (left := (n : Int) - 0 - (n : Int)) (step := 1) K.fit.hd ho (by lia) fun h' hs => hq h' _ hs
  · refine wpAny_pyIter_range (st.keep _ _ hl) (small_to hn) (hq _ s.toks rfl ?_)
    have e : Builtin.Range.rangeSize 0 (n : Int) 1 = (n : Int) := by rw [rangeSize_one]; split <;> lia
    refine rwl e ?_
    unfold PRange
    simp
theorem c_range {K : Cx} {σ : S} {Post : AV → S → Prop} {n : Int} (h : ∀ t u w, Post (.fix (rngO 0 n t u w)) σ) : CallK K (.type "range") [.int n] σ Post := fun H s hs vs hv Q E hq => by
  refine e1_2 hv.one ?_
  rintro x rfl rx
  refine e1_1 (vr_int rx) ?_
  rintro t rfl
  refine call_range_1 ?_
  refine e0_2 (hs.alloc (rngO 0 n s.toks t (s.toks + 1))) ?_
  rintro le s2
  exact hq (.fix (rngO 0 n s.toks t (s.toks + 1))) _ _ σ _ _ le s2 (mk_fix (HF.put_at _ _ _) ⟨⟨_, rfl⟩, .inl rfl⟩) (h _ _ _)
end

section
open PySem PySem.P
noncomputable def S.putM (σ : S) (i : Nat) (a : Addr) (m : MO) : S := { σ with mu := σ.mu.set i (a, m) }
theorem St.changeAt {B H : HF} {F : Frm} {σ : S} {h h' : Heap} {i : Nat} {a : Addr} {m m' : MO} (x : St B H F σ h) (hi : σ.mu[i]? = some (a, m)) (sb : Heap.SameBut a h h') (hm : m'.sat H a h') : St B H F (σ.putM i a m') h' := by
  refine e1_1 (List.getElem?_eq_some_iff.mp hi) ?_
  rintro h1 h2
  have e : σ.mu = σ.mu.take i ++ (a, m) :: σ.mu.drop (i + 1) := by
    rw [← h2, List.getElem_cons_drop, List.take_append_drop]
  have e2 : σ.mu.set i (a, m') = σ.mu.take i ++ (a, m') :: σ.mu.drop (i + 1) := by
    rw [List.set_eq_take_append_cons_drop, if_pos h1]
  unfold S.putM
  refine rwl e2 ?_
  exact x.change e sb hm
theorem mapSeq_lst (ws : Array Value) (n : Nat) (f : Array Value → Array Value) : ∃ n', Obj.mapSeq f (lstO ws n) = lstO (f ws) n' := ⟨_, rfl⟩
theorem St.upd {B H : HF} {F : Frm} {σ : S} {h : Heap} {i : Nat} {a : Addr} {vs vs' : List AV} {ws : Array Value} {n : Nat} (x : St B H F σ h) (hi : σ.mu[i]? = some (a, .list vs)) (e : h.get? a = some (lstO ws n)) (f : Array Value → Array Value)
    (hv : VRs H vs' (f ws).toList) : St B H F (σ.putM i a (.list vs')) (h.update a (Obj.mapSeq f)) := by
  refine e1_1 (mapSeq_lst ws n f) ?_
  rintro n' e'
  refine x.changeAt hi (Heap.SameBut.update ..) ⟨f ws, n', ?_, hv⟩
  refine rwr e' ?_
  exact Heap.get?_update_self _ e (by rw [e']; rfl)
theorem mu_get {K : Cx} {σ : S} {H : HF} {h : Heap} {i : Nat} {a : Addr} {vs : List AV} (x : K.St H K.F σ h) (hi : σ.mu[i]? = some (a, .list vs)) : ∃ ws n, h.get? a = some (lstO ws n) ∧ VRs H vs ws.toList :=
  (x.m.own _ (List.mem_of_getElem? hi)).2

theorem VRs.reverse {H : HF} : ∀ {as : List AV} {vs : List Value}, VRs H as vs → VRs H as.reverse vs.reverse
  | [], _, h => by unfold VRs at h; rw [h]; exact VRs.nil
  | _ :: as, _, h => by
    unfold VRs at h
    refine e2_3 h ?_
    clear h
    rintro u us rfl h1 h2
    refine rwl List.reverse_cons ?_
    refine rwl List.reverse_cons ?_
    exact h2.reverse.append (VRs.cons h1 VRs.nil)

section
variable {K : Cx} {σ : S} {Post : AV → S → Prop} {PF : AF → S → Prop} {PU : Unit → S → Prop}
noncomputable abbrev PlainSl (sl : Expr) : Prop := ∀ o i, subscripted sl false o i = operate [o, i] (getItem o i)

/- reading an item -/
theorem s_tup {va sl : Expr} {vs : List AV} {k : Int} {j : Nat} {v : AV} (hj : seqIndex? k vs.length = some j) (hv : vs[j]? = some v) (h : Post v σ) (lo : -(2 ^ 63) ≤ k := by omega) (hi : k < 2 ^ 63 := by omega) (hs : PlainSl sl := by intro _ _; rfl) :
    SubT K va sl (.tup vs) (.int k) σ Post := fun H s st us hu Q E hq => by
  refine e2_3 (VRs.two hu) ?_
  rintro x y rfl rx ry
  refine e2_3 (vr_tup rx) ?_
  rintro a ws rfl ha r
  refine e1_1 (vr_int ry) ?_
  rintro t rfl
  refine e1_2 (r.get hv) ?_
  rintro u hu' ru
  exact PyProof.Rows.item_tupleT (l := ws.toList) (x := u) (j := j) (by have := st.m.keep _ _ ha; rw [Array.toArray_toList]; exact ⟨_, this, rfl, 0, rfl⟩) lo hi (by rw [r.length]; exact hj) hu' (hq v u H σ s.heap s.toks (.refl _) st ru h) (hs _ _)
theorem s_lst {va sl : Expr} {vs : List AV} {k : Int} {v : AV} (h0 : 0 ≤ k) (hk : k < 2 ^ 63) (hv : vs[k.toNat]? = some v) (h : Post v σ) (hs : PlainSl sl := by intro _ _; rfl) :
    SubT K va sl (.lst vs) (.int k) σ Post := fun H s st us hu Q E hq => by
  refine e2_3 (VRs.two hu) ?_
  rintro x y rfl rx ry
  refine e3_3 (vr_lst rx) ?_
  rintro a ws n rfl ha r
  refine e1_1 (vr_int ry) ?_
  rintro t rfl
  refine e1_2 (r.get hv) ?_
  rintro u hu' ru
  have hl : s.heap.IsList a ws := ⟨_, st.m.keep _ _ ha, rfl, n, rfl⟩
  exact PyProof.Rows.tail_any hl.typeIs slot_list_getitem.lookup (wpAny_getItem_list (x := u) hl h0 hk (by simpa using hu') (hq v u H σ s.heap s.toks (.refl _) st ru h)) (hs _ _)
theorem s_mu (i : Nat) {va sl : Expr} {a : Addr} {vs : List AV} {k : Int} {v : AV} (hi : σ.mu[i]? = some (a, .list vs)) (h0 : 0 ≤ k) (hk : k < 2 ^ 63) (hv : vs[k.toNat]? = some v) (h : Post v σ) (hs : PlainSl sl := by intro _ _; rfl) :
    SubT K va sl (.raw (.ref a)) (.int k) σ Post := fun H s st us hu Q E hq => by
  refine e2_3 (VRs.two hu) ?_
  rintro x y rfl rx ry
  cases vr_raw rx
  refine e1_1 (vr_int ry) ?_
  rintro t rfl
  refine e2_2 (mu_get st hi) ?_
  rintro ws n e r
  refine e1_2 (r.get hv) ?_
  rintro u hu' ru
  have hl : s.heap.IsList a ws := ⟨_, e, rfl, n, rfl⟩
  exact PyProof.Rows.tail_any hl.typeIs slot_list_getitem.lookup (wpAny_getItem_list (x := u) hl h0 hk (by simpa using hu') (hq v u H σ s.heap s.toks (.refl _) st ru h)) (hs _ _)
theorem s_mu_neg (i : Nat) {va sl : Expr} {a : Addr} {vs : List AV} {k : Int} {v : AV} (hi : σ.mu[i]? = some (a, .list vs)) (h0 : k < 0) (h1 : -(vs.length : Int) ≤ k) (hk : -(2 ^ 63) ≤ k) (hv : vs[(k + vs.length).toNat]? = some v) (h : Post v σ) (hs : PlainSl sl := by intro _ _; rfl) :
    SubT K va sl (.raw (.ref a)) (.int k) σ Post := fun H s st us hu Q E hq => by
  refine e2_3 (VRs.two hu) ?_
  rintro x y rfl rx ry
  cases vr_raw rx
  refine e1_1 (vr_int ry) ?_
  rintro t rfl
  refine e2_2 (mu_get st hi) ?_
  rintro ws n e r
  refine e1_2 (r.get hv) ?_
  rintro u hu' ru
  have hl : s.heap.IsList a ws := ⟨_, e, rfl, n, rfl⟩
  have e2 : ws.size = vs.length := by simpa using r.length
  exact PyProof.Rows.tail_any hl.typeIs slot_list_getitem.lookup (wpAny_getItem_list_neg (x := u) hl h0 (by rw [e2]; exact h1) hk (by rw [e2]; simpa using hu') (hq v u H σ s.heap s.toks (.refl _) st ru h)) (hs _ _)

/- reading and writing an item of a list of ours -/
noncomputable abbrev GetI (K : Cx) (a b : AV) (σ : S) (Post : AV → S → Prop) : Prop := On K VR [a, b] (two getItem) σ Post
noncomputable abbrev SetI (K : Cx) (a b c : AV) (σ : S) (Post : Unit → S → Prop) : Prop := On K UR [a, b, c] (three setItem) σ Post
theorem g_mu (i : Nat) {a : Addr} {vs : List AV} {k : Int} {v : AV} (hi : σ.mu[i]? = some (a, .list vs)) (h0 : 0 ≤ k) (hk : k < 2 ^ 63) (hv : vs[k.toNat]? = some v) (h : Post v σ) : GetI K (.raw (.ref a)) (.int k) σ Post := fun H s st us hu Q E hq => by
  refine e2_3 (VRs.two hu) ?_
  rintro x y rfl rx ry
  cases vr_raw rx
  refine e1_1 (vr_int ry) ?_
  rintro t rfl
  refine e2_2 (mu_get st hi) ?_
  rintro ws n e r
  refine e1_2 (r.get hv) ?_
  rintro u hu' ru
  have hl : s.heap.IsList a ws := ⟨_, e, rfl, n, rfl⟩
  exact wpAny_getItem_list (x := u) hl h0 hk (by simpa using hu') (hq v u H σ s.heap s.toks (.refl _) st ru h)
theorem setItem_exact {prog : Program} {w : World} {A : Around} {E : Value → Shared → Prop} {s : Shared} {l : Addr} {items : Array Value} {n : Nat} {k : Int} {t : Tok} {v : Value} {Q : Unit → Shared → Prop} (hl : s.heap.get? l = some (lstO items n))
    (h0 : 0 ≤ k) (hfit : k < 2 ^ 63) (hn : k < items.size) (hQ : Q () { s with heap := s.heap.update l (Obj.mapSeq (·.setIfInBounds k.toNat v)) }) :
    wpAny (model prog w) A (setItem (.ref l) (.int k t) v) Q E s := by
  have hL : s.heap.IsList l items := ⟨_, hl, rfl, n, rfl⟩
  unfold setItem
  try with_reducible refine wpAny_holding ?_
  first | refine wpAny_bind (wpAny_pure ?_) | skip
  refine wpAny_bind (wpAny_sequenceKey hL.typeIs (by decide) ?_)
  refine wpAny_bind (wpAny_callSpecial?_slot (name := Str.ofString "__setitem__") hL.typeIs slot_list_setitem
    (wpAny_call_entry slot_list_setitem hL.typeIs entry_list_setitem ?_ (args_list_setitem _ _ _)))
  show wpAny _ _ (Builtin.List.listSubscript? (.int k t) >>= _) _ _ s
  refine wpAny_bind (wpAny_listSubscript_int (fitsIndex_of h0 hfit) ?_)
  clear hfit
  obtain ⟨j, rfl⟩ := Int.eq_ofNat_of_zero_le h0
  have hj : j < items.size := by lia
  have hx' : items[j]? = some items[j] := Array.getElem?_eq_getElem hj
  show wpAny _ _ ((seqItemAt l j >>= fun r => pure (r.map (j, ·))) >>= _) _ _ s
  refine wpAny_bind (wpAny_bind (wpAny_seqItemAt hl rfl (wpAny_pure ?_)))
  refine rwl hx' ?_
  show wpAny _ _ (setSeqItemAt l j v >>= _) _ _ s
  refine wpAny_bind (wpAny_setSeqItemAt hl rfl ?_)
  first
    | exact wpAny_bind (wpAny_pure (wpAny_pure ⟨.none, rfl, wpAny_pure hQ⟩))
    | exact wpAny_pure ⟨.none, rfl, wpAny_pure hQ⟩
theorem set_mu (i : Nat) {a : Addr} {vs : List AV} {k : Int} {v : AV} (hi : σ.mu[i]? = some (a, .list vs)) (h0 : 0 ≤ k) (hk : k < 2 ^ 63) (hn : k < vs.length) (h : PU () (σ.putM i a (.list (vs.set k.toNat v)))) : SetI K (.raw (.ref a)) (.int k) v σ PU := fun H s st us hu Q E hq => by
  refine e3_4 hu.three ?_
  rintro x y z rfl rx ry rz
  cases vr_raw rx
  refine e1_1 (vr_int ry) ?_
  rintro t rfl
  refine e2_2 (mu_get st hi) ?_
  rintro ws n e r
  have e2 : ws.size = vs.length := by simpa using r.length
  refine setItem_exact e h0 hk (by rw [e2]; exact hn) (hq () () H _ _ s.toks (.refl _) (st.upd hi e _ ?_) trivial h)
  refine rwl Array.toList_setIfInBounds ?_
  exact r.set _ rz
theorem x_augsub {o i value : Expr} {sp p : Pos} {op : Operator} (h : Ev K o σ fun a σ1 => Ev K i σ1 fun b σ2 => GetI K a b σ2 fun old σ3 => Ev K value σ3 fun v σ4 => IBin K op old v σ4 fun new σ5 => SetI K a b new σ5 fun _ σ6 => PF .next σ6)
    (hi : ∀ ov iv new, augStore i ov iv new = (do holding [new, ov, iv] (setItem ov iv new); release [new, ov, iv] []; pure .next) := by intro _ _ _; rfl) : X K (.AugAssign (.Subscript o i sp) op value p) σ PF :=
  fun H s hst Q E hq => by
    rw [arm_exec_AugAssign_3]
    refine wpAny_bind (wpAny_standAt (wpAny_bind (h.run hst fun a va H1 σ1 h1 t1 le1 s1 ra hb => ?_)))
    refine wpAny_bind (wpAny_holding (hb.run s1 fun b vb H2 σ2 h2 t2 le2 s2 rb hg => ?_))
    refine wpAny_bind (wpAny_holding (wpAny_bind (wpAny_standAt (wpAny_bind (hg.at (vs := [va, vb]) s2 (VRs.cons (ra.mono le2) (VRs.cons rb VRs.nil)) fun old vold H3 σ3 h3 t3 le3 s3 ro he => ?_)))))
    refine wpAny_bind (wpAny_holding (he.run s3 fun v u H4 σ4 h4 t4 le4 s4 rv hin => ?_))
    refine wpAny_bind (wpAny_standAt (wpAny_operating (hin.at (vs := [vold, u]) s4 (VRs.cons (ro.mono le4) (VRs.cons rv VRs.nil)) fun nw un H5 σ5 h5 t5 le5 s5 rn hse => ?_)))
    refine wpAny_bind (wpAny_standAt ?_)
    refine rwl (hi _ _ _) ?_
    refine wpAny_bind (wpAny_holding (hse.at (vs := [va, vb, un]) s5 (VRs.cons (ra.mono (le2.trans (le3.trans (le4.trans le5)))) (VRs.cons (rb.mono (le3.trans (le4.trans le5))) (VRs.cons rn VRs.nil))) fun _ _ H6 σ6 h6 t6 le6 s6 _ hp => ?_))
    refine fun Γ p' hΓ => ?_
    simp only [Sem.wp_bind', Sem.wp_release, Sem.wp_pure']
    exact hq .next .next H6 σ6 h6 t6 (le1.trans (le2.trans (le3.trans (le4.trans (le5.trans le6))))) s6 rfl hp

/- methods of lists -/
theorem c_append (i : Nat) {a : Addr} {vs : List AV} {v : AV} (hi : σ.mu[i]? = some (a, .list vs)) (hn : vs.length ≤ sizeLine) (h : Post .none (σ.putM i a (.list (vs ++ [v])))) : CallK K (.builtin "list.append") [.raw (.ref a), v] σ Post := fun H s st us hu Q E hq => by
  refine e2_3 (VRs.two hu) ?_
  rintro x y rfl rx ry
  cases vr_raw rx
  refine e2_2 (mu_get st hi) ?_
  rintro ws n e r
  have e2 : ws.size = vs.length := by simpa using r.length
  refine call_meets F.slot_list_append ⟨_, e, rfl⟩ F.entry_list_append (F.args_list_append_2 _ _) (list_append a ws n y (by rw [e2]; exact hn)) ⟨e, ?_⟩
  refine hq .none _ H _ _ s.toks (.refl _) (st.upd hi e (fun xs => xs.push y) ?_) mk_none h
  refine rwl Array.toList_push ?_
  exact r.append (VRs.cons ry VRs.nil)
theorem c_reverse (i : Nat) {a : Addr} {vs : List AV} (hi : σ.mu[i]? = some (a, .list vs)) (hn : vs.length ≤ sizeLine) (h : Post .none (σ.putM i a (.list vs.reverse))) : CallK K (.builtin "list.reverse") [.raw (.ref a)] σ Post := fun H s st us hu Q E hq => by
  refine e1_2 hu.one ?_
  rintro x rfl rx
  cases vr_raw rx
  refine e2_2 (mu_get st hi) ?_
  rintro ws n e r
  have e2 : ws.size = vs.length := by simpa using r.length
  refine call_meets F.slot_list_reverse ⟨_, e, rfl⟩ F.entry_list_reverse (F.args_list_reverse_1 _) (AutoSeq1.list_reverse_list_0 a ws n (by rw [e2]; exact hn)) ⟨e, ?_⟩
  refine hq .none _ H _ _ s.toks (.refl _) (st.upd hi e (fun xs => xs.reverse) ?_) mk_none h
  refine rwl Array.toList_reverse ?_
  exact r.reverse

/- taking a tuple apart -/
noncomputable def AsgL (K : Cx) : List Expr → List AV → S → (S → Prop) → Prop
  | [], [], σ, P => P σ
  | e :: es, v :: vs, σ, P => Asg K e v σ fun _ σ' => AsgL K es vs σ' P
  | _, _, _, _ => False
noncomputable def StoL (K : Cx) : List Str → List AV → S → (S → Prop) → Prop
  | [], [], σ, P => P σ
  | e :: es, v :: vs, σ, P => Sto K e v σ fun _ σ' => StoL K es vs σ' P
  | _, _, _, _ => False
end
end

section
open PySem
noncomputable def prg : Program := PySem.Challenge.pw_uk0018_01
noncomputable def topSt (i : Nat) : Stmt := prg.main.body.getD i (.Pass default)
noncomputable def classBody : Stmt → List Stmt
  | .ClassDef _ _ _ body _ _ _ _ _ _ _ => body
  | _ => []
noncomputable def methSt (i : Nat) : Stmt := (classBody (topSt 23)).getD i (.Pass default)
noncomputable def fbody : Stmt → List Stmt
  | .FunctionDef _ _ body _ _ _ _ _ _ _ => body
  | _ => []
noncomputable def fname : Stmt → Str
  | .FunctionDef name _ _ _ _ _ _ _ _ _ => name
  | .ClassDef name _ _ _ _ _ _ _ _ _ _ => name
  | _ => ""
noncomputable def fargs : Stmt → Arguments
  | .FunctionDef _ args _ _ _ _ _ _ _ _ => args
  | _ => default
noncomputable def fscope : Stmt → Scope
  | .FunctionDef _ _ _ _ _ _ scope _ _ _ => scope
  | _ => default
noncomputable def fdOf (st : Stmt) (q : Str) (dfl pm code : Value) : FuncData :=
  { name := fname st, qualname := q, params := fargs st, body := .stmts (fbody st), scope := fscope st, globals := mainGlobals, closure := [], defaults := dfl, kwdefaults := .none, doc := .none, pyModule := pm, annotations := none,
    code := code, closureTuple := .none, builtins := builtinsNs }
noncomputable def FnT (B : HF) (a : Addr) (st : Stmt) (q : Str) (dfl : Value) : Prop :=
  ∃ o pm, B a = some o ∧ o.data = .func (fdOf st q dfl pm (.ref (a - 1))) ∧ HasCode B (.ref (a - 1)) q

noncomputable def gtab : List (Str × Value) := [("_div2n1n", .ref 45), ("_div3n2n", .ref 52), ("_int2digits", .ref 59), ("_digits2int", .ref 66), ("_divmod_pos", .ref 73), ("int_divmod", .ref 80),
  ("COMPILER_FLAG_NAMES", .ref 81), ("pretty_flags", .ref 88), ("_twin_re_1", .ref 93), ("_twin_re_2", .ref 98), ("quotedata", .ref 105), ("_name_disallowed_re", .ref 115), ("_value_disallowed_re", .ref 120),
  ("Headers", .ref 249), ("_law_cells", .ref 260), ("_law_word", .ref 267), ("_law_posts", .ref 274), ("_law_page", .ref 281)]
noncomputable def btab : List (Str × Value) := [("range", .type "range"), ("len", .builtin "len"), ("hex", .builtin "hex"), ("sum", .builtin "sum"), ("sorted", .builtin "sorted"), ("divmod", .builtin "divmod"), ("reversed", .type "reversed"),
  ("type", .type "type"), ("list", .type "list"), ("str", .type "str")]

structure TopOk (B : HF) (mg mb : Str → Option Value) : Prop where
  gr : Gr B mg mb
  gS : ∃ t, mg "CRLF" = some (.str "\r\n" t)
  gI : ∃ t, mg "_DIV_LIMIT" = some (.int 4000 t)
  bt : ∃ bm ob, mg "__builtins__" = some (.ref bm) ∧ bm ≠ builtinsNs ∧ bm ≠ mainGlobals ∧ B bm = some ob ∧ ob.cls = .type "module" ∧ ob.dict = some builtinsNs ∧ ob.data = .plain
  h58 : ∀ h : Heap, Sub B h → PySem.W.CodeHd h 58 54
  h65 : ∀ h : Heap, Sub B h → PySem.W.CodeHd h 65 61
  gl : ∀ x v, gtab.lookup x = some v → mg x = some v
  bl : ∀ x v, btab.lookup x = some v → mg x = none ∧ mb x = some v
  f260 : FnT B 260 (topSt 25) "_law_cells" .none
  f267 : FnT B 267 (topSt 26) "_law_word" .none
  f274 : FnT B 274 (topSt 27) "_law_posts" .none
  f281 : FnT B 281 (topSt 28) "_law_page" .none
  f88 : FnT B 88 (topSt 12) "pretty_flags" .none
  f105 : FnT B 105 (topSt 17) "quotedata" .none
  f45 : FnT B 45 (topSt 4) "_div2n1n" .none
  f52 : FnT B 52 (topSt 5) "_div3n2n" .none
  f59 : FnT B 59 (topSt 6) "_int2digits" .none
  f66 : FnT B 66 (topSt 7) "_digits2int" .none
  f73 : FnT B 73 (topSt 8) "_divmod_pos" .none
  f80 : FnT B 80 (topSt 9) "int_divmod" .none

theorem FnOk.of {st : Stmt} {q : Str} {dfl pm code : Value} {ns : List Str} (h : (fscope st).isCoroutine = false ∧ (fscope st).isGenerator = false ∧ (fscope st).kind = .function ∧ ((fscope st).names.map (·.1)).Nodup ∧
    (∀ x ∈ ns, (fscope st).names.lookup x = some .local) ∧ ns.Nodup := by decide +kernel) : FnOk (fdOf st q dfl pm code) ns :=
  ⟨h.1, h.2.1, h.2.2.1, h.2.2.2.1, h.2.2.2.2.1, h.2.2.2.2.2, rfl, rfl, rfl⟩

theorem Binds.one {prog : Program} {w : World} {B : HF} {fd : FuncData} {a : AV} {mu : Mu} {x : Str} (h : ∀ v, bindArgs fd ⟨[v], []⟩ = pure [(x, v)]) : Binds prog w B fd [a] [] mu [(x, a)] mu :=
  fun A H s st vs hv ks hk Q E hq => by
    refine e1_2 hv.one ?_
    rintro u rfl r
    show wpAny _ _ (bindArgs fd ⟨[u], []⟩) _ _ _
    refine rwl (h u) ?_
    exact wpAny_pure (hq _ H s.heap s.toks (.refl _) st (BindR.cons r BindR.nil))
theorem Binds.two {prog : Program} {w : World} {B : HF} {fd : FuncData} {a b : AV} {mu : Mu} {x y : Str} (h : ∀ u v, bindArgs fd ⟨[u, v], []⟩ = pure [(x, u), (y, v)]) : Binds prog w B fd [a, b] [] mu [(x, a), (y, b)] mu :=
  fun A H s st vs hv ks hk Q E hq => by
    refine e2_3 hv.two ?_
    rintro u v rfl r1 r2
    show wpAny _ _ (bindArgs fd ⟨[u, v], []⟩) _ _ _
    refine rwl (h u v) ?_
    exact wpAny_pure (hq _ H s.heap s.toks (.refl _) st (BindR.cons r1 (BindR.cons r2 BindR.nil)))
theorem Binds.three {prog : Program} {w : World} {B : HF} {fd : FuncData} {a b c : AV} {mu : Mu} {x y z : Str} (h : ∀ u v t, bindArgs fd ⟨[u, v, t], []⟩ = pure [(x, u), (y, v), (z, t)]) : Binds prog w B fd [a, b, c] [] mu [(x, a), (y, b), (z, c)] mu :=
  fun A H s st vs hv ks hk Q E hq => by
    refine e3_4 hv.three ?_
    rintro u v t rfl r1 r2 r3
    show wpAny _ _ (bindArgs fd ⟨[u, v, t], []⟩) _ _ _
    refine rwl (h u v t) ?_
    exact wpAny_pure (hq _ H s.heap s.toks (.refl _) st (BindR.cons r1 (BindR.cons r2 (BindR.cons r3 BindR.nil))))

section
variable {prog : Program} {w : World} {B : HF} {mg mb : Str → Option Value}
noncomputable abbrev cxOf (prog : Program) (w : World) (B : HF) (T : TopOk B mg mb) {n : Nat} (A : Around) (fit : Fit A n) (fd : FuncData) (ns : List Str) (ok : FnOk fd ns) (a L : Addr) : Cx :=
  { prog := prog, w := w, A := A, B := B, F := callF fd ns a L, ok := ok.frm a L, mg := mg, mb := mb, gr := T.gr, n := n, fit := fit }

theorem fn_con (T : TopOk B mg mb) {n : Nat} {a : Addr} {st : Stmt} {q : Str} {dfl : Value} (f : FnT B a st q dfl) (ns : List Str) {as : List AV} {kw : List (Str × AV)} {mu mu1 : Mu} {ab : List (Str × AV)} {Post : AV → Mu → Prop} (ps : List Str)
    (ok : ∀ pm, FnOk (fdOf st q dfl pm (.ref (a - 1))) ns)
    (hbind : ∀ pm, Binds prog w B (fdOf st q dfl pm (.ref (a - 1))) as kw mu ab mu1) (hps : ab.map (·.1) = ps) (hk : ps.Nodup ∧ ∀ x ∈ ps, (fscope st).names.lookup x = some .local ∨ (fscope st).names.lookup x = some .cell)
    (h : ∀ pm A (fit : Fit A n) L, Xs (cxOf prog w B T A fit (fdOf st q dfl pm (.ref (a - 1))) ns (ok pm) a L) (fbody st) (callS (fdOf st q dfl pm (.ref (a - 1))) ns ab mu1) fun f σ => Post f.val σ.mu) :
    Con prog w B (n + 1) (.ref a) as kw mu Post := by
  refine e2_3 f ?_
  clear f
  rintro o pm ho hd hc
  exact Con.of_def T.gr ho hd hc rfl (ok pm) (hbind pm) (by rw [hps]; exact hk.1) (fun p hp => hk.2 p.1 (by rw [← hps]; exact List.mem_map.mpr ⟨p, hp, rfl⟩)) fun A fit L => h pm A fit L
theorem fn_conD (T : TopOk B mg mb) {n : Nat} {a : Addr} {st : Stmt} {q : Str} {dfl : Value} (f : FnT B a st q dfl) (ns : List Str) {as : List AV} {kw : List (Str × AV)} {mu : Mu} {mu1 : Addr → Mu} {ab : Addr → List (Str × AV)} {Post : AV → Mu → Prop} (ps : List Str)
    (ok : ∀ pm, FnOk (fdOf st q dfl pm (.ref (a - 1))) ns)
    (hbind : ∀ pm, BindsD prog w B (fdOf st q dfl pm (.ref (a - 1))) as kw mu ab mu1) (hps : ∀ d, (ab d).map (·.1) = ps) (hk : ps.Nodup ∧ ∀ x ∈ ps, (fscope st).names.lookup x = some .local ∨ (fscope st).names.lookup x = some .cell)
    (h : ∀ d pm A (fit : Fit A n) L, Xs (cxOf prog w B T A fit (fdOf st q dfl pm (.ref (a - 1))) ns (ok pm) a L) (fbody st) (callS (fdOf st q dfl pm (.ref (a - 1))) ns (ab d) (mu1 d)) fun f σ => Post f.val σ.mu) :
    Con prog w B (n + 1) (.ref a) as kw mu Post := by
  refine e2_3 f ?_
  clear f
  rintro o pm ho hd hc
  exact Con.of_defD T.gr ho hd hc rfl (ok pm) (hbind pm) (fun d => by rw [hps]; exact hk.1) (fun d p hp => hk.2 p.1 (by rw [← hps d]; exact List.mem_map.mpr ⟨p, hp, rfl⟩)) fun d A fit L => h d pm A fit L
end
end

section
open PySem PySem.P
noncomputable def idxG : List Str → Str → Nat → Option Nat
  | [], _, _ => none
  | y :: r, x, n => if y = x then some n else idxG r x (n + 1)
theorem idxG_get : ∀ {l : List Str} {x : Str} {n i : Nat}, idxG l x n = some i → n ≤ i ∧ l[i - n]? = some x
  | [], _, _, _, h => by cases h
  | y :: r, x, n, i, h => by
    unfold idxG at h
    split at h
    · cases h; subst_vars; exact ⟨Nat.le_refl _, by simp⟩
    · have := idxG_get h
      refine ⟨by lia, ?_⟩
      refine rwl (show i - n = (i - (n + 1)) + 1 by lia) ?_
      simpa using this.2
noncomputable def idxS (l : List Str) (x : Str) : Option Nat := idxG l x 0
theorem idxS_get {l : List Str} {x : Str} {i : Nat} (h : idxS l x = some i) : l[i]? = some x := by simpa using (idxG_get h).2
noncomputable def idxC' : List (Str × Addr) → Str → Nat → Option (Nat × Addr)
  | [], _, _ => none
  | (y, c) :: r, x, n => if y = x then some (n, c) else idxC' r x (n + 1)
theorem idxC'_get : ∀ {l : List (Str × Addr)} {x : Str} {n i : Nat} {c : Addr}, idxC' l x n = some (i, c) → n ≤ i ∧ l[i - n]? = some (x, c)
  | [], _, _, _, _, h => by cases h
  | (y, d) :: r, x, n, i, c, h => by
    unfold idxC' at h
    split at h
    · cases h; subst_vars; exact ⟨Nat.le_refl _, by simp⟩
    · have := idxC'_get h
      refine ⟨by lia, ?_⟩
      refine rwl (show i - n = (i - (n + 1)) + 1 by lia) ?_
      simpa using this.2
noncomputable def idxC (l : List (Str × Addr)) (x : Str) : Option (Nat × Addr) := idxC' l x 0
theorem idxC_get {l : List (Str × Addr)} {x : Str} {i : Nat} {c : Addr} (h : idxC l x = some (i, c)) : l[i]? = some (x, c) := by simpa using (idxC'_get h).2
noncomputable def idxF : List (Str × AV) → Str → Option (Nat × AV)
  | [], _ => none
  | (y, c) :: r, x => if y = x then some (0, c) else (idxF r x).map fun p => (p.1 + 1, p.2)
theorem idxF_get : ∀ {l : List (Str × AV)} {x : Str} {i : Nat} {c : AV}, idxF l x = some (i, c) → l[i]? = some (x, c)
  | [], _, _, _, h => by cases h
  | (y, d) :: r, x, i, c, h => by
    unfold idxF at h
    split at h
    · cases h; subst_vars; rfl
    · cases e : idxF r x with
      | none => rw [e] at h; cases h
      | some j => rw [e] at h; cases h; simpa using idxF_get (c := j.2) (i := j.1) e

section
variable {K : Cx} {σ : S} {Post : AV → S → Prop} {PF : AF → S → Prop} {PB : Bool → S → Prop} {PU : Unit → S → Prop}
theorem n_loc {x : Str} {p : Pos} {i : Nat} {v : AV} (hi : idxS K.F.ns x = some i) (hv : σ.vars[i]? = some (some v)) (hd : (x == ("__debug__" : Str)) = false) (hP : Post v σ) : Ev K (.Name x p) σ Post := ev_loc i (idxS_get hi) hv hd hP
theorem n_cell {x : Str} {p : Pos} {i : Nat} {c : Addr} {v : AV} (hi : idxC K.F.cs x = some (i, c)) (hv : σ.cells[i]? = some (some v)) (hd : (x == ("__debug__" : Str)) = false) (hP : Post v σ) : Ev K (.Name x p) σ Post := ev_cell i (idxC_get hi) hv hd hP
theorem n_free {x : Str} {p : Pos} {i : Nat} {v : AV} (hi : idxF K.F.fr x = some (i, v)) (hd : (x == ("__debug__" : Str)) = false) (hP : Post v σ) : Ev K (.Name x p) σ Post := ev_free i (idxF_get hi) hd hP
theorem l_loc {x : Str} {i : Nat} {v : AV} (hi : idxS K.F.ns x = some i) (hv : σ.vars[i]? = some (some v)) (hP : Post v σ) : LdN K x σ Post := ld_loc i (idxS_get hi) hv hP
theorem t_loc {x : Str} {i : Nat} {v : AV} {σ' : S} (hi : idxS K.F.ns x = some i) (hσ : σ.setV i v = σ') (h : PU () σ') : Sto K x v σ PU := sto_loc i (idxS_get hi) (hσ ▸ h)
theorem t_cell {x : Str} {i : Nat} {c : Addr} {v : AV} {σ' : S} (hi : idxC K.F.cs x = some (i, c)) (hσ : σ.setC i v = σ') (h : PU () σ') : Sto K x v σ PU := sto_cell i (idxC_get hi) (hσ ▸ h)
theorem asgl_cons {e : Expr} {es : List Expr} {v : AV} {vs : List AV} {P : S → Prop} (h : Asg K e v σ fun _ σ' => AsgL K es vs σ' P) : AsgL K (e :: es) (v :: vs) σ P := h
theorem asgl_nil {P : S → Prop} (h : P σ) : AsgL K [] [] σ P := h
theorem stol_cons {e : Str} {es : List Str} {v : AV} {vs : List AV} {P : S → Prop} (h : Sto K e v σ fun _ σ' => StoL K es vs σ' P) : StoL K (e :: es) (v :: vs) σ P := h
theorem stol_nil {P : S → Prop} (h : P σ) : StoL K [] [] σ P := h
theorem then_next {r : List Stmt} (h : Xs K r σ PF) : then_ K r PF .next σ := h
theorem then_ret {r : List Stmt} {v : AV} (h : PF (.ret v) σ) : then_ K r PF (.ret v) σ := h
theorem then_brk {r : List Stmt} (h : PF .brk σ) : then_ K r PF .brk σ := h
theorem turn_next {nx : S → Prop} (h : nx σ) : turn_ PF nx .next σ := h
theorem turn_brk {nx : S → Prop} (h : PF .next σ) : turn_ PF nx .brk σ := h
theorem turn_ret {nx : S → Prop} {v : AV} (h : PF (.ret v) σ) : turn_ PF nx (.ret v) σ := h
theorem lazy_and {α : Type} {a : α} {Q : Prop} (h : Q) : a = a ∧ Q := ⟨rfl, h⟩
theorem ite_both {c : Bool} {P Q : Prop} (h : c = true → P) (k : c = false → Q) : if c = true then P else Q := by
  cases c with
  | true => exact h rfl
  | false => exact k rfl
theorem ite_t {c : Bool} {P Q : Prop} (e : c = true) (h : P) : if c = true then P else Q := by rw [if_pos e]; exact h
theorem ite_f {c : Bool} {P Q : Prop} (e : c = false) (h : Q) : if c = true then P else Q := by rw [e]; exact h
end

section
variable {K : Cx} {σ : S} {Post : AV → S → Prop}
theorem ev_det {e : Expr} (V : AV) (h : Ev K e σ fun v σ' => v = V ∧ σ' = σ) (k : Post V σ) : Ev K e σ Post := Tri.mono h fun v σ' q => by rw [q.1, q.2]; exact k
end
/- globals -/
section
variable {prog : Program} {w : World} {B : HF} {mg mb : Str → Option Value} {T : TopOk B mg mb} {n : Nat} {A : Around} {fit : Fit A n} {F : Frm} {ok : F.Ok} {gr : Gr B mg mb} {σ : S} {Post : AV → S → Prop}
theorem n_glob (T : TopOk B mg mb) {x : Str} {p : Pos} {v : Value} (hk : F.env.kindOf x = some .globalImplicit) (hm : gtab.lookup x = some v) (hd : (x == ("__debug__" : Str)) = false) (hP : Post (.raw v) σ) :
    Ev ⟨prog, w, A, B, F, ok, mg, mb, gr, n, fit⟩ (.Name x p) σ Post := ev_glob hk (T.gl x v hm) hd hP
theorem n_blt (T : TopOk B mg mb) {x : Str} {p : Pos} {v : Value} (hk : F.env.kindOf x = some .globalImplicit) (hm : btab.lookup x = some v) (hd : (x == ("__debug__" : Str)) = false) (hP : Post (.raw v) σ) :
    Ev ⟨prog, w, A, B, F, ok, mg, mb, gr, n, fit⟩ (.Name x p) σ Post := ev_blt hk (T.bl x v hm).1 (T.bl x v hm).2 hd hP
theorem n_crlf (T : TopOk B mg mb) {p : Pos} (hk : F.env.kindOf "CRLF" = some .globalImplicit) (hP : Post (.str "\r\n") σ) : Ev ⟨prog, w, A, B, F, ok, mg, mb, gr, n, fit⟩ (.Name "CRLF" p) σ Post :=
  Tri.leaf (b := .str "\r\n") (fun H s hs Q E hq => by
    refine e1_1 T.gS ?_
    rintro t e
    refine wpAny_Name ?_ (by decide)
    refine rwl (PyProof.Rows.loadName_read ok.kind hk) ?_
    exact Calls.loadGlobal_global (by rw [ok.glob]; exact gr.g _ fun a o e => hs.m.keep a o (hs.m.base a o e)) e (hq _ s.toks (mk_str _ _))) hP
theorem n_divlim (T : TopOk B mg mb) {p : Pos} (hk : F.env.kindOf "_DIV_LIMIT" = some .globalImplicit) (hP : Post (.int 4000) σ) : Ev ⟨prog, w, A, B, F, ok, mg, mb, gr, n, fit⟩ (.Name "_DIV_LIMIT" p) σ Post :=
  Tri.leaf (b := .int 4000) (fun H s hs Q E hq => by
    refine e1_1 T.gI ?_
    rintro t e
    refine wpAny_Name ?_ (by decide)
    refine rwl (PyProof.Rows.loadName_read ok.kind hk) ?_
    exact Calls.loadGlobal_global (by rw [ok.glob]; exact gr.g _ fun a o e => hs.m.keep a o (hs.m.base a o e)) e (hq _ s.toks (mk_int _ _))) hP
end
theorem Tri.le {prog : Program} {w : World} {A : Around} {B : HF} {F : Frm} {α β : Type} {R : HF → β → α → Prop} {t : Sem α} {σ σ' : S} {Post : β → S → Prop} (l : Le σ σ') (h : Tri prog w A B F R t σ' Post) : Tri prog w A B F R t σ Post :=
  fun H s st Q E hq => by
    refine e1_2 (l B H F s.heap st) ?_
    rintro H1 l1 s1
    exact h H1 s s1 Q E fun b a H' σ2 h' tk le x r p => hq b a H' σ2 h' tk (l1.trans le) x r p
theorem Le.drop {σ : S} (mu' : Mu) (hs : List.Sublist mu' σ.mu) : Le σ { σ with mu := mu' } := fun B H F h st =>
  ⟨H, .refl _, ⟨⟨st.m.base, st.m.keep, fun p hp => st.m.own p (hs.subset hp), (hs.map _).nodup st.m.nd⟩, st.new, st.ns, st.cell, by
    have := List.nodup_append.mp st.nd
    exact List.nodup_append.mpr ⟨this.1, (hs.map _).nodup this.2.1, fun a ha b hb => this.2.2 a ha b ((hs.map _).subset hb)⟩, st.fr, st.lenv, st.lenc⟩⟩
theorem Le.skip {σ : S} (n : Nat) : Le σ { σ with mu := σ.mu.drop n } := Le.drop _ (List.drop_sublist _ _)
noncomputable def forget : List Bool → List (Option AV) → List (Option AV)
  | true :: bs, v :: vs => v :: forget bs vs
  | false :: bs, _ :: vs => none :: forget bs vs
  | [], vs => vs
  | _, [] => []
theorem forget_len : ∀ (bs : List Bool) (vs : List (Option AV)), (forget bs vs).length = vs.length
  | true :: bs, v :: vs => by simp [forget, forget_len bs vs]
  | false :: bs, _ :: vs => by simp [forget, forget_len bs vs]
  | [], vs => by simp [forget]
  | true :: _, [] => by simp [forget]
  | false :: _, [] => by simp [forget]
theorem forget_get : ∀ (bs : List Bool) (vs : List (Option AV)) (i : Nat) (v : AV), (forget bs vs)[i]? = some (some v) → vs[i]? = some (some v)
  | true :: bs, v :: vs, i, w, h => by
    cases i with
    | zero => simpa [forget] using h
    | succ i => simpa using forget_get bs vs i w (by simpa [forget] using h)
  | false :: bs, _ :: vs, i, w, h => by
    cases i with
    | zero => simp [forget] at h
    | succ i => simpa using forget_get bs vs i w (by simpa [forget] using h)
  | [], vs, i, w, h => by simpa [forget] using h
  | true :: _, [], i, w, h => by simp [forget] at h
  | false :: _, [], i, w, h => by simp [forget] at h
theorem Le.vars {σ : S} (bs : List Bool) : Le σ { σ with vars := forget bs σ.vars } := fun B H F h st =>
  ⟨H, .refl _, ⟨st.m, st.new, by
    refine e1_2 st.ns ?_
    rintro m hn hv
    exact ⟨m, hn, fun i x v h1 h2 => hv i x v h1 (forget_get _ _ _ _ h2)⟩, st.cell, st.nd, st.fr, by rw [← st.lenv]; exact forget_len _ _, st.lenc⟩⟩
theorem Le.settleV {σ : S} {i j : Nat} {a : Addr} {vs : List AV} (hi : σ.vars[i]? = some (some (.raw (.ref a)))) (hj : σ.mu[j]? = some (a, .list vs)) : Le σ ⟨σ.vars.set i (some (.lst vs)), σ.cells, σ.mu.eraseIdx j⟩ := fun B H F h st => by
  refine e1_1 (List.getElem?_eq_some_iff.mp hj) ?_
  rintro h1 h2
  have e : σ.mu = σ.mu.take j ++ (a, .list vs) :: σ.mu.drop (j + 1) := by rw [← h2, List.getElem_cons_drop, List.take_append_drop]
  refine e2_2 ((st.m.own _ (List.mem_of_getElem? hj)).2) ?_
  rintro ws n eo r
  refine e0_2 (st.settle e eo) ?_
  rintro le s2
  refine ⟨_, le, ?_⟩
  refine rwl (List.eraseIdx_eq_take_drop_succ _ _) ?_
  refine ⟨s2.m, s2.new, ?_, s2.cell, s2.nd, s2.fr, by rw [List.length_set]; exact s2.lenv, s2.lenc⟩
  refine e1_2 s2.ns ?_
  rintro m hn hv
  refine ⟨m, hn, fun k x v h3 h4 => ?_⟩
  have h4' : (σ.vars.set i (some (.lst vs)))[k]? = some (some v) := h4
  by_cases ek : k = i
  · subst ek
    rw [List.getElem?_set_self (List.getElem?_eq_some_iff.mp hi).1] at h4'
    cases h4'
    refine e1_2 (hv k x _ h3 hi) ?_
    rintro u e1 e2
    refine ⟨u, e1, ?_⟩
    cases vr_raw e2
    exact mk_lst (n := n) (HF.put_at _ _ _) (r.mono le)
  · rw [List.getElem?_set_ne (fun z => ek z.symm)] at h4'
    exact hv k x v h3 h4'
/- data -/
mutual
noncomputable def AV.dat : AV → PyData
  | .none => .none
  | .bool b => .bool b
  | .int i => .int i
  | .str x => .str x
  | .tup vs => .tuple (AV.dats vs)
  | .lst vs => .list (AV.dats vs)
  | .raw _ => .none
  | .fix _ => .none
noncomputable def AV.dats : List AV → List PyData
  | [] => []
  | v :: vs => v.dat :: AV.dats vs
end
mutual
noncomputable def AV.isD : AV → Bool
  | .int _ => true
  | .str x => PyData.strOk x
  | .tup vs => AV.isDs vs
  | .lst vs => AV.isDs vs
  | _ => false
noncomputable def AV.isDs : List AV → Bool
  | [] => true
  | v :: vs => v.isD && AV.isDs vs
end
mutual
theorem reads_of {H : HF} {h : Heap} (k : ∀ a o, H a = some o → h.get? a = some o) : ∀ {a : AV} {v : Value}, a.isD = true → VR H a v → ∃ as, Reads h v a.dat as
  | .int i, _, _, r => by obtain ⟨t, rfl⟩ := vr_int r; exact ⟨_, .int i t⟩
  | .str x, _, _, r => by obtain ⟨t, rfl⟩ := vr_str r; exact ⟨_, .str x t⟩
  | .tup vs, _, d, r => by
    refine e2_3 (vr_tup r) ?_
    rintro a ws rfl ha hv
    refine e1_1 (reads_all k (as := vs) (by simpa [AV.isD] using d) hv) ?_
    rintro as q
    exact ⟨_, .tuple (k _ _ ha) rfl rfl q⟩
  | .lst vs, _, d, r => by
    refine e3_3 (vr_lst r) ?_
    rintro a ws n rfl ha hv
    refine e1_1 (reads_all k (as := vs) (by simpa [AV.isD] using d) hv) ?_
    rintro as q
    exact ⟨_, .list (k _ _ ha) rfl rfl q⟩
  | .none, _, d, _ => by simp [AV.isD] at d
  | .bool _, _, d, _ => by simp [AV.isD] at d
  | .raw _, _, d, _ => by simp [AV.isD] at d
  | .fix _, _, d, _ => by simp [AV.isD] at d
theorem reads_all {H : HF} {h : Heap} (k : ∀ a o, H a = some o → h.get? a = some o) : ∀ {as : List AV} {vs : List Value}, AV.isDs as = true → VRs H as vs → ∃ bs, ReadsAll h vs (AV.dats as) bs
  | [], _, _, r => by unfold VRs at r; rw [r]; exact ⟨_, .nil⟩
  | a :: as, _, d, r => by
    unfold VRs at r
    refine e2_3 r ?_
    clear r
    rintro u us rfl r1 r2
    simp only [AV.isDs, Bool.and_eq_true] at d
    refine e1_1 (reads_of k d.1 r1) ?_
    rintro x q1
    refine e1_1 (reads_all k d.2 r2) ?_
    rintro y q2
    exact ⟨_, .cons q1 q2⟩
end
mutual
theorem lay_of : ∀ {a : AV}, a.isD = true → a.dat.canLay0 = true
  | .int i, _ => by simp [AV.dat, PyData.canLay0]
  | .str x, d => by simpa [AV.dat, PyData.canLay0, AV.isD] using d
  | .tup vs, d => by
    rw [AV.dat, PyData.canLay0]
    exact lay_all (by simpa [AV.isD] using d)
  | .lst vs, d => by
    rw [AV.dat, PyData.canLay0]
    exact lay_all (by simpa [AV.isD] using d)
  | .none, d => by simp [AV.isD] at d
  | .bool _, d => by simp [AV.isD] at d
  | .raw _, d => by simp [AV.isD] at d
  | .fix _, d => by simp [AV.isD] at d
theorem lay_all : ∀ {as : List AV}, AV.isDs as = true → PyData.canLayAll0 (AV.dats as) = true
  | [], _ => by simp [AV.dats, PyData.canLayAll0]
  | a :: as, d => by
    simp only [AV.isDs, Bool.and_eq_true] at d
    simp only [AV.dats, PyData.canLayAll0, Bool.and_eq_true]
    exact ⟨lay_of d.1, lay_all d.2⟩
end
mutual
theorem eqv_iff : ∀ {a b : AV}, a.isD = true → b.isD = true → (PyData.eqv a.dat b.dat = true ↔ a = b)
  | .int i, .int j, _, _ => by simp [AV.dat, PyData.eqv]
  | .str i, .str j, _, _ => by simp [AV.dat, PyData.eqv]
  | .tup vs, .tup us, d, e => by
    rw [AV.dat, AV.dat, PyData.eqv, eqv_all (by simpa [AV.isD] using d) (by simpa [AV.isD] using e)]
    exact ⟨fun h => by rw [h], fun h => by cases h; rfl⟩
  | .lst vs, .lst us, d, e => by
    rw [AV.dat, AV.dat, PyData.eqv, eqv_all (by simpa [AV.isD] using d) (by simpa [AV.isD] using e)]
    exact ⟨fun h => by rw [h], fun h => by cases h; rfl⟩
  | .int i, .str _, _, _ => by simp [AV.dat, PyData.eqv]
  | .int i, .tup _, _, _ => by simp [AV.dat, PyData.eqv]
  | .int i, .lst _, _, _ => by simp [AV.dat, PyData.eqv]
  | .str i, .int _, _, _ => by simp [AV.dat, PyData.eqv]
  | .str i, .tup _, _, _ => by simp [AV.dat, PyData.eqv]
  | .str i, .lst _, _, _ => by simp [AV.dat, PyData.eqv]
  | .tup i, .int _, _, _ => by simp [AV.dat, PyData.eqv]
  | .tup i, .str _, _, _ => by simp [AV.dat, PyData.eqv]
  | .tup i, .lst _, _, _ => by simp [AV.dat, PyData.eqv]
  | .lst i, .int _, _, _ => by simp [AV.dat, PyData.eqv]
  | .lst i, .str _, _, _ => by simp [AV.dat, PyData.eqv]
  | .lst i, .tup _, _, _ => by simp [AV.dat, PyData.eqv]
  | .none, _, d, _ => by simp [AV.isD] at d
  | .bool _, _, d, _ => by simp [AV.isD] at d
  | .raw _, _, d, _ => by simp [AV.isD] at d
  | .fix _, _, d, _ => by simp [AV.isD] at d
  | .int _, .none, _, d | .int _, .bool _, _, d | .int _, .raw _, _, d | .int _, .fix _, _, d => by simp [AV.isD] at d
  | .str _, .none, _, d | .str _, .bool _, _, d | .str _, .raw _, _, d | .str _, .fix _, _, d => by simp [AV.isD] at d
  | .tup _, .none, _, d | .tup _, .bool _, _, d | .tup _, .raw _, _, d | .tup _, .fix _, _, d => by simp [AV.isD] at d
  | .lst _, .none, _, d | .lst _, .bool _, _, d | .lst _, .raw _, _, d | .lst _, .fix _, _, d => by simp [AV.isD] at d
theorem eqv_all : ∀ {a b : List AV}, AV.isDs a = true → AV.isDs b = true → (PyData.eqvAll (AV.dats a) (AV.dats b) = true ↔ a = b)
  | [], [], _, _ => by simp [AV.dats, PyData.eqvAll]
  | [], _ :: _, _, _ => by simp [AV.dats, PyData.eqvAll]
  | _ :: _, [], _, _ => by simp [AV.dats, PyData.eqvAll]
  | a :: as, b :: bs, d, e => by
    simp only [AV.isDs, Bool.and_eq_true] at d e
    rw [AV.dats, AV.dats, PyData.eqvAll, Bool.and_eq_true, eqv_iff d.1 e.1, eqv_all d.2 e.2]
    exact ⟨fun h => by rw [h.1, h.2], fun h => by cases h; exact ⟨rfl, rfl⟩⟩
end
mutual
noncomputable def AV.deep : AV → Nat
  | .tup vs => AV.deeps vs + 1
  | .lst vs => AV.deeps vs + 1
  | _ => 0
noncomputable def AV.deeps : List AV → Nat
  | [] => 0
  | v :: vs => max v.deep (AV.deeps vs)
end
mutual
theorem deep_dat : ∀ a : AV, a.dat.depth = a.deep
  | .tup vs => by rw [AV.dat, PyData.depth, AV.deep, deeps_dat]
  | .lst vs => by rw [AV.dat, PyData.depth, AV.deep, deeps_dat]
  | .int _ | .str _ | .none | .bool _ | .raw _ | .fix _ => by simp [AV.dat, PyData.depth, AV.deep]
theorem deeps_dat : ∀ as : List AV, PyData.depthAll (AV.dats as) = AV.deeps as
  | [] => by simp [AV.dats, PyData.depthAll, AV.deeps]
  | a :: as => by rw [AV.dats, PyData.depthAll, AV.deeps, deep_dat, deeps_dat]
end

section
variable {K : Cx} {σ : S} {Post : AV → S → Prop} {PF : AF → S → Prop} {PU : Unit → S → Prop}
noncomputable def Has (K : Cx) (σ : S) (a d : AV) : Prop := ∀ (H : HF) (s : Shared), K.St H K.F σ s.heap → ∀ u, VR H a u → ∃ as, Reads s.heap u d.dat as
theorem Has.self {a : AV} (h : a.isD = true) : Has K σ a a := fun H s st u r => reads_of st.m.keep h r
theorem Has.mu {i : Nat} {a : Addr} {vs : List AV} (hi : σ.mu[i]? = some (a, .list vs)) (h : AV.isDs vs = true) : Has K σ (.raw (.ref a)) (.lst vs) := fun H s st u r => by
  cases vr_raw r
  refine e2_2 (mu_get st hi) ?_
  rintro ws n e rv
  refine e1_1 (reads_all st.m.keep h rv) ?_
  rintro as q
  exact ⟨_, .list e rfl rfl q⟩
theorem cmp_eqd {a b d e : AV} (ha : Has K σ a d) (hb : Has K σ b e) (da : d.isD = true) (db : e.isD = true) (hd : d.deep ≤ 8 := by decide) (h : ∀ c : Bool, (c = true ↔ d = e) → Post (.bool c) σ) : Cmp K .Eq a b σ Post := fun H s st us hu Q E hq => by
  refine e2_3 hu.two ?_
  rintro x y rfl rx ry
  refine e1_1 (ha H s st x rx) ?_
  rintro as qa
  refine e1_1 (hb H s st y ry) ?_
  rintro bs qb
  refine SeqAt.compareEq_reads qa qb (lay_of da) (lay_of db) ?_ (hq (.bool _) _ H σ s.heap s.toks (.refl _) st (mk_bool _) (h _ (eqv_iff da db)))
  have := K.fit.un
  refine rwl (deep_dat _) ?_
  lia
theorem cmp_ned {a b d e : AV} (ha : Has K σ a d) (hb : Has K σ b e) (da : d.isD = true) (db : e.isD = true) (hd : d.deep ≤ 8 := by decide) (h : ∀ c : Bool, (c = true ↔ d ≠ e) → Post (.bool c) σ) : Cmp K .NotEq a b σ Post := fun H s st us hu Q E hq => by
  refine e2_3 hu.two ?_
  rintro x y rfl rx ry
  refine e1_1 (ha H s st x rx) ?_
  rintro as qa
  refine e1_1 (hb H s st y ry) ?_
  rintro bs qb
  refine SeqAt.compareNe_reads qa qb (lay_of da) (lay_of db) ?_ (hq (.bool _) _ H σ s.heap s.toks (.refl _) st (mk_bool _) (h _ ?_))
  · have := K.fit.un
    refine rwl (deep_dat _) ?_
    lia
  · have := eqv_iff da db
    rw [Bool.not_eq_true', ← Bool.not_eq_true, this]
end
end

section
open PySem PySem.P PyProof.Rows PySem.MeetsSeq PySem.SeqRoads2
section
variable {K : Cx} {σ : S} {Post : AV → S → Prop} {PF : AF → S → Prop} {PU : Unit → S → Prop}

/- taking a tuple apart -/
theorem VRs.cons_inv {H : HF} {a : AV} {as : List AV} {vs : List Value} (h : VRs H (a :: as) vs) : ∃ u us, vs = u :: us ∧ VR H a u ∧ VRs H as us := by unfold VRs at h; exact h
theorem VRs.nil_inv {H : HF} {vs : List Value} (h : VRs H [] vs) : vs = [] := by unfold VRs at h; exact h

noncomputable def NoStar (es : List Expr) : Prop := ∀ env : Env, assignEach es env = es.map fun e => (false, assign e env)
theorem assignEach_map {env : Env} {es : List Expr} (h : NoStar es) : (assignEach es env).map (·.2) = es.map fun e => assign e env := by
  rw [h env, List.map_map]; rfl
theorem assignEach_len {env : Env} {es : List Expr} (h : NoStar es) : (assignEach es env).length = es.length := by rw [h env, List.length_map]
theorem assignEach_star {env : Env} {es : List Expr} (h : NoStar es) : (assignEach es env).findIdx? (·.1) = none := by
  rw [h env, List.findIdx?_eq_none_iff]
  intro x hx
  obtain ⟨e, _, rfl⟩ := List.mem_map.mp hx
  rfl

theorem asgL_run : ∀ {es : List Expr} {vs : List AV} {σ : S} {P : S → Prop}, AsgL K es vs σ P → ∀ (H : HF) (s : Shared), K.St H K.F σ s.heap → ∀ us, VRs H vs us → ∀ (Q : Unit → Shared → Prop) (E : Value → Shared → Prop),
    (∀ H' σ' h' tk, HF.le H H' → K.St H' K.F σ' h' → P σ' → Q () { s with heap := h', toks := tk }) → wpAny (model K.prog K.w) K.A (assignInOrder (es.map fun e => assign e K.F.env) us) Q E s
  | [], [], σ, P, h, H, s, st, us, hu, Q, E, hq => by
    cases hu.nil_inv
    exact wpAny_pure (hq H σ s.heap s.toks (.refl _) st h)
  | e :: es, v :: vs, σ, P, h, H, s, st, us, hu, Q, E, hq => by
    refine e2_3 hu.cons_inv ?_
    rintro u us' rfl r1 r2
    show wpAny _ _ (do holding us' (assign e K.F.env u); assignInOrder (es.map fun e => assign e K.F.env) us') _ _ _
    refine wpAny_bind (wpAny_holding ((show Asg K e v σ _ from h).at (vs := [u]) st (VRs.cons r1 VRs.nil) fun _ _ H1 σ1 h1 t1 le1 s1 _ hb => ?_))
    exact asgL_run hb H1 { s with heap := h1, toks := t1 } s1 us' (r2.mono le1) Q E fun H2 σ2 h2 t2 le2 s2 hp => hq H2 σ2 h2 t2 (le1.trans le2) s2 hp
  | [], _ :: _, _, _, h, _, _, _, _, _, _, _, _ => h.elim
  | _ :: _, [], _, _, h, _, _, _, _, _, _, _, _ => h.elim

theorem unpack_any {t : Addr} {items : Array Value} {n : Nat} {A : Around} {prog : Program} {w : World} {s : Shared} {E : Value → Shared → Prop} {Q : List Value → Shared → Prop} (hh : A.handled = none) (ht : s.heap.get? t = some (tupO items)) (hn : n = items.size)
    (hQ : ∀ h', Heap.ExtBut s.heap.objs.size s.heap h' → Q items.toList { s with heap := h' }) : wpAny (model prog w) A (unpackItems (.ref t) n none) Q E s := by
  subst hn
  exact wpAny_unpackItems_tuple hh ⟨_, ht, rfl, 0, rfl⟩ hQ
theorem kept_of_ext {h h' : Heap} (x : Heap.ExtBut h.objs.size h h') : Kept h h' := fun b o e => x b o (Nat.ne_of_lt (Heap.lt_size e)) e

theorem asg_tup {es : List Expr} {k : Nat} {p : Pos} {vs : List AV} (h : AsgL K es vs σ fun σ' => PU () σ') (hl : vs.length = es.length := by rfl) (hs : NoStar es := by exact fun _ => rfl) : Asg K (.Tuple es k p) (.tup vs) σ PU := fun H s st us hu Q E hq => by
  refine e1_2 hu.one ?_
  rintro u rfl ru
  refine e2_3 (vr_tup ru) ?_
  rintro a ws rfl ha r
  have e2 : ws.size = vs.length := by simpa using r.length
  refine wpAny_assign_Tuple (x1 := k) K.fit.hd ⟨_, st.m.keep _ _ ha, rfl, 0, rfl⟩ (by rw [assignEach_len hs, e2, hl]) (assignEach_star hs) fun h' hx => ?_
  refine rwl (assignEach_map hs) ?_
  exact asgL_run h H { s with heap := h' } (st.kept (kept_of_ext hx)) ws.toList r Q E fun H2 σ2 h2 t2 le2 s2 hp => hq () () H2 σ2 h2 t2 le2 s2 trivial hp
theorem x_tup {es : List Expr} {k : Nat} {tp p : Pos} {value : Expr} (h : Ev K value σ fun v σ1 => ∃ vs, v = .tup vs ∧ vs.length = es.length ∧ AsgL K es vs σ1 fun σ2 => PF .next σ2)
    (hst : NoStar es) (hs : swapsWithSole [.Tuple es k tp] value p.line K.F.env = pure false) (hw : swappedStores [.Tuple es k tp] value K.F.env = pure none) : X K (.Assign [.Tuple es k tp] value p) σ PF :=
  fun H s hs' Q E hq => PyProof.Rows.Assign_Tuple (h.run hs' fun v u H1 σ1 h1 t1 le1 s1 rv hb => by
    refine e1_3 hb ?_
    clear hb
    rintro vs rfl hl hb
    refine (asg_tup (k := k) (p := tp) (PU := fun _ σ2 => PF .next σ2) hb hl hst).at (vs := [u]) (s := { s with heap := h1, toks := t1 }) s1 (VRs.cons rv VRs.nil) fun _ _ H2 σ2 h2 t2 le2 s2 _ hp => hq .next .next H2 σ2 h2 t2 (le1.trans le2) s2 rfl hp) hs hw
theorem stoL_run : ∀ {es : List Str} {vs : List AV} {σ : S} {P : S → Prop}, StoL K es vs σ P → ∀ (H : HF) (s : Shared), K.St H K.F σ s.heap → ∀ us, VRs H vs us → ∀ (Q : Unit → Shared → Prop) (E : Value → Shared → Prop),
    (∀ H' σ' h' tk, HF.le H H' → K.St H' K.F σ' h' → P σ' → Q () { s with heap := h', toks := tk }) → wpAny (model K.prog K.w) K.A (assignInOrder (es.map fun e => bindName K.F.env e) us) Q E s
  | [], [], σ, P, h, H, s, st, us, hu, Q, E, hq => by
    cases hu.nil_inv
    exact wpAny_pure (hq H σ s.heap s.toks (.refl _) st h)
  | e :: es, v :: vs, σ, P, h, H, s, st, us, hu, Q, E, hq => by
    refine e2_3 hu.cons_inv ?_
    rintro u us' rfl r1 r2
    show wpAny _ _ (do holding us' (bindName K.F.env e u); assignInOrder (es.map fun e => bindName K.F.env e) us') _ _ _
    refine wpAny_bind (wpAny_holding (wpAny_bindName ((show Sto K e v σ _ from h).at (vs := [u]) st (VRs.cons r1 VRs.nil) fun _ _ H1 σ1 h1 t1 le1 s1 _ hb => ?_)))
    exact stoL_run hb H1 { s with heap := h1, toks := t1 } s1 us' (r2.mono le1) Q E fun H2 σ2 h2 t2 le2 s2 hp => hq H2 σ2 h2 t2 (le1.trans le2) s2 hp
  | [], _ :: _, _, _, h, _, _, _, _, _, _, _, _ => h.elim
  | _ :: _, [], _, _, h, _, _, _, _, _, _, _, _ => h.elim
theorem x_swap {es : List Expr} {k : Nat} {tp p : Pos} {value : Expr} (names : List Str) (h : Ev K value σ fun v σ1 => ∃ vs, v = .tup vs ∧ vs.length = names.length ∧ StoL K names.reverse vs.reverse σ1 fun σ2 => PF .next σ2)
    (hs : swapsWithSole [.Tuple es k tp] value p.line K.F.env = pure false) (hw : swappedStores [.Tuple es k tp] value K.F.env = pure (some names)) : X K (.Assign [.Tuple es k tp] value p) σ PF :=
  fun H s hs' Q E hq => PyProof.Rows.Assign_Tuple_swapped (names := names) (h.run hs' fun v u H1 σ1 h1 t1 le1 s1 rv hb => by
    refine e1_3 hb ?_
    clear hb
    rintro vs rfl hl hb
    refine e2_3 (vr_tup rv) ?_
    rintro a ws rfl ha r
    have e2 : ws.size = vs.length := by simpa using r.length
    refine unpack_any (s := { s with heap := h1, toks := t1 }) K.fit.hd (s1.m.keep _ _ ha) (by rw [e2, hl]) fun h' hx => ?_
    exact stoL_run hb H1 { s with heap := h', toks := t1 } (s1.kept (kept_of_ext hx)) ws.toList.reverse r.reverse _ _ fun H2 σ2 h2 t2 le2 s2 hp => hq .next .next H2 σ2 h2 t2 (le1.trans le2) s2 rfl hp) hs hw

/- lists, frozen or ours -/
noncomputable def LstAt (K : Cx) (σ : S) (a : AV) (vs : List AV) : Prop := ∀ (H : HF) (s : Shared), K.St H K.F σ s.heap → ∀ u, VR H a u → ∃ l ws n, u = .ref l ∧ s.heap.get? l = some (lstO ws n) ∧ VRs H vs ws.toList
theorem LstAt.lst {vs : List AV} : LstAt K σ (.lst vs) vs := fun H s st u r => by
  refine e3_3 (vr_lst r) ?_
  rintro a ws n rfl ha rv
  exact i3_3 a ws n rfl (st.m.keep _ _ ha) rv
theorem LstAt.mu {i : Nat} {a : Addr} {vs : List AV} (hi : σ.mu[i]? = some (a, .list vs)) : LstAt K σ (.raw (.ref a)) vs := fun H s st u r => by
  cases vr_raw r
  refine e2_2 (mu_get st hi) ?_
  rintro ws n e rv
  exact i3_3 a ws n rfl e rv
theorem strsAre_of {H : HF} : ∀ {xs : List Str} {vs : List Value}, VRs H (xs.map AV.str) vs → StrsAre vs xs
  | [], _, h => by cases h.nil_inv; exact .nil
  | x :: xs, _, h => by
    refine e2_3 (VRs.cons_inv h) ?_
    rintro u us rfl r1 r2
    refine e1_1 (vr_str r1) ?_
    rintro t rfl
    exact .cons x t (strsAre_of r2)
theorem vrs_strs {H : HF} : ∀ {xs : List Str} {vs : List Value}, StrsAre vs xs → VRs H (xs.map AV.str) vs
  | _, _, .nil => VRs.nil
  | _, _, .cons x t h => VRs.cons (mk_str x t) (vrs_strs h)
theorem ints_of {H : HF} : ∀ {xs : List Int} {vs : List Value}, VRs H (xs.map AV.int) vs → ∃ ps : List (Int × Tok), vs = ps.map (fun p => .int p.1 p.2) ∧ ps.map (·.1) = xs
  | [], _, h => by cases h.nil_inv; exact ⟨[], rfl, rfl⟩
  | x :: xs, _, h => by
    refine e2_3 (VRs.cons_inv h) ?_
    rintro u us rfl r1 r2
    refine e1_1 (vr_int r1) ?_
    rintro t rfl
    refine e1_2 (ints_of r2) ?_
    rintro ps rfl e
    exact ⟨(x, t) :: ps, rfl, by rw [List.map_cons, e]⟩

theorem c_join {a : AV} {x : Str} {ys : List Str} (hL : LstAt K σ a (ys.map AV.str)) (hok : (ys.map (·.length)).sum + ys.length * x.length ≤ 16777216) (h : Post (.str (Txt.join x ys)) σ) : CallK K (.builtin "str.join") [.str x, a] σ Post :=
  callK_leaf (fun H s st us hu Q E hq => by
    refine e2_3 hu.two ?_
    rintro u v rfl r1 r2
    refine e1_1 (vr_str r1) ?_
    rintro t rfl
    refine e3_3 (hL H s st v r2) ?_
    rintro l ws n rfl e r
    exact join_list ⟨_, e, rfl, n, rfl⟩ (strsAre_of r) hok fun t' k => hq _ _ (mk_str _ _)) h
theorem c_swapcase {x : Str} (hf : Builtin.Str.tooLong (Txt.swapcase x).length = false) (h : Post (.str (Txt.swapcase x)) σ) : CallK K (.builtin "str.swapcase") [.str x] σ Post :=
  callK_leaf (fun H s st us hu Q E hq => by
    refine e1_2 hu.one ?_
    rintro u rfl r
    refine e1_1 (vr_str r) ?_
    rintro t rfl
    exact SC.swapcase hf (hq _ _ (mk_str _ _))) h
theorem c_lower {x : Str} (hf : Builtin.Str.tooLong (Txt.lower x).length = false) (h : Post (.str (Txt.lower x)) σ) : CallK K (.builtin "str.lower") [.str x] σ Post :=
  callK_leaf (fun H s st us hu Q E hq => by
    refine e1_2 hu.one ?_
    rintro u rfl r
    refine e1_1 (vr_str r) ?_
    rintro t rfl
    exact SC.lower hf (hq _ _ (mk_str _ _))) h
theorem c_scount {x y : Str} (h : Post (.int (Txt.count x y)) σ) : CallK K (.builtin "str.count") [.str x, .str y] σ Post :=
  callK_leaf (fun H s st us hu Q E hq => by
    refine e2_3 hu.two ?_
    rintro u v rfl r1 r2
    refine e1_1 (vr_str r1) ?_
    rintro t rfl
    refine e1_1 (vr_str r2) ?_
    rintro t2 rfl
    exact SC.count (hq _ _ (mk_int _ _))) h
theorem b_strmul {x : Str} {n : Int} (hok : MulOk x n) (h : Post (.str (Txt.mul x n)) σ) : Bin K .Mult (.str x) (.int n) σ Post := fun H s st us hu Q E hq => by
  refine e2_3 hu.two ?_
  rintro u v rfl r1 r2
  refine e1_1 (vr_str r1) ?_
  rintro t rfl
  refine e1_1 (vr_int r2) ?_
  rintro t2 rfl
  exact SB.mul hok fun t' k => hq _ _ H σ s.heap k (.refl _) st (mk_str _ _) h
theorem ibin_cat {x y : Str} (hsz : x.length + y.length ≤ sizeLine) (h : Post (.str (x ++ y)) σ) : IBin K .Add (.str x) (.str y) σ Post := fun H s st us hu Q E hq => by
  refine e2_3 hu.two ?_
  rintro u v rfl r1 r2
  refine e1_1 (vr_str r1) ?_
  rintro t rfl
  refine e1_1 (vr_str r2) ?_
  rintro t2 rfl
  exact SB.iadd (fun t' k => hq _ _ H σ s.heap k (.refl _) st (mk_str _ _) h) hsz
theorem str_eq_iff (x y : Str) : (x.cps.toList == y.cps.toList) = (x == y) := by
  rw [Bool.eq_iff_iff]
  simp only [beq_iff_eq]
  exact ⟨fun h => Str.ext' (Array.toList_inj.mp h), fun h => by rw [h]⟩
theorem cmp_nes {x y : Str} (h : Post (.bool (x != y)) σ) : Cmp K .NotEq (.str x) (.str y) σ Post := fun H s st us hu Q E hq => by
  refine e2_3 hu.two ?_
  rintro u v rfl r1 r2
  refine e1_1 (vr_str r1) ?_
  rintro t rfl
  refine e1_1 (vr_str r2) ?_
  rintro t2 rfl
  refine PySem.P.ne_str ?_
  have e : (x.cps.toList != y.cps.toList) = (x != y) := by
    show (!(x.cps.toList == y.cps.toList)) = !(x == y)
    rw [str_eq_iff]
  refine rwl e ?_
  exact hq _ _ H σ s.heap s.toks (.refl _) st (mk_bool _) h
theorem c_split {x y : Str} (hy : (y.length == 0) = false) (hx : x.length ≤ sizeLine) (hp : (Builtin.Str.partsBetween x (Builtin.Str.occurrences x y 0 x.length (x.length + 1)) y.length).length ≤ sizeLine) (h : Post (.lst ((Txt.split x y).map AV.str)) σ) :
    CallK K (.builtin "str.split") [.str x, .str y] σ Post := fun H s st us hu Q E hq => by
  refine e2_3 hu.two ?_
  rintro u v rfl r1 r2
  refine e1_1 (vr_str r1) ?_
  rintro t rfl
  refine e1_1 (vr_str r2) ?_
  rintro t2 rfl
  have fin : ∀ (vals : List Value) (k : Nat), StrsAre vals (Txt.split x y) → Q (.ref s.heap.objs.size) { s with heap := s.heap.push { cls := .type "list", data := .seq vals.toArray }, toks := k } := fun vals k hs => by
    refine e0_2 (st.alloc { cls := .type "list", data := .seq vals.toArray }) ?_
    rintro le s2
    exact hq _ _ _ σ _ k le s2 (mk_lst (n := 0) (HF.put_at _ _ _) (by simpa using vrs_strs hs)) h
  have nums : ∀ (tk : Nat) (xs : List Str), StrsAre (strsFrom tk xs) xs := fun tk xs => by
    induction xs generalizing tk with
    | nil => exact .nil
    | cons z r ih => exact .cons z tk (ih (tk + 1))
  cases h1 : (decide (x.length < y.length) || decide (Builtin.Str.strKind x < Builtin.Str.strKind y))
  · cases hf : (Builtin.Str.occurrences x y 0 x.length (x.length + 1)).isEmpty
    · refine call_meets F.slot_str_split (typeIs_str _ _ _) F.entry_str_split (F.args_str_split_2 _ _) (meets_str_split_sep x y t t2 h1 hy hf hx hp) ?_
      refine fin _ _ ?_
      have e : Txt.split x y = Builtin.Str.partsBetween x (Builtin.Str.occurrences x y 0 x.length (x.length + 1)) y.length := (if_neg (ne_true_of_eq_false h1)).trans (if_neg (ne_true_of_eq_false hf))
      refine rwl e ?_
      exact nums _ _
    · refine call_meets F.slot_str_split (typeIs_str _ _ _) F.entry_str_split (F.args_str_split_2 _ _) (meets_str_split_not_found x y t t2 h1 hy hf) (fin [.str x t] s.toks ?_)
      refine rwl (show Txt.split x y = [x] from (if_neg (ne_true_of_eq_false h1)).trans (if_pos hf)) ?_
      exact .cons x t .nil
  · refine call_meets F.slot_str_split (typeIs_str _ _ _) F.entry_str_split (F.args_str_split_2 _ _) (meets_str_split_cannot_occur x y t t2 h1) (fin [.str x t] s.toks ?_)
    refine rwl (show Txt.split x y = [x] from if_pos h1) ?_
    exact .cons x t .nil

/- lists: sums, counts, places -/
theorem preSum_list : ∀ (ps : List (Int × Tok)) , preSum (numAt ps.toArray) ps.length = (ps.map (·.1)).sum := fun ps => by
  have key : ∀ (n : Nat), n ≤ ps.length → preSum (numAt ps.toArray) n = ((ps.take n).map (·.1)).sum := fun n => by
    induction n with
    | zero => intro _; rfl
    | succ n ih =>
      intro hn
      have hlt : n < ps.length := by lia
      rw [preSum, ih (by lia), List.take_add_one, List.getElem?_eq_getElem hlt, List.map_append, List.sum_append]
      simp only [Option.toList_some, List.map_cons, List.map_nil, List.sum_cons, List.sum_nil]
      simp [numAt, hlt]
  rw [key ps.length (Nat.le_refl _), List.take_length]
theorem c_sum {a : AV} {xs : List Int} (hL : LstAt K σ a (xs.map AV.int)) (h : Post (.int xs.sum) σ) : CallK K (.builtin "sum") [a] σ Post := fun H s st us hu Q E hq => by
  refine e1_2 hu.one ?_
  rintro u rfl r
  refine e3_3 (hL H s st u r) ?_
  rintro l ws n rfl e rv
  refine e1_2 (ints_of rv) ?_
  rintro ps e1 e2
  have e3 : ws = intItems ps.toArray := by
    apply Array.toList_inj.mp
    rw [e1]; simp [intItems]
  subst e3
  refine sum_intListG K.fit.hd ⟨_, e, rfl, n, rfl⟩ fun h' tk t' hk => ?_
  have e4 : preSum (numAt ps.toArray) ps.toArray.size = xs.sum := by
    rw [List.size_toArray, preSum_list, e2]
  refine rwl e4 ?_
  exact hq _ _ H σ h' tk (.refl _) (st.kept hk) (mk_int _ _) h

noncomputable def eqI (i : Int) (v : Value) : Bool := match v with | .int j _ => j == i | _ => false
noncomputable def eqT (x : Str) (v : Value) : Bool := match v with | .str y _ => y == x | _ => false
theorem eqgives_ints {xs : List Int} {H : HF} {vs : List Value} (h : VRs H (xs.map AV.int) vs) (i : Int) (t : Tok) : ∀ y, y ∈ vs → EqGives y (.int i t) (eqI i y) := by
  refine e1_2 (ints_of h) ?_
  rintro ps rfl _
  intro y hy
  refine e1_2 (List.mem_map.mp hy) ?_
  rintro p _ rfl
  exact EqGives.int _ _ _ _
theorem eqgives_strs {xs : List Str} {H : HF} {vs : List Value} (h : VRs H (xs.map AV.str) vs) (x : Str) (t : Tok) : ∀ y, y ∈ vs → EqGives y (.str x t) (eqT x y) := by
  have hs := strsAre_of h
  clear h
  induction hs with
  | nil => intro y hy; cases hy
  | cons z u hs ih =>
    intro y hy
    rcases List.mem_cons.mp hy with rfl | hy
    · have := EqGives.str z x u t
      rw [str_eq_iff] at this
      exact this
    · exact ih y hy
theorem count_ints {xs : List Int} {H : HF} {vs : List Value} (h : VRs H (xs.map AV.int) vs) (i : Int) : vs.countP (eqI i) = xs.count i := by
  refine e1_2 (ints_of h) ?_
  rintro ps rfl rfl
  clear h
  induction ps with
  | nil => rfl
  | cons p ps ih =>
    refine rwl List.map_cons ?_
    refine rwl List.map_cons ?_
    refine rwl List.countP_cons ?_
    refine rwl List.count_cons ?_
    refine rwl ih ?_
    rfl
theorem c_count {a : AV} {xs : List Int} {i : Int} (hL : LstAt K σ a (xs.map AV.int)) (h : Post (.int (xs.count i : Nat)) σ) : CallK K (.builtin "list.count") [a, .int i] σ Post :=
  callK_leaf (fun H s st us hu Q E hq => by
    refine e2_3 hu.two ?_
    rintro u v rfl r1 r2
    refine e1_1 (vr_int r2) ?_
    rintro t rfl
    refine e3_3 (hL H s st u r1) ?_
    rintro l ws n rfl e rv
    refine call_meets F.slot_list_count ⟨_, e, rfl⟩ F.entry_list_count (F.args_list_count_2 _ _) (list_count l ws n (.int i t) (eqI i) (fun y hy => eqgives_ints rv i t y (by simpa using hy))) ⟨e, ?_⟩
    refine rwl (count_ints rv i) ?_
    exact hq _ _ (mk_int _ _)) h
theorem any_ints {xs : List Int} {H : HF} {vs : List Value} (h : VRs H (xs.map AV.int) vs) (i : Int) : vs.any (eqI i) = xs.contains i := by
  refine e1_2 (ints_of h) ?_
  rintro ps rfl rfl
  clear h
  induction ps with
  | nil => rfl
  | cons p ps ih =>
    refine rwl List.map_cons ?_
    refine rwl List.map_cons ?_
    refine rwl List.any_cons ?_
    refine rwl List.contains_cons ?_
    refine rwl ih ?_
    show (p.1 == i || _) = (i == p.1 || _)
    rw [Bool.beq_comm]
theorem cmp_in {a : AV} {xs : List Int} {i : Int} (hL : LstAt K σ a (xs.map AV.int)) (h : Post (.bool (xs.contains i)) σ) : Cmp K .In (.int i) a σ Post := fun H s st us hu Q E hq => by
  refine e2_3 hu.two ?_
  rintro u v rfl r1 r2
  refine e1_1 (vr_int r1) ?_
  rintro t rfl
  refine e3_3 (hL H s st v r2) ?_
  rintro l ws n rfl e rv
  refine PySem.SeqRoads2.in_list (eqI i) (fun y hy => eqgives_ints rv i t y (by simpa using hy)) e ?_
  refine rwr Array.any_toList ?_
  refine rwl (any_ints rv i) ?_
  exact hq _ _ H σ s.heap s.toks (.refl _) st (mk_bool _) h
theorem cmp_notin {a : AV} {xs : List Int} {i : Int} (hL : LstAt K σ a (xs.map AV.int)) (h : Post (.bool (!xs.contains i)) σ) : Cmp K .NotIn (.int i) a σ Post := fun H s st us hu Q E hq => by
  refine e2_3 hu.two ?_
  rintro u v rfl r1 r2
  refine e1_1 (vr_int r1) ?_
  rintro t rfl
  refine e3_3 (hL H s st v r2) ?_
  rintro l ws n rfl e rv
  refine PySem.SeqRoads2.notIn_list (eqI i) (fun y hy => eqgives_ints rv i t y (by simpa using hy)) e ?_
  refine rwr Array.any_toList ?_
  refine rwl (any_ints rv i) ?_
  exact hq _ _ H σ s.heap s.toks (.refl _) st (mk_bool _) h
end
section
variable {K : Cx} {σ : S} {Post : AV → S → Prop} {PF : AF → S → Prop} {PU : Unit → S → Prop}

/- sorted() of texts -/
noncomputable def SeqOf (K : Cx) (σ : S) (a : AV) (vs : List AV) : Prop := ∀ (H : HF) (s : Shared), K.St H K.F σ s.heap → ∀ u, VR H a u → ∃ l ws n T, (T = "list" ∨ T = "tuple") ∧ u = .ref l ∧ s.heap.get? l = some { cls := .type T, data := .seq ws n } ∧ VRs H vs ws.toList
theorem SeqOf.tup {vs : List AV} : SeqOf K σ (.tup vs) vs := fun H s st u r => by
  refine e2_3 (vr_tup r) ?_
  rintro a ws rfl ha rv
  exact i4_4 a ws 0 ("tuple") (.inr rfl) rfl (st.m.keep _ _ ha) rv
theorem SeqOf.of {a : AV} {vs : List AV} (h : LstAt K σ a vs) : SeqOf K σ a vs := fun H s st u r => by
  refine e3_3 (h H s st u r) ?_
  rintro l ws n rfl e rv
  exact i4_4 l ws n ("list") (.inl rfl) rfl e rv
theorem c_sorted {a : AV} {ss : List Str} (hL : SeqOf K σ a (ss.map AV.str)) (h64 : ss.length < 64) (h : ∀ ss' : List Str, ss'.Perm ss → sortedS ss' = true → Post (.lst (ss'.map AV.str)) σ) : CallK K (.builtin "sorted") [a] σ Post := fun H s st us hu Q E hq => by
  refine e1_2 hu.one ?_
  rintro u rfl r
  refine e4_4 (hL H s st u r) ?_
  rintro l ws n T hT rfl e rv
  have hS := strsAre_of rv
  have hlen : ws.toList.length = ss.length := by rw [rv.length, List.length_map]
  refine Calls.call_function_entry kind_sorted plain_sorted entry_sorted (args_sorted1 _) ?_
  unfold Builtin.«sorted»
  refine wpAny_bind (wpAny_pure ?_)
  refine wpAny_bind (wpAny_collect_seq l hT e rfl rfl (fun h1 hk => ?_) (by have : ws.size = ss.length := by simpa using hlen
                                                                            rw [sizeLine_eq]; lia))
  refine wpAny_bind (wpAny_newList ?_ (by rw [sizeLine_eq, hlen]; lia))
  have st1 : K.St H K.F σ h1 := st.kept hk
  have ho : (h1.push (seqObj "list" ws.toList.toArray 0)).get? h1.objs.size = some (seqObj "list" ws.toList.toArray 0) := Heap.get?_push_size _ rfl
  refine wpAny_bind (wpAny_holding (wpAny_call_entry slot_list_sort (s := { s with heap := h1.push (seqObj "list" ws.toList.toArray 0) }) ⟨_, ho, rfl⟩ entry_list_sort
    (list_sort_treeK strKind_oneLt ho hS.keysOf (fun v₁ v₂ rest e => keyKind_strs (by rw [← e]; exact hS)) (by rw [hlen]; exact h64) fun st' a1 a2 => ⟨_, rfl, ?_⟩) (args_list_sort _)))
  refine e1_3 (sorted_out_str hS a1 a2) ?_
  rintro ss' h1' h2' h3'
  refine wpAny_pure ⟨_, rfl, ?_⟩
  have hold : Kept h1 (sortedHeap (h1.push (seqObj "list" ws.toList.toArray 0)) h1.objs.size ws.toList ((arrOf st').map (·.2))) := fun b o eb => by
    have hlt := Heap.lt_size eb
    refine rwl (sortedHeap_old (Nat.ne_of_lt hlt) (by rw [size_push']; exact Nat.lt_succ_of_lt hlt)) ?_
    exact Heap.get?_push_of_some _ eb
  refine e1_1 (sortedHeap_at (vs := ws.toList) (out := (arrOf st').map (·.2)) ho) ?_
  rintro ep hat
  refine e0_2 ((st1.kept hold).freeze hat (fun p hp z => Nat.lt_irrefl _ (z ▸ st1.m.lt p hp)) (fun z => Nat.lt_irrefl _ (st1.own_lt _ z)) st1.m.none_size) ?_
  rintro le st2
  exact hq _ _ _ σ _ s.toks le st2 (mk_lst (n := ep) (HF.put_at _ _ _) (by simpa using vrs_strs h1')) (h ss' h2' h3')

/- list + list -/
theorem b_lcat {a b : AV} {vs us : List AV} (ha : LstAt K σ a vs) (hb : LstAt K σ b us) (hn : vs.length + us.length ≤ sizeLine) (h : Post (.lst (vs ++ us)) σ) : Bin K .Add a b σ Post := fun H s st xs hx Q E hq => by
  refine e2_3 hx.two ?_
  rintro x y rfl r1 r2
  refine e3_3 (ha H s st x r1) ?_
  rintro l ws n rfl e1 q1
  refine e3_3 (hb H s st y r2) ?_
  rintro m zs k rfl e2 q2
  refine add_list e1 e2 ?_ (by have := q1.length; have := q2.length; simp only [Array.length_toList] at *; lia)
  refine e0_2 (st.alloc { cls := .type "list", data := .seq (ws ++ zs) }) ?_
  rintro le s2
  exact hq _ _ _ σ _ s.toks le s2 (mk_lst (n := 0) (HF.put_at _ _ _) (by rw [Array.toList_append]; exact (q1.mono le).append (q2.mono le))) h

/- places -/
theorem c_index {a : AV} {xs : List Str} {x : Str} {j : Nat} (hL : LstAt K σ a (xs.map AV.str)) (hj : xs[j]? = some x) (hno : ∀ m, m < j → xs[m]? ≠ some x) (hsm : j < 2 ^ 62) (h : Post (.int j) σ) : CallK K (.builtin "list.index") [a, .str x] σ Post :=
  callK_leaf (fun H s st us hu Q E hq => by
    refine e2_3 hu.two ?_
    rintro u v rfl r1 r2
    refine e1_1 (vr_str r2) ?_
    rintro t rfl
    refine e3_3 (hL H s st u r1) ?_
    rintro l ws n rfl e rv
    have hlen : ws.size = xs.length := by have := rv.length; simpa using this
    have at_ : ∀ m (hm : m < ws.size), ∃ t', ws[m] = .str (xs[m]'(by lia)) t' := fun m hm => by
      refine e1_2 (rv.get (i := m) (a := .str (xs[m]'(by lia))) (by rw [List.getElem?_map, List.getElem?_eq_getElem (by lia)]; rfl)) ?_
      rintro w hw rw'
      refine e1_1 (vr_str rw') ?_
      rintro t' e'
      refine ⟨t', ?_⟩
      have : ws.toList[m]? = some ws[m] := by rw [Array.getElem?_toList, Array.getElem?_eq_getElem hm]
      rw [this] at hw
      cases hw; exact e'
    refine e1_1 (List.getElem?_eq_some_iff.mp hj) ?_
    rintro hj1 hj2
    refine call_meets F.slot_list_index ⟨_, e, rfl⟩ F.entry_list_index (F.args_list_index_2 _ _) (list_index l ws n (.str x t) (eqT x) (fun y hy => eqgives_strs rv x t y (by simpa using hy)) j (by lia) (by lia) ?_ fun m hm hlt => ?_) ⟨e, hq _ _ (mk_int _ _)⟩
    · refine e1_1 (at_ j (by lia)) ?_
      rintro t' e'
      refine rwl e' ?_
      show (xs[j] == x) = true
      rw [hj2]; exact beq_self_eq_true _
    · refine e1_1 (at_ m hm) ?_
      rintro t' e'
      refine rwl e' ?_
      show (xs[m] == x) = false
      rw [beq_eq_false_iff_ne]
      intro z
      exact hno m hlt (by rw [List.getElem?_eq_getElem (by omega), z])) h
theorem VRs.eraseIdx {H : HF} : ∀ {as : List AV} {vs : List Value}, VRs H as vs → ∀ (i : Nat), VRs H (as.eraseIdx i) (vs.eraseIdx i)
  | [], _, h, i => by cases h.nil_inv; simpa using VRs.nil
  | _ :: as, _, h, i => by
    refine e2_3 h.cons_inv ?_
    rintro u us rfl h1 h2
    cases i with
    | zero => simpa using h2
    | succ i => simpa using VRs.cons h1 (h2.eraseIdx i)
theorem map_erase {α β : Type} (f : α → β) : ∀ (l : List α) (j : Nat), (l.eraseIdx j).map f = (l.map f).eraseIdx j
  | [], j => by simp
  | x :: l, 0 => by simp
  | x :: l, j + 1 => by simp [map_erase f l j]
theorem c_remove (i : Nat) {a : Addr} {xs : List Int} {x : Int} {j : Nat} (hi : σ.mu[i]? = some (a, .list (xs.map AV.int))) (hn : xs.length ≤ sizeLine) (hj : xs[j]? = some x) (hno : ∀ m, m < j → xs[m]? ≠ some x)
    (h : Post .none (σ.putM i a (.list ((xs.eraseIdx j).map AV.int)))) : CallK K (.builtin "list.remove") [.raw (.ref a), .int x] σ Post := fun H s st us hu Q E hq => by
  refine e2_3 hu.two ?_
  rintro u v rfl r1 r2
  cases vr_raw r1
  refine e1_1 (vr_int r2) ?_
  rintro t rfl
  refine e2_2 (mu_get st hi) ?_
  rintro ws n e rv
  have hlen : ws.size = xs.length := by have := rv.length; simpa using this
  have at_ : ∀ m (hm : m < ws.size), ∃ t', ws[m] = .int (xs[m]'(by lia)) t' := fun m hm => by
    refine e1_2 (rv.get (i := m) (a := .int (xs[m]'(by lia))) (by rw [List.getElem?_map, List.getElem?_eq_getElem (by lia)]; rfl)) ?_
    rintro w hw rw'
    refine e1_1 (vr_int rw') ?_
    rintro t' e'
    refine ⟨t', ?_⟩
    have : ws.toList[m]? = some ws[m] := by rw [Array.getElem?_toList, Array.getElem?_eq_getElem hm]
    rw [this] at hw
    cases hw; exact e'
  refine e1_1 (List.getElem?_eq_some_iff.mp hj) ?_
  rintro hj1 hj2
  refine call_meets F.slot_list_remove ⟨_, e, rfl⟩ F.entry_list_remove (F.args_list_remove_2 _ _) (list_remove a ws n (.int x t) (eqI x) (fun y hy => eqgives_ints rv x t y (by simpa using hy)) j (by lia) ?_ (fun m hm hlt => ?_) (by lia)) ⟨e, ?_⟩
  · refine e1_1 (at_ j (by lia)) ?_
    rintro t' e'
    refine rwl e' ?_
    show (xs[j] == x) = true
    rw [hj2]; exact beq_self_eq_true _
  · refine e1_1 (at_ m hm) ?_
    rintro t' e'
    refine rwl e' ?_
    show (xs[m] == x) = false
    rw [beq_eq_false_iff_ne]
    intro z
    exact hno m hlt (by rw [List.getElem?_eq_getElem (by omega), z])
  · refine hq .none _ H _ _ s.toks (.refl _) (st.upd hi e (fun xs => xs.eraseIdxIfInBounds j) ?_) mk_none h
    refine rwl (map_erase _ _ _) ?_
    have e3 : (ws.eraseIdxIfInBounds j).toList = ws.toList.eraseIdx j := by
      unfold Array.eraseIdxIfInBounds
      refine rwl (dif_pos (by lia)) ?_
      simp
    refine rwl e3 ?_
    exact rv.eraseIdx j
end
/- a part of a slice -/
noncomputable def partA : Option Int → AV
  | none => .none
  | some i => .int i
noncomputable abbrev EvP (K : Cx) (x : Option Expr) (σ : S) (Post : Option Int → S → Prop) : Prop := K.T (fun H o v => VR H (partA o) v) (evalPart x K.F.env) σ Post
theorem part_is {H : HF} {o : Option Int} {v : Value} (h : VR H (partA o) v) : IsPart v o := by
  cases o with
  | none => cases vr_none h; exact .none
  | some i => obtain ⟨t, rfl⟩ := vr_int h; exact .int i t
noncomputable abbrev slcO (l u : Value) : Obj := { cls := .type "slice", data := .fields #[l, u, .none] }
noncomputable def SlT (K : Cx) (va sl : Expr) (a : AV) (lo hi : Option Int) (σ : S) (Post : AV → S → Prop) : Prop :=
  ∀ (H : HF) (s : Shared), K.St H K.F σ s.heap → ∀ o l u, VR H a o → IsPart l lo → IsPart u hi → ∀ (Q : Value → Shared → Prop) (E : Value → Shared → Prop),
    (∀ b v H' σ' h' tk, HF.le H H' → K.St H' K.F σ' h' → VR H' b v → Post b σ' → Q v { s with heap := h', toks := tk }) → wpAny (model K.prog K.w) K.A (subscriptTail va sl o (.ref s.heap.objs.size)) Q E { s with heap := s.heap.push (slcO l u) }
section
variable {K : Cx} {σ : S} {Post : AV → S → Prop} {PF : AF → S → Prop} {PP : Option Int → S → Prop}
theorem evp_none (h : PP none σ) : EvP K none σ PP := Tri.leaf (b := none) (fun H s st Q E hq => wpAny_pure (hq .none s.toks mk_none)) h
theorem evp_some {e : Expr} (h : Ev K e σ fun v σ1 => ∃ i, v = .int i ∧ PP (some i) σ1) : EvP K (some e) σ PP :=
  fun H s st Q E hq => h.run (s := s) st fun v u H1 σ1 h1 t1 le1 s1 rv hp => by
    refine e1_2 hp ?_
    clear hp
    rintro i rfl hp
    exact hq (some i) u H1 σ1 h1 t1 le1 s1 rv hp
theorem ev_subsl {value : Expr} {lo hi : Option Expr} {p pos : Pos}
    (h : Ev K value σ fun a σ1 => EvP K lo σ1 fun x σ2 => EvP K hi σ2 fun y σ3 => SlT K value (.Slice lo hi none p) a x y σ3 Post) : Ev K (.Subscript value (.Slice lo hi none p) pos) σ Post :=
  fun H s hs Q E hq => Subscript_ (h.run hs fun a va H1 σ1 h1 t1 le1 s1 ra hb => wpAny_Slice (hb.run (s := { s with heap := h1, toks := t1 }) s1 fun x vx H2 σ2 h2 t2 le2 s2 rx hc => hc.run (s := { s with heap := h2, toks := t2 }) s2 fun y vy H3 σ3 h3 t3 le3 s3 ry hd => wpAny_pure
    (hd H3 { s with heap := h3, toks := t3 } s3 va vx vy (ra.mono (le2.trans le3)) (part_is rx) (part_is ry) Q E fun v u H4 σ4 h4 t4 le4 s4 rv hp => hq v u H4 σ4 h4 t4 (le1.trans (le2.trans (le3.trans le4))) s4 rv hp)))

theorem slT_list {va sl : Expr} {a : AV} {vs : List AV} {lo hi : Option Int} (hL : LstAt K σ a vs) (hn : vs.length ≤ sizeLine)
    (h : Post (.lst ((vs.drop (lo.elim 0 (clipAt vs.length))).take (hi.elim vs.length (clipAt vs.length) - lo.elim 0 (clipAt vs.length)))) σ)
    (hs : ∀ o i, subscripted sl false o i = operate [i, o] (getItem o i) := by intro _ _; rfl) : SlT K va sl a lo hi σ Post := fun H s st o l u ro pl pu Q E hq => by
  refine e3_3 (hL H s st o ro) ?_
  rintro la ws n rfl e r
  have hlen : ws.size = vs.length := by have := r.length; simpa using this
  have hl : s.heap.IsList la ws := ⟨_, e, rfl, n, rfl⟩
  refine tail_any (Heap.IsList.typeIs (s := { s with heap := s.heap.push (slcO l u) }) (hl.push _)) list_getitem_lookup
    (wpAny_getItem_list_slice (hl.push _) (Heap.IsSliceOf.new ..) pl pu .none (by simp) ?_ (by lia)) (hs _ _)
  have s1 := st.kept (Kept.push s.heap (slcO l u))
  refine e0_2 (s1.alloc { cls := .type "list", data := .seq (slicePick ws lo hi none) }) ?_
  rintro le s2
  refine hq _ _ _ σ _ s.toks le s2 (mk_lst (n := 0) (HF.put_at _ _ _) ?_) h
  have e5 : (slicePick ws lo hi none).toList = (ws.toList.drop (lo.elim 0 (clipAt vs.length))).take (hi.elim vs.length (clipAt vs.length) - lo.elim 0 (clipAt vs.length)) := by
    rw [slicePick_plain, hlen]
  refine rwl e5 ?_
  exact ((r.mono le).drop _).take _

/- a part of a tuple -/
theorem slT_tup {va sl : Expr} {vs : List AV} {a b : Nat} (h1 : a ≤ b) (h2 : b ≤ vs.length) (h3 : b - a < vs.length) (hn : vs.length ≤ sizeLine)
    (h : Post (.tup ((vs.drop a).take (b - a))) σ)
    (hs : ∀ o i, subscripted sl false o i = operate [i, o] (getItem o i) := by intro _ _; rfl) : SlT K va sl (.tup vs) (some a) (some b) σ Post := fun H s st o l u ro pl pu Q E hq => by
  refine e2_3 (vr_tup ro) ?_
  rintro ta ws rfl ha r
  have hlen : ws.size = vs.length := by have := r.length; simpa using this
  cases pl with
  | int _ tl =>
  cases pu with
  | int _ tu =>
  have e0 := st.m.keep _ _ ha
  have ht : IsTup (s.heap.push (slcO (.int a tl) (.int b tu))) ta ws := ⟨_, Heap.get?_push_of_some _ e0, rfl, 0, rfl⟩
  have hsl : (s.heap.push (slcO (.int a tl) (.int b tu))).IsSliceOf s.heap.objs.size (.int a tl) (.int b tu) .none := Heap.IsSliceOf.new ..
  have hsz : sizeOk (.seq ((ws.toList.drop a).take (b - a)).toArray) := by
    show ((ws.toList.drop a).take (b - a)).toArray.size ≤ sizeLine
    refine rwl List.size_toArray ?_
    refine rwl List.length_take ?_
    refine rwl List.length_drop ?_
    refine rwl Array.length_toList ?_
    lia
  refine e1_3 (id hsl) ?_
  rintro os hos hcs hds
  have hTt : Shared.TypeIs { s with heap := s.heap.push (slcO (.int a tl) (.int b tu)) } (.ref ta) "tuple" := ⟨_, Heap.get?_push_of_some _ e0, rfl⟩
  have hTs : Shared.TypeIs { s with heap := s.heap.push (slcO (.int a tl) (.int b tu)) } (.ref s.heap.objs.size) "slice" := ⟨os, hos, hcs⟩
  refine tail_any hTt slot_tuple_getitem.lookup ?_ (hs _ _)
  unfold getItem
  try with_reducible refine wpAny_holding ?_
  first | refine wpAny_bind (wpAny_pure ?_) | skip
  refine wpAny_bind (wpAny_sequenceKey hTt (by decide) ?_)
  refine wpAny_bind (wpAny_callSpecial?_slot (name := Str.ofString "__getitem__") hTt slot_tuple_getitem
    (wpAny_call_entry slot_tuple_getitem hTt entry_tuple_getitem ?_ (args_tuple_getitem _ _)))
  show wpAny _ _ (Builtin.Tuple.tupleItemsOf (.ref ta) >>= _) _ _ _
  refine wpAny_bind (tupleItemsOf_ ht ?_)
  refine wpAny_bind (wpAny_typeOf hTs ?_)
  refine rwl (if_pos (by decide)) ?_
  have appl : ∀ {Q' : Int × Int × Nat → Shared → Prop} {A' : Around} {E' : Value → Shared → Prop}, Q' ((a : Int), 1, b - a) { s with heap := s.heap.push (slcO (.int a tl) (.int b tu)) } →
      wpAny (model K.prog K.w) A' (Builtin.Slice.sliceApplied (.ref s.heap.objs.size) (pure (ws.size : Int))) Q' E' { s with heap := s.heap.push (slcO (.int a tl) (.int b tu)) } := fun hq' => by
    unfold Builtin.Slice.sliceApplied Builtin.Slice.sliceFields
    refine wpAny_bind (wpAny_bind (wpAny_field hos hds (x := .int a tl) rfl (wpAny_bind (wpAny_field hos hds (x := .int b tu) rfl (wpAny_bind (wpAny_field hos hds (x := .none) rfl (wpAny_pure ?_)))))))
    refine wpAny_bind (slicePart_none ?_)
    show wpAny _ _ (if ((1 : Int) == 0) = true then _ else _) _ _ _
    refine rwl (if_neg (by decide)) ?_
    refine wpAny_bind (slicePart_int (wpAny_bind (slicePart_int (wpAny_bind (wpAny_pure ?_)))))
    have e1 : Builtin.Slice.sliceAdjust (some (a : Int)) (some (b : Int)) 1 (ws.size : Int) = ((a : Int), (b : Int)) := by
      unfold Builtin.Slice.sliceAdjust
      have h1' : ¬ ((1 : Int) < 0) := by decide
      have h2' : ¬ ((a : Int) < 0) := by lia
      have h3' : ¬ ((b : Int) < 0) := by lia
      simp only [h1', h2', h3', if_false]
      exact Prod.ext (by show min (a : Int) (ws.size : Int) = a; lia) (by show min (b : Int) (ws.size : Int) = b; lia)
    have e2 : Builtin.Slice.slicePlaces (a : Int) (b : Int) 1 = b - a := by
      unfold Builtin.Slice.slicePlaces
      have h1' : (1 : Int) > 0 := by decide
      simp only [h1', if_true, Int.ediv_one]
      split <;> lia
    show wpAny _ _ (match Builtin.Slice.sliceAdjust (some (a : Int)) (some (b : Int)) 1 (ws.size : Int) with | (lo, hi) => pure (lo, (1 : Int), Builtin.Slice.slicePlaces lo hi 1)) _ _ _
    refine rwl e1 ?_
    show wpAny _ _ (pure ((a : Int), (1 : Int), Builtin.Slice.slicePlaces (a : Int) (b : Int) 1)) _ _ _
    refine rwl e2 ?_
    exact wpAny_pure hq'
  refine wpAny_bind (appl ?_)
  have hno : ¬ (((a : Int) == 0 && (1 : Int) == 1 && (b - a) == ws.size) = true) := by
    have : ((b - a) == ws.size) = false := by rw [beq_eq_false_iff_ne]; lia
    rw [this]; simp
  show wpAny _ _ (if ((a : Int) == 0 && (1 : Int) == 1 && (b - a) == ws.size) = true then _ else _) _ _ _
  have epick : ((List.range (b - a)).filterMap fun (k : Nat) => ws[((a : Int) + (k : Int) * 1).toNat]?).toArray = ((ws.toList.drop a).take (b - a)).toArray := by
    have e : (fun (k : Nat) => ws[((a : Int) + (k : Int) * 1).toNat]?) = fun k => ws[a + k]? := by
      funext k
      have : ((a : Int) + (k : Int) * 1).toNat = a + k := by lia
      rw [this]
    refine rwl e ?_
    have := pick_run ws a (b - a)
    rw [List.filterMap_map] at this
    have e2 : ((fun x => ws[x]?) ∘ fun x => a + x) = fun k => ws[a + k]? := rfl
    rw [e2] at this
    rw [this]
  refine rwl (if_neg hno) ?_
  refine rwl epick ?_
  have s1 := st.kept (Kept.push s.heap (slcO (.int a tl) (.int b tu)))
  refine e0_2 (s1.alloc (tupO ((ws.toList.drop a).take (b - a)).toArray)) ?_
  rintro le s2
  have fin := hq _ _ _ σ _ s.toks le s2 (mk_tup (HF.put_at _ _ _) (by simpa using ((r.mono le).drop a).take (b - a))) h
  first
    | exact wpAny_bind (m := Builtin.Tuple.tupleExact _) (wpAny_newObj_type (wpAny_pure ⟨_, rfl, wpAny_pure fin⟩) hsz)
    | exact wpAny_bind (m := Builtin.Tuple.tupleExact _) (wpAny_newObj_type (wpAny_bind (wpAny_pure (wpAny_pure ⟨_, rfl, wpAny_pure fin⟩))) hsz)
    | exact wpAny_bind (wpAny_bind (m := Builtin.Tuple.tupleExact _) (wpAny_newObj_type (wpAny_pure (wpAny_pure ⟨_, rfl, wpAny_pure fin⟩)) hsz))
    | exact wpAny_bind (wpAny_bind (m := Builtin.Tuple.tupleExact _) (wpAny_newObj_type (wpAny_pure ⟨_, rfl, wpAny_pure fin⟩) hsz))
end
end

section
open PySem PySem.P PyProof.Rows
noncomputable abbrev cS (vars : List (Option AV)) (D : Addr) (out : List AV) (mu : Mu) : S := ⟨vars, [], (D, .list out) :: mu⟩

section
variable {K : Cx} {σ : S} {Post : AV → S → Prop} {PU : Unit → S → Prop}

noncomputable abbrev Tail (K : Cx) (c : Code) (t : Sem Fin) (σ : S) (P : S → Prop) : Prop := K.T (fun (_ : HF) (_ : Unit) (f : Fin) => f = .again c) t σ fun _ σ' => P σ'
noncomputable abbrev Inner (K : Cx) (t : Sem Unit) (σ : S) (P : S → Prop) : Prop := K.T UR t σ fun _ σ' => P σ'

theorem tail_nil {c : Code} {t : Sem Unit} {P : S → Prop} (h : Inner K t σ P) : Tail K c (t >>= fun _ => pure (.again c)) σ P := fun H s st Q E hq =>
  wpAny_bind (h.run st fun _ _ H1 σ1 h1 t1 le1 s1 _ hp => wpAny_pure (hq () _ H1 σ1 h1 t1 le1 s1 rfl hp))
theorem tail_one {c : Code} {t : Sem Unit} {x : Expr} {P : S → Prop} (h : Tst K x σ fun b σ1 => if b = true then Inner K t σ1 P else P σ1) :
    Tail K c ((forIn [x] true fun c r => if r = true then do let ok ← isTrue c K.F.env (eval c K.F.env); pure (ForInStep.yield ok) else pure (ForInStep.yield r)) >>= fun ok => if ok = true then (t >>= fun _ => pure (.again c)) else pure (.again c)) σ P := fun H s st Q E hq => by
  refine wpAny_bind (wpAny_tests_one (h.run st fun b b' H1 σ1 h1 t1 le1 s1 rb hb => ?_))
  cases rb
  cases b with
  | true => exact wpAny_bind ((show Inner K t σ1 P from hb).run s1 fun _ _ H2 σ2 h2 t2 le2 s2 _ hp => wpAny_pure (hq () _ H2 σ2 h2 t2 (le1.trans le2) s2 rfl hp))
  | false => exact wpAny_pure (hq () _ H1 σ1 h1 t1 le1 s1 rfl hb)
theorem inner_emit {elt : Expr} {D : Addr} {out : List AV} {mu : Mu} {P : S → Prop} (h : Ev K elt σ fun y σ1 => ∃ vs, σ1 = cS vs D out mu ∧ out.length ≤ sizeLine ∧ P (cS vs D (out ++ [y]) mu)) :
    Inner K (eval elt K.F.env >>= fun x => PySem.call (.builtin "list.append") [.ref D, x] >>= fun _ => pure ()) σ P := fun H s st Q E hq =>
  wpAny_bind (h.run st fun y u H1 σ1 h1 t1 le1 s1 ry hp => by
    refine e1_3 hp ?_
    clear hp
    rintro vs rfl hn hp
    exact wpAny_bind ((c_append (K := K) 0 (vs := out) (v := y) (Post := fun v σ' => v = .none ∧ P σ') (σ := cS vs D out mu) rfl hn ⟨rfl, hp⟩).at (vs := [.ref D, u]) (s := { s with heap := h1, toks := t1 }) s1 (VRs.cons (mk_raw _) (VRs.cons ry VRs.nil))
      fun b a H2 σ2 h2 t2 le2 s2 rv hp2 => wpAny_pure (hq () () H2 σ2 h2 t2 (le1.trans le2) s2 trivial hp2.2)))

theorem comp_core {elt : Expr} {gens : List Comprehension} {scope : Scope} {pos : Pos} {depth : Nat} {D : Addr} {target : Expr} {p : Pos} {tail : Sem Fin} {items : List AV} {ok : Mu → Prop} {H1 : HF} {P : Nat → Obj → Prop} {a : Addr} {o0 : Obj} {vars0 : List (Option AV)} {mu : Mu} {out0 : List AV} {s : Shared} {R : Result → Shared → Prop}
    (it : Itr K.prog K.w K.A K.B H1 P items ok) {J : Nat → List AV → Prop} (hok : ∀ out, ok ((D, .list out) :: mu))
    (hturn : compTurn (.ListComp elt gens scope pos) depth (.ref a) (.ref D) K.F.env = (standAt p >>= fun _ => pyNext (.ref a) >>= fun r => match r with
      | none => pure (.done .next)
      | some v => letOwnedTupleGo target (.ref a) v >>= fun _ => assign target K.F.env v >>= fun _ => tail))
    (turn : ∀ i v out, items[i]? = some v → J i out → Asg K target v (cS vars0 D out mu) fun _ σ1 => Tail K (.compLoop (.ListComp elt gens scope pos) depth (.ref a) (.ref D) K.F.env) tail σ1 fun σ2 => ∃ out', Le σ2 (cS vars0 D out' mu) ∧ J (i + 1) out')
    (s1 : K.St H1 K.F (cS vars0 D out0 mu) s.heap) (hH1 : H1 a = none) (hown : a ∉ K.F.own) (hmu : ∀ p ∈ (cS vars0 D out0 mu).mu, p.1 ≠ a) (ho0 : s.heap.get? a = some o0) (hP0 : P 0 o0) (h0 : J 0 out0)
    (hq : ∀ H' out h' tk, HF.le H1 H' → K.St H' K.F (cS vars0 D out mu) h' → J items.length out → R (.ok .next) { s with heap := h', toks := tk }) :
    codeAny (model K.prog K.w) K.A (.compLoop (.ListComp elt gens scope pos) depth (.ref a) (.ref D) K.F.env) R s := by
  have hB : K.B a = none := by
    cases e : K.B a with
    | none => rfl
    | some o => have := s1.m.base a o e; rw [hH1] at this; cases this
  refine codeAny_loop rfl (fun n s' => ∃ i out H' o h' tk, n = items.length - i ∧ i ≤ items.length ∧ s' = { s with heap := h', toks := tk } ∧ K.St H' K.F (cS vars0 D out mu) h' ∧ HF.le H1 (H'.minus [a]) ∧ H' a = some o ∧ P i o ∧ J i out) ?_ items.length ?_
  · rintro n s' ⟨i, out, H', o, h', tk, rfl, hi, rfl, st, le, ha, hP, hJ⟩
    show wpAny _ K.A ((compTurn (.ListComp elt gens scope pos) depth (.ref a) (.ref D) K.F.env).onRaise (fun x => do noteFrame x K.F.env; theTreesLotGoes x)) _ _ _
    refine wpAny_noted ?_
    refine rwl hturn ?_
    have hno := it.ours i o hP
    have leB : HF.le K.B (H'.minus [a]) := s1.m.base.trans le
    have le' : HF.le H1 H' := le.trans (HF.minus_le _ _)
    have hn := st.notmine ha
    have ho : h'.get? a = some o := st.m.keep a o ha
    have stu := st.unpin leB ha hno
    refine wpAny_bind (wpAny_standAt (wpAny_bind ?_))
    by_cases hlt : i < items.length
    · have hv : items[i]? = some items[i] := List.getElem?_eq_getElem hlt
      refine it.next i _ a o H' { s with heap := h', toks := tk } _ (hok out) le' st.m ho hP hv _ _ fun u h2 tk2 o2 ho2 hP2 hs2 ru => ?_
      refine wpAny_bind (quiet_go (s := { s with heap := h2, toks := tk2 }) ho2 (it.quiet _ _ hP2) ?_)
      have st2 := stu.other hs2 HF.minus_one hn.1 hn.2
      refine e0_2 (st2.freeze ho2 hn.2 hn.1 HF.minus_one) ?_
      rintro le3 st3
      refine wpAny_bind ((turn i _ out hv hJ).at (vs := [u]) (s := { s with heap := h2, toks := tk2 }) st3 (VRs.cons ((vr_minus ha hno ru).mono le3) VRs.nil) fun _ _ H4 σ4 h4 tk4 le4 st4 _ hb => ?_)
      refine hb.run (s := { s with heap := h4, toks := tk4 }) st4 fun _ f H5 σ5 h5 tk5 le5 st5 rf hp => ?_
      cases (show f = _ from rf)
      refine e1_2 hp ?_
      clear hp
      rintro out' l6 hJ'
      refine e1_2 (l6 _ _ _ _ st5) ?_
      rintro H6 le6 st6
      have ha6 : H6 a = some o2 := le6 _ _ (le5 _ _ (le4 _ _ (HF.put_at _ _ _)))
      exact ⟨rfl, items.length - (i + 1), by omega, i + 1, out', H6, o2, h5, tk5, rfl, hlt, rfl, st6, HF.le_minus hH1 (le.trans (le3.trans (le4.trans (le5.trans le6)))), ha6, hP2, hJ'⟩
    · have hi' : i = items.length := Nat.le_antisymm hi (Nat.not_lt.mp hlt)
      subst hi'
      refine it.fin a o H' { s with heap := h', toks := tk } _ (hok out) le' st.m ho hP _ _ fun h2 tk2 hs2 => ?_
      have st2 := stu.otherExt hs2 HF.minus_one hn.1 hn.2
      exact wpAny_pure (hq _ out h2 tk2 le st2 hJ)
  · refine e0_2 (s1.freeze ho0 hmu hown hH1) ?_
    rintro le2 st2
    exact ⟨0, out0, _, o0, _, s.toks, rfl, Nat.zero_le _, rfl, st2, HF.le_minus hH1 le2, HF.put_at _ _ _, hP0, h0⟩

/- the frame of a comprehension -/
noncomputable def compF (F : Frm) (scope : Scope) (cl : List (Str × Addr)) (C : Addr) (ns : List Str) (fr : List (Str × AV)) : Frm := { env := compEnvC scope cl C F.env, ns := ns, cs := [], fr := fr }
theorem lookup_relabel_free {env : Env} : ∀ {names : List (Str × NameKind)} {x : Str}, names.lookup x = some .free →
    (names.map fun (n, k) => if (k == NameKind.free && env.scope.kind == .function && env.kindOf n == some .cell) then (n, NameKind.cell) else (n, k)).lookup x = some .free ∨
    (names.map fun (n, k) => if (k == NameKind.free && env.scope.kind == .function && env.kindOf n == some .cell) then (n, NameKind.cell) else (n, k)).lookup x = some .cell
  | [], _, h => by simp at h
  | (n, k) :: r, x, h => by
    have ih := @lookup_relabel_free env r x
    show List.lookup x ((if (k == NameKind.free && env.scope.kind == .function && env.kindOf n == some .cell) = true then (n, NameKind.cell) else (n, k)) :: _) = _ ∨ List.lookup x ((if (k == NameKind.free && env.scope.kind == .function && env.kindOf n == some .cell) = true then (n, NameKind.cell) else (n, k)) :: _) = _
    cases hx : x == n with
    | true =>
      simp only [List.lookup_cons, hx] at h
      cases h
      by_cases hc : (NameKind.free == NameKind.free && env.scope.kind == .function && env.kindOf n == some .cell) = true
      · right
        rw [if_pos hc]; simp [List.lookup_cons, hx]
      · left
        rw [if_neg hc]; simp [List.lookup_cons, hx]
    | false =>
      simp only [List.lookup_cons, hx] at h
      by_cases hc : (k == NameKind.free && env.scope.kind == .function && env.kindOf n == some .cell) = true
      · rw [if_pos hc]; simp only [List.lookup_cons, hx]; exact ih h
      · rw [if_neg hc]; simp only [List.lookup_cons, hx]; exact ih h

structure CompOk (scope : Scope) (ns : List Str) (fr : List (Str × AV)) : Prop where
  kind : scope.kind = .function
  nocell : ∀ x ∈ scope.names, x.2 ≠ .cell
  names : ∀ x ∈ scope.names, x.2 = .local → scope.names.lookup x.1 = some .local
  loc : ∀ x ∈ ns, scope.names.lookup x = some .local
  nd : ns.Nodup
  free : ∀ x ∈ fr.map (·.1), scope.names.lookup x = some .free ∧ (x == ("__classdict__" : Str)) = false
theorem CompOk.frm {F : Frm} (okF : F.Ok) {scope : Scope} {ns : List Str} {fr : List (Str × AV)} (x : CompOk scope ns fr) (cl : List (Str × Addr)) (C : Addr) : (compF F scope cl C ns fr).Ok := by
  refine ⟨x.kind, fun y hy => lookup_relabel_local (x.loc y hy), x.nd, fun p hp => (by cases hp), List.nodup_nil, fun p hp => ?_, okF.glob, okF.blt⟩
  have := x.free p.1 (List.mem_map.mpr ⟨p, hp, rfl⟩)
  exact ⟨lookup_relabel_free this.1, this.2⟩
noncomputable abbrev Cx.comp (K : Cx) {scope : Scope} {ns : List Str} {fr : List (Str × AV)} (x : CompOk scope ns fr) (cl : List (Str × Addr)) (C : Addr) : Cx :=
  ⟨K.prog, K.w, K.A, K.B, compF K.F scope cl C ns fr, x.frm K.ok cl C, K.mg, K.mb, K.gr, K.n, K.fit⟩

noncomputable def FrOk (K : Cx) (cl : List (Str × Addr)) (σ : S) : List (Str × AV) → Prop
  | [] => True
  | (x, v) :: r => (∃ i c, idxC K.F.cs x = some (i, c) ∧ σ.cells[i]? = some (some v) ∧ cl.lookup x = some c) ∧ FrOk K cl σ r
theorem FrOk.mem {cl : List (Str × Addr)} : ∀ {fr : List (Str × AV)}, FrOk K cl σ fr → ∀ p ∈ fr, ∃ i c, idxC K.F.cs p.1 = some (i, c) ∧ σ.cells[i]? = some (some p.2) ∧ cl.lookup p.1 = some c
  | [], _, p, hp => by cases hp
  | (x, v) :: r, h, p, hp => by
    rcases List.mem_cons.mp hp with rfl | hp
    · exact h.1
    · exact h.2.mem p hp

theorem St.intoComp {H : HF} {h h' : Heap} {scope : Scope} {ns : List Str} {fr : List (Str × AV)} {cl : List (Str × Addr)} {C : Addr} (st : K.St H K.F σ h) (x : CompOk scope ns fr) (hf : FrOk K cl σ fr) {m : Str → Option Value} (hk : Kept h h') (hC : h.get? C = none) (hn : h'.Ns C m) :
    K.St (H.plus K.F.own h) (compF K.F scope cl C ns fr) ⟨ns.map fun _ => none, [], σ.mu⟩ h' := by
  have hid := (St.hide st).kept hk
  have hCn : (H.plus K.F.own h) C = none := by
    cases e : (H.plus K.F.own h) C with
    | none => rfl
    | some o => have := (St.hide st).keep _ _ e; rw [hC] at this; cases this
  refine ⟨hid, hCn, ⟨m, hn, fun i y v h1 h2 => ?_⟩, fun i y c v h1 h2 => ?_, ?_, fun p hp => ?_, by simp [compF], rfl⟩
  · have h2' : (ns.map fun _ => (none : Option AV))[i]? = some (some v) := h2
    rw [List.getElem?_map] at h2'
    cases e : ns[i]? with
    | none => rw [e] at h2'; cases h2'
    | some z => rw [e] at h2'; cases h2'
  · have : ([] : List (Str × Addr))[i]? = some (y, c) := h1
    simp at this
  · show (([C] : List Addr) ++ σ.mu.map (·.1)).Nodup
    refine List.nodup_cons.mpr ⟨fun hm => ?_, st.m.nd⟩
    refine e1_2 (List.mem_map.mp hm) ?_
    rintro p hp e
    refine e1_1 ((st.m.own p hp).2.get) ?_
    rintro o eo
    rw [e, hC] at eo; cases eo
  · refine e2_3 (hf.mem p hp) ?_
    rintro i c h1 h2 h3
    have hi := idxC_get h1
    obtain ⟨_, u, ⟨o, ho, hd⟩, r⟩ := st.cell i p.1 c _ hi h2
    refine e1_2 (r _ rfl) ?_
    rintro b rfl rv
    have hm : c ∈ K.F.own := List.mem_cons_of_mem _ (List.mem_map.mpr ⟨(p.1, c), List.mem_of_getElem? hi, rfl⟩)
    exact i3_4 c o b h3 (by rw [HF.plus_at hm]; exact ho) hd (rv.mono (HF.le_plus st.own_none))
end
theorem Itr.up {prog : Program} {w : World} {A : Around} {B H0 H1 : HF} {P : Nat → Obj → Prop} {items : List AV} {ok : Mu → Prop} (x : Itr prog w A B H0 P items ok) (le : HF.le H0 H1) : Itr prog w A B H1 P items ok :=
  ⟨x.ours, x.quiet, fun i v a o H s mu h1 h2 => x.next i v a o H s mu h1 (le.trans h2), x.self, fun a o H s mu h1 h2 => x.fin a o H s mu h1 (le.trans h2)⟩

noncomputable def LoopK (K : Cx) (elt : Expr) (gens : List Comprehension) (scope : Scope) (pos : Pos) (depth : Nat) (D : Addr) (items : List AV) (ok : Mu → Prop) (vars0 : List (Option AV)) (mu : Mu) (out0 : List AV) (Fin : List AV → Prop) : Prop :=
  ∀ (H1 : HF) (P : Nat → Obj → Prop) (a : Addr) (o0 : Obj) (s : Shared) (R : Result → Shared → Prop), Itr K.prog K.w K.A K.B H1 P items ok → K.St H1 K.F (cS vars0 D out0 mu) s.heap → H1 a = none → a ∉ K.F.own → (∀ p ∈ (cS vars0 D out0 mu).mu, p.1 ≠ a) →
    s.heap.get? a = some o0 → P 0 o0 → (∀ H' out h' tk, HF.le H1 H' → K.St H' K.F (cS vars0 D out mu) h' → Fin out → R (.ok .next) { s with heap := h', toks := tk }) →
    codeAny (model K.prog K.w) K.A (.compLoop (.ListComp elt gens scope pos) depth (.ref a) (.ref D) K.F.env) R s

section
variable {K : Cx} {σ : S} {Post : AV → S → Prop} {PF : AF → S → Prop} {PU : Unit → S → Prop}

theorem loop1 {elt target iter : Expr} {scope : Scope} {pos : Pos} {D : Addr} {items : List AV} {ok : Mu → Prop} {vars0 : List (Option AV)} {mu : Mu} {out0 : List AV} {J : Nat → List AV → Prop} (hok : ∀ out, ok ((D, .list out) :: mu)) (h0 : J 0 out0)
    (turn : ∀ i v out, items[i]? = some v → J i out → Asg K target v (cS vars0 D out mu) fun _ σ1 => Ev K elt σ1 fun y σ2 => ∃ vs, σ2 = cS vs D out mu ∧ out.length ≤ sizeLine ∧ ∃ out', Le (cS vs D (out ++ [y]) mu) (cS vars0 D out' mu) ∧ J (i + 1) out') :
    LoopK K elt [⟨target, iter, [], 0⟩] scope pos 0 D items ok vars0 mu out0 (J items.length) := fun H1 P a o0 s R it s1 hH1 hown hmu ho0 hP0 hq =>
  comp_core (p := iter.pos) (target := target) it hok (compTurn_list1 elt target iter scope pos (.ref a) (.ref D) K.F.env) (fun i v out hv hJ => by
    refine fun H s st us hu Q E hq => (turn i v out hv hJ).at st hu fun b x H' σ' h' tk le st' r hp => hq b x H' σ' h' tk le st' r ?_
    exact tail_nil (inner_emit hp)) s1 hH1 hown hmu ho0 hP0 h0 hq
theorem loop1if {elt target iter c : Expr} {scope : Scope} {pos : Pos} {D : Addr} {items : List AV} {ok : Mu → Prop} {vars0 : List (Option AV)} {mu : Mu} {out0 : List AV} {J : Nat → List AV → Prop} (hok : ∀ out, ok ((D, .list out) :: mu)) (h0 : J 0 out0)
    (turn : ∀ i v out, items[i]? = some v → J i out → Asg K target v (cS vars0 D out mu) fun _ σ1 => Tst K c σ1 fun b σ2 => if b = true then Ev K elt σ2 fun y σ3 => ∃ vs, σ3 = cS vs D out mu ∧ out.length ≤ sizeLine ∧ ∃ out', Le (cS vs D (out ++ [y]) mu) (cS vars0 D out' mu) ∧ J (i + 1) out'
      else ∃ out', Le σ2 (cS vars0 D out' mu) ∧ J (i + 1) out') :
    LoopK K elt [⟨target, iter, [c], 0⟩] scope pos 0 D items ok vars0 mu out0 (J items.length) := fun H1 P a o0 s R it s1 hH1 hown hmu ho0 hP0 hq =>
  comp_core (p := iter.pos) (target := target) it hok (tail := (forIn [c] true fun c r => if r = true then do let ok ← isTrue c K.F.env (eval c K.F.env); pure (ForInStep.yield ok) else pure (ForInStep.yield r)) >>= fun ok =>
      if ok = true then ((eval elt K.F.env >>= fun x => PySem.call (.builtin "list.append") [.ref D, x] >>= fun _ => pure ()) >>= fun _ => pure (.again (.compLoop (.ListComp elt [⟨target, iter, [c], 0⟩] scope pos) 0 (.ref a) (.ref D) K.F.env)))
      else pure (.again (.compLoop (.ListComp elt [⟨target, iter, [c], 0⟩] scope pos) 0 (.ref a) (.ref D) K.F.env))) (compTurn_list elt target iter [c] scope pos (.ref a) (.ref D) K.F.env) (fun i v out hv hJ => by
    refine fun H s st us hu Q E hq => (turn i v out hv hJ).at st hu fun b x H' σ' h' tk le st' r hp => hq b x H' σ' h' tk le st' r ?_
    refine tail_one (Tri.mono hp fun b σ2 hb => ?_)
    cases b with
    | true => exact inner_emit hb
    | false => exact hb) s1 hH1 hown hmu ho0 hP0 h0 hq

/- two clauses -/
theorem turn_two1 (elt target iter t2 i2 : Expr) (scope : Scope) (pos : Pos) (it acc : Value) (env : Env) :
    compTurn (.ListComp elt [⟨target, iter, [], 0⟩, ⟨t2, i2, [], 0⟩] scope pos) 1 it acc env = (standAt i2.pos >>= fun _ => pyNext it >>= fun r => match r with
      | none => pure (.done .next)
      | some v => letOwnedTupleGo t2 it v >>= fun _ => assign t2 env v >>= fun _ =>
        (eval elt env >>= fun x => PySem.call (.builtin "list.append") [acc, x] >>= fun _ => pure ()) >>= fun _ =>
          pure (.again (.compLoop (.ListComp elt [⟨target, iter, [], 0⟩, ⟨t2, i2, [], 0⟩] scope pos) 1 it acc env))) := by rfl
theorem turn_two0 (elt target iter t2 i2 : Expr) (scope : Scope) (pos : Pos) (it acc : Value) (env : Env) :
    compTurn (.ListComp elt [⟨target, iter, [], 0⟩, ⟨t2, i2, [], 0⟩] scope pos) 0 it acc env = (standAt iter.pos >>= fun _ => pyNext it >>= fun r => match r with
      | none => pure (.done .next)
      | some v => letOwnedTupleGo target it v >>= fun _ => assign target env v >>= fun _ =>
        eval i2 env >>= fun x => standAt i2.pos >>= fun _ => foldedSetIterable i2 env x >>= fun x => holding [x] (pyIter x) >>= fun it2 => runOwn (.compStart (.ListComp elt [⟨target, iter, [], 0⟩, ⟨t2, i2, [], 0⟩] scope pos) 1 it2 acc env) env >>= fun _ =>
          pure (.again (.compLoop (.ListComp elt [⟨target, iter, [], 0⟩, ⟨t2, i2, [], 0⟩] scope pos) 0 it acc env))) := by rfl
theorem start_two1 {elt target iter t2 i2 : Expr} {scope : Scope} {pos : Pos} {it acc : Value} {env : Env} {prog : Program} {w : World} {A : Around} {s : Shared} {R : Result → Shared → Prop}
    (h0 : codeAny (model prog w) A (.compLoop (.ListComp elt [⟨target, iter, [], 0⟩, ⟨t2, i2, [], 0⟩] scope pos) 1 it acc env) R s)
    (h : wpAny (model prog w) A (pyIter it) (fun it' s' => codeAny (model prog w) A (.compLoop (.ListComp elt [⟨target, iter, [], 0⟩, ⟨t2, i2, [], 0⟩] scope pos) 1 it' acc env) R s')
      (notedBy (model prog w) A env fun x s' => R (.error x) s') s) :
    codeAny (model prog w) A (.compStart (.ListComp elt [⟨target, iter, [], 0⟩, ⟨t2, i2, [], 0⟩] scope pos) 1 it acc env) R s := by
  refine codeAny_of_tree ?_
  show wpAny _ _ ((compStart (.ListComp elt [⟨target, iter, [], 0⟩, ⟨t2, i2, [], 0⟩] scope pos) 1 it acc env).onRaise (fun x => do noteFrame x env; standAt theWindowsPlace)) _ _ s
  refine wpAny_notedAt ?_
  unfold compStart
  show wpAny _ _ (ask >>= _) _ _ s
  refine wpAny_bind (wpAny_askSetting (wpAny_ite ?_))
  split
  · first
      | exact wpAny_bind (wpAny_pure (wpAny_pure (And.intro rfl h0)))
      | exact wpAny_pure (And.intro rfl h0)
  · first
      | exact wpAny_bind (wpAny_rule (wpAny_bind (wpAny_standAt (wpAny_bind (wpAny_mono h (fun it' s' h' => wpAny_pure (And.intro rfl h')) fun _ _ x => x)))))
      | (refine wpAny_bind (wpAny_rule ?_); show wpAny _ _ (standAt i2.pos >>= _) _ _ s; exact wpAny_bind (wpAny_standAt (wpAny_bind (wpAny_mono h (fun it' s' h' => wpAny_pure (And.intro rfl h')) fun _ _ x => x))))
theorem loop2in {elt target iter t2 i2 : Expr} {scope : Scope} {pos : Pos} {D : Addr} {items : List AV} {ok : Mu → Prop} {vars0 : List (Option AV)} {mu : Mu} {out0 : List AV} {J : Nat → List AV → Prop} (hok : ∀ out, ok ((D, .list out) :: mu)) (h0 : J 0 out0)
    (turn : ∀ i v out, items[i]? = some v → J i out → Asg K t2 v (cS vars0 D out mu) fun _ σ1 => Ev K elt σ1 fun y σ2 => ∃ vs, σ2 = cS vs D out mu ∧ out.length ≤ sizeLine ∧ ∃ out', Le (cS vs D (out ++ [y]) mu) (cS vars0 D out' mu) ∧ J (i + 1) out') :
    LoopK K elt [⟨target, iter, [], 0⟩, ⟨t2, i2, [], 0⟩] scope pos 1 D items ok vars0 mu out0 (J items.length) := fun H1 P a o0 s R it s1 hH1 hown hmu ho0 hP0 hq =>
  comp_core (p := i2.pos) (target := t2) it hok (turn_two1 elt target iter t2 i2 scope pos (.ref a) (.ref D) K.F.env) (fun i v out hv hJ => by
    refine fun H s st us hu Q E hq => (turn i v out hv hJ).at st hu fun b x H' σ' h' tk le st' r hp => hq b x H' σ' h' tk le st' r ?_
    exact tail_nil (inner_emit hp)) s1 hH1 hown hmu ho0 hP0 h0 hq
theorem loop2 {elt target iter t2 i2 : Expr} {scope : Scope} {pos : Pos} {D : Addr} {items : List AV} {ok : Mu → Prop} {vars0 : List (Option AV)} {mu : Mu} {out0 : List AV} {J : Nat → List AV → Prop} (hok : ∀ out, ok ((D, .list out) :: mu)) (h0 : J 0 out0)
    (turn : ∀ i v out, items[i]? = some v → J i out → Asg K target v (cS vars0 D out mu) fun _ σ1 => Ev K i2 σ1 fun x σ2 => ∃ vs it2 ok2 Fin, σ2 = cS vs D out mu ∧ Walk K x it2 ok2 σ2 ∧ LoopK K elt [⟨target, iter, [], 0⟩, ⟨t2, i2, [], 0⟩] scope pos 1 D it2 ok2 vs mu out Fin ∧
      ∀ out1, Fin out1 → ∃ out', Le (cS vs D out1 mu) (cS vars0 D out' mu) ∧ J (i + 1) out')
    (hs : ∀ x, foldedSetIterable i2 K.F.env x = pure x) :
    LoopK K elt [⟨target, iter, [], 0⟩, ⟨t2, i2, [], 0⟩] scope pos 0 D items ok vars0 mu out0 (J items.length) := fun H1 P a o0 s R it s1 hH1 hown hmu ho0 hP0 hq =>
  comp_core (p := iter.pos) (target := target) it hok (turn_two0 elt target iter t2 i2 scope pos (.ref a) (.ref D) K.F.env) (fun i v out hv hJ => by
    refine fun H s st us hu Q E hq => (turn i v out hv hJ).at st hu fun b x H' σ' h' tk le st' r hp => hq b x H' σ' h' tk le st' r ?_
    refine fun H2 s2 st2 Q2 E2 hq2 => wpAny_bind (hp.run st2 fun xv u H3 σ3 h3 t3 le3 st3 rx hb => ?_)
    refine e4_4 hb ?_
    clear hb
    rintro vs it2 ok2 Fin rfl hw hl hfin
    refine wpAny_bind (wpAny_standAt (wpAny_bind (wpAny_of_eq (hs u) (wpAny_bind (wpAny_holding ?_)))))
    refine e1_2 (hw H3 { s2 with heap := h3, toks := t3 } st3.m u rx) ?_
    rintro P2 itr2 hiter
    refine hiter _ _ fun o2 t4 hfr hP2 => wpAny_bind (wpAny_runOwn ?_)
    have ho2 : (h3.push o2).get? h3.objs.size = some o2 := Heap.get?_push_size _ hfr
    have st4 : K.St H3 K.F (cS vs D out mu) (h3.push o2) := st3.kept (Kept.push h3 o2)
    have loop : ∀ R' : Result → Shared → Prop, (∀ H' out' h' tk, HF.le H3 H' → K.St H' K.F (cS vs D out' mu) h' → Fin out' → R' (.ok .next) { s2 with heap := h', toks := tk }) →
        codeAny (model K.prog K.w) K.A (.compLoop (.ListComp elt [⟨target, iter, [], 0⟩, ⟨t2, i2, [], 0⟩] scope pos) 1 (.ref h3.objs.size) (.ref D) K.F.env) R' { s2 with heap := h3.push o2, toks := t4 } := fun R' hR =>
      hl H3 P2 h3.objs.size o2 { s2 with heap := h3.push o2, toks := t4 } R' itr2 st4 st3.m.none_size (fun z => Nat.lt_irrefl _ (st3.own_lt _ z)) (fun p hp => Nat.ne_of_lt (st3.m.lt p hp)) ho2 hP2 hR
    have fin : ∀ H' out' h' tk, HF.le H3 H' → K.St H' K.F (cS vs D out' mu) h' → Fin out' → wpAny (model K.prog K.w) K.A (pure (.again (.compLoop (.ListComp elt [⟨target, iter, [], 0⟩, ⟨t2, i2, [], 0⟩] scope pos) 0 (.ref a) (.ref D) K.F.env)) : Sem PySem.Fin) Q2 E2 { s2 with heap := h', toks := tk } := fun H' out' h' tk le' st' hF => by
      refine e1_2 (hfin out' hF) ?_
      rintro out2 l2 hJ2
      exact wpAny_pure (hq2 () _ H' _ h' tk (le3.trans le') st' rfl ⟨out2, l2, hJ2⟩)
    exact start_two1 (loop _ fin) (itr2.self 0 _ o2 _ ho2 hP2 _ _ (loop _ fin))) s1 hH1 hown hmu ho0 hP0 h0 hq

theorem FrOk.cells {cl : List (Str × Addr)} {σ' : S} (e : σ'.cells = σ.cells) : ∀ {fr : List (Str × AV)}, FrOk K cl σ fr → FrOk K cl σ' fr
  | [], _ => True.intro
  | (x, v) :: r, h => by
    obtain ⟨⟨i, c, h1, h2, h3⟩, t⟩ := h
    exact ⟨⟨i, c, h1, by rw [e]; exact h2, h3⟩, t.cells e⟩
structure CompAt (K : Cx) (cl : List (Str × Addr)) (elt target iter : Expr) (ifs : List Expr) (rest : List Comprehension) (scope : Scope) (pos : Pos) (σ1 : S) (v : AV) (Fin : List AV → Prop) : Prop where
  go : ∃ items ok ns fr, ∃ x : CompOk scope ns fr, Walk K v items ok σ1 ∧ FrOk K cl σ1 fr ∧
    ∀ D C, LoopK (K.comp x cl C) elt (⟨target, iter, ifs, 0⟩ :: rest) scope pos 0 D items ok (ns.map fun _ => none) σ1.mu [] Fin

theorem comp_enter {cl : List (Str × Addr)} {elt target iter : Expr} {ifs : List Expr} {rest : List Comprehension} {scope : Scope} {pos pp : Pos} {use : Option (Value → Sem Unit)} {first : Sem Value}
    (hs : ∀ x, foldedSetIterable iter K.F.env x = pure x) (hclos : closureFor scope K.F.env = pure cl) (hkind : scope.kind = .function) (hnames : ∀ x ∈ scope.names, x.2 = .local → scope.names.lookup x.1 = some .local)
    {H : HF} {s : Shared} {Q : Value → Shared → Prop} {E : Value → Shared → Prop}
    (hfirst : wpAny (model K.prog K.w) K.A first (fun u s1 => ∃ v σ1 Fin H1, CompAt K cl elt target iter ifs rest scope pos σ1 v Fin ∧ K.St H1 K.F σ1 s1.heap ∧ VR H1 v u ∧
      ∀ D C out H2 h2 tk r, Fin out → HF.le H1 H2 → K.St H2 K.F { σ1 with mu := (D, .list out) :: σ1.mu } h2 → C ∉ K.F.own → H2 C = none → (∀ p ∈ ((D, MO.list out) :: σ1.mu), p.1 ≠ C) → (∃ m, h2.Ns C m) →
        compPost (model K.prog K.w) K.A E use Q (.ref D) C (.ok r) { s1 with heap := h2, toks := tk }) E s) :
    wpAny (model K.prog K.w) K.A (comprehension (.ListComp elt (⟨target, iter, ifs, 0⟩ :: rest) scope pos) scope K.F.env pp (newList []) false first use) Q E s := by
  refine wpAny_comprehension_free rfl hs hclos hkind hnames (wpAny_mono hfirst (fun u s1 hx => ?_) fun _ _ e => e)
  refine e4_4 hx ?_
  clear hx
  rintro v σ1 Fin H1 h st1 rv hq
  obtain ⟨items, ok, ns, fr, x, hw, hfr, hloop⟩ := h.go
  refine e1_2 (hw H1 s1 st1.m u rv) ?_
  rintro P it hiter
  refine hiter _ _ fun o0 t2 hfr0 hP0 => ?_
  generalize hh1 : s1.heap = h1 at *
  refine wpAny_newObj_type ?_
  have st2 : K.St H1 K.F σ1 (h1.push o0) := st1.kept (Kept.push h1 o0)
  have st3 := st2.make (m := .list []) { cls := .type "list", data := .seq ([] : List Value).toArray } (fun h' e => ⟨_, 0, e, VRs.nil⟩)
  generalize hD : (h1.push o0).objs.size = D at *
  have hDs : D = h1.objs.size + 1 := by rw [← hD, Heap.size_push]
  generalize hh3 : (h1.push o0).push { cls := .type "list", data := .seq ([] : List Value).toArray } = h3 at *
  have hC3 : h3.objs.size = h1.objs.size + 2 := by rw [← hh3, Heap.size_push, Heap.size_push]
  refine wpAny_newFunctionEnv x.nocell (by intro y hy; simp at hy) (fun h4 hns4 hsb4 => ?_) x.kind
  dsimp only at hns4 hsb4 ⊢
  try rw [hh3] at hns4 hsb4
  try rw [hh3]
  try rw [hD]
  have hk4 : Kept h3 h4 := fun b o e => hsb4.extBut b o (Nat.ne_of_lt (Heap.lt_size e)) (Heap.get?_push_of_some _ e)
  have hCn : h3.get? h3.objs.size = none := by
    cases e : h3.get? h3.objs.size with
    | none => rfl
    | some o => exact absurd (Heap.lt_size e) (Nat.lt_irrefl _)
  generalize hCC : h3.objs.size = C at *
  have hfr' : FrOk K cl { σ1 with mu := (D, .list []) :: σ1.mu } fr := FrOk.cells (σ := σ1) (σ' := { σ1 with mu := (D, .list []) :: σ1.mu }) rfl hfr
  have stc := St.intoComp (cl := cl) (h := h3) (h' := h4) st3 x hfr' (m := _) hk4 hCn hns4
  have ho0 : h3.get? h1.objs.size = some o0 := by rw [← hh3]; exact Heap.get?_push_of_some _ (Heap.get?_push_size _ hfr0)
  have hano : h1.objs.size ∉ K.F.own := fun z => Nat.lt_irrefl _ (st1.own_lt _ z)
  have hle : HF.le H1 (H1.plus K.F.own h3) := HF.le_plus st3.own_none
  have fin : ∀ H' out h' tk, HF.le (H1.plus K.F.own h3) H' → (K.comp x cl C).St H' (K.comp x cl C).F (cS (ns.map fun _ => none) D out σ1.mu) h' → Fin out →
      compPost (model K.prog K.w) K.A E use Q (.ref D) C (.ok .next) { s1 with heap := h', toks := tk } := fun H' out h' tk le' st' hF => by
    refine e0_4 (St.back st3 le' st'.m) ?_
    rintro l1 s5 _ _
    have hCo : C ∉ K.F.own := fun z => by
      have := st3.own_lt _ z
      rw [hCC] at this; exact Nat.lt_irrefl _ this
    have hCH : (H'.minus K.F.own) C = none := by
      unfold HF.minus
      refine rwl (if_neg hCo) ?_
      exact st'.new
    refine hq D C out _ h' tk .next hF l1 s5 hCo hCH (fun p hp => st'.own_mu C (.head _) p hp) ?_
    refine e1_2 st'.ns ?_
    rintro m hn _
    exact ⟨m, hn⟩
  have loop := hloop D C (H1.plus K.F.own h3) P h1.objs.size o0 { s1 with heap := h4, toks := t2 + 0 } (compPost (model K.prog K.w) K.A E use Q (.ref D) C) (it.up hle) stc
    (by unfold HF.plus; rw [if_neg hano]; rw [← hh1] at *; exact st1.m.none_size) (fun z => by
      have : h1.objs.size = C := by simpa [Frm.own, compF, compEnvC] using z
      lia) (fun p hp => by
      rcases List.mem_cons.mp hp with rfl | hp
      · show D ≠ _
        lia
      · exact Nat.ne_of_lt (st1.m.lt p hp)) (hk4 _ _ ho0) hP0 fin
  exact codeAny_compStart_list loop (it.self 0 _ o0 _ (hk4 _ _ ho0) hP0 _ _ loop)

theorem ev_comp (cl : List (Str × Addr)) {elt target iter : Expr} {ifs : List Expr} {rest : List Comprehension} {scope : Scope} {pos : Pos}
    (h : Ev K iter σ fun v σ1 => ∃ Fin, CompAt K cl elt target iter ifs rest scope pos σ1 v Fin ∧ ∀ D out, Fin out → Post (.raw (.ref D)) { σ1 with mu := (D, .list out) :: σ1.mu })
    (hs : ∀ x, foldedSetIterable iter K.F.env x = pure x) (hclos : closureFor scope K.F.env = pure cl) (hkind : scope.kind = .function) (hnames : ∀ x ∈ scope.names, x.2 = .local → scope.names.lookup x.1 = some .local) :
    Ev K (.ListComp elt (⟨target, iter, ifs, 0⟩ :: rest) scope pos) σ Post := fun H s st Q E hq => by
  refine rwl (eval_ListComp _ _ _ _) ?_
  show wpAny _ _ (comprehension (.ListComp elt (⟨target, iter, ifs, 0⟩ :: rest) scope pos) scope K.F.env iter.pos (newList []) false (eval iter K.F.env)) Q E s
  refine comp_enter (H := H) hs hclos hkind hnames (h.run st fun v u H1 σ1 h1 t1 le1 s1 rv hb => ?_)
  refine e1_2 hb ?_
  clear hb
  rintro Fin hc hp
  refine i4_4 v σ1 Fin H1 hc s1 rv (fun D C out H2 h2 tk r hF le2 st2 hCo hCH hCm hns => ?_)
  refine e1_1 hns ?_
  clear hns
  rintro m hn
  refine ⟨m, hn, fun h' hsb => ?_⟩
  exact hq _ _ H2 _ h' tk (le1.trans le2) (st2.other hsb hCH hCo hCm) (mk_raw _) (hp D out hF)
theorem ev_freeze {e : Expr} (h : Ev K e σ fun v σ1 => ∃ D vs mu', v = .raw (.ref D) ∧ σ1.mu = (D, .list vs) :: mu' ∧ Post (.lst vs) { σ1 with mu := mu' }) : Ev K e σ Post := fun H s st Q E hq =>
  h.run st fun v u H1 σ1 h1 t1 le1 s1 rv hb => by
    refine e3_3 hb ?_
    clear hb
    rintro D vs mu' rfl hm hp
    cases vr_raw rv
    refine e2_2 ((s1.m.own (D, .list vs) (by rw [hm]; exact .head _)).2) ?_
    rintro ws n e r
    refine e0_2 (s1.settle (l := []) (r := mu') hm e) ?_
    rintro le s2
    exact hq _ _ _ _ h1 t1 (le1.trans le) s2 (mk_lst (n := n) (HF.put_at _ _ _) (r.mono le)) hp
theorem x_comp (cl : List (Str × Addr)) {y : Str} {p' p : Pos} {elt target iter : Expr} {ifs : List Expr} {rest : List Comprehension} {scope : Scope} {pos : Pos}
    (h : Ev K iter σ fun v σ1 => ∃ Fin, CompAt K cl elt target iter ifs rest scope pos σ1 v Fin ∧ ∀ D out, Fin out → Sto K y (.raw (.ref D)) { σ1 with mu := (D, .list out) :: σ1.mu } fun _ σ2 => PF .next σ2)
    (hsw : swapsWith (.ListComp elt (⟨target, iter, ifs, 0⟩ :: rest) scope pos) (some (.Name y p')) p.line K.F.env = pure true)
    (hs : ∀ x, foldedSetIterable iter K.F.env x = pure x) (hclos : closureFor scope K.F.env = pure cl) (hkind : scope.kind = .function) (hnames : ∀ x ∈ scope.names, x.2 = .local → scope.names.lookup x.1 = some .local) :
    X K (.Assign [.Name y p'] (.ListComp elt (⟨target, iter, ifs, 0⟩ :: rest) scope pos) p) σ PF := fun H s st Q E hq => by
  refine rwl (exec_Assign_Name_used y p' _ p hsw) ?_
  refine wpAny_bind (wpAny_standAt (wpAny_bind ?_))
  show wpAny _ _ (comprehension (.ListComp elt (⟨target, iter, ifs, 0⟩ :: rest) scope pos) scope K.F.env iter.pos (newList []) false (eval iter K.F.env) (some (assign (.Name y p') K.F.env)) >>= fun _ => pure ()) _ E s
  refine wpAny_bind (comp_enter (H := H) hs hclos hkind hnames (h.run st fun v u H1 σ1 h1 t1 le1 s1 rv hb => ?_))
  refine e1_2 hb ?_
  clear hb
  rintro Fin hc hp
  refine i4_4 v σ1 Fin H1 hc s1 rv (fun D C out H2 h2 tk r hF le2 st2 hCo hCH hCm hns => ?_)
  refine e1_1 hns ?_
  clear hns
  rintro m hn
  refine e3_3 (id hn) ?_
  rintro oC es ep hoC hdC hrC
  refine e0_2 (st2.freeze hoC hCm hCo hCH) ?_
  rintro le3 st3
  refine wpAny_assign_Name ((hp D out hF).at (vs := [.ref D]) (s := { s with heap := h2, toks := tk }) st3 (VRs.cons (mk_raw _) VRs.nil) fun _ _ H4 σ4 h4 t4 le4 st4 _ hpf => ?_)
  have hC4 : H4 C = some oC := le4 _ _ (HF.put_at _ _ _)
  refine ⟨m, ⟨oC, es, ep, st4.m.keep _ _ hC4, hdC, hrC⟩, fun h' hsb => ?_⟩
  have hno : NotOurs oC := ⟨⟨fun ws n e => (by rw [hdC] at e; cases e), (fun z => by rcases z with ⟨⟨vs, e⟩, _⟩ | ⟨fd, e⟩ <;> (rw [hdC] at e; cases e)), fun q z => by obtain ⟨vs, t, e, _⟩ := z; rw [hdC] at e; cases e⟩, fun u e => by rw [hdC] at e; cases e⟩
  have hn4 := st4.notmine hC4
  have hBC : HF.le K.B (H4.minus [C]) := fun b o e => by
    have e2 := st2.m.base b o e
    have hb : b ≠ C := fun z => by rw [z, hCH] at e2; cases e2
    refine rwl (HF.minus_ne hb) ?_
    exact le4 _ _ (le3 _ _ e2)
  have st5 := (st4.unpin hBC hC4 hno).other hsb HF.minus_one hn4.1 hn4.2
  exact wpAny_pure (wpAny_pure (hq .next .next _ _ h' t4 (le1.trans (le2.trans (HF.le_minus hCH (le3.trans le4)))) st5 rfl hpf))
end
section
variable {K : Cx} {σ : S} {Post : AV → S → Prop}
noncomputable abbrev MethQ (K : Cx) (name : Str) (o : Expr) (args : List Expr) (apos pos : Pos) : Prop :=
  attributeBase o name K.F.env (eval o K.F.env) = eval o K.F.env ∧
  ((backTo pos (starEach args K.F.env)).all (fun x => !x.1) && (backToKw pos (keywordEach [] K.F.env)).all (fun x => x.1.isSome)
      && decide (args.length + ([] : List Keyword).length + (if ([] : List Keyword).isEmpty then 0 else 1) < 30)) = true ∧ (apos.endLine == pos.line) = true
theorem m_append {o : Expr} {apos pos : Pos} {args : List Expr} (h : Ev K o σ fun ov σ1 => HasT K ov "list" σ1 ∧ EvL K args pos σ1 fun vs σ2 => CallK K (.builtin "list.append") (ov :: vs) σ2 Post) (q : MethQ K "append" o args apos pos) : Ev K (.Call (.Attribute o "append" apos) args [] pos) σ Post :=
  ev_meth F.plainAttrs_list F.slot_list_append F.type_list_append h q.1 q.2.1 q.2.2
theorem m_count {o : Expr} {apos pos : Pos} {args : List Expr} (h : Ev K o σ fun ov σ1 => HasT K ov "list" σ1 ∧ EvL K args pos σ1 fun vs σ2 => CallK K (.builtin "list.count") (ov :: vs) σ2 Post) (q : MethQ K "count" o args apos pos) : Ev K (.Call (.Attribute o "count" apos) args [] pos) σ Post :=
  ev_meth F.plainAttrs_list F.slot_list_count F.type_list_count h q.1 q.2.1 q.2.2
theorem m_index {o : Expr} {apos pos : Pos} {args : List Expr} (h : Ev K o σ fun ov σ1 => HasT K ov "list" σ1 ∧ EvL K args pos σ1 fun vs σ2 => CallK K (.builtin "list.index") (ov :: vs) σ2 Post) (q : MethQ K "index" o args apos pos) : Ev K (.Call (.Attribute o "index" apos) args [] pos) σ Post :=
  ev_meth F.plainAttrs_list F.slot_list_index F.type_list_index h q.1 q.2.1 q.2.2
theorem m_remove {o : Expr} {apos pos : Pos} {args : List Expr} (h : Ev K o σ fun ov σ1 => HasT K ov "list" σ1 ∧ EvL K args pos σ1 fun vs σ2 => CallK K (.builtin "list.remove") (ov :: vs) σ2 Post) (q : MethQ K "remove" o args apos pos) : Ev K (.Call (.Attribute o "remove" apos) args [] pos) σ Post :=
  ev_meth F.plainAttrs_list F.slot_list_remove F.type_list_remove h q.1 q.2.1 q.2.2
theorem m_reverse {o : Expr} {apos pos : Pos} {args : List Expr} (h : Ev K o σ fun ov σ1 => HasT K ov "list" σ1 ∧ EvL K args pos σ1 fun vs σ2 => CallK K (.builtin "list.reverse") (ov :: vs) σ2 Post) (q : MethQ K "reverse" o args apos pos) : Ev K (.Call (.Attribute o "reverse" apos) args [] pos) σ Post :=
  ev_meth F.plainAttrs_list F.slot_list_reverse F.type_list_reverse h q.1 q.2.1 q.2.2
theorem m_join {o : Expr} {apos pos : Pos} {args : List Expr} (h : Ev K o σ fun ov σ1 => HasT K ov "str" σ1 ∧ EvL K args pos σ1 fun vs σ2 => CallK K (.builtin "str.join") (ov :: vs) σ2 Post) (q : MethQ K "join" o args apos pos) : Ev K (.Call (.Attribute o "join" apos) args [] pos) σ Post :=
  ev_meth F.plainAttrs_str F.slot_str_join F.type_str_join h q.1 q.2.1 q.2.2
theorem m_split {o : Expr} {apos pos : Pos} {args : List Expr} (h : Ev K o σ fun ov σ1 => HasT K ov "str" σ1 ∧ EvL K args pos σ1 fun vs σ2 => CallK K (.builtin "str.split") (ov :: vs) σ2 Post) (q : MethQ K "split" o args apos pos) : Ev K (.Call (.Attribute o "split" apos) args [] pos) σ Post :=
  ev_meth F.plainAttrs_str F.slot_str_split F.type_str_split h q.1 q.2.1 q.2.2
theorem m_lower {o : Expr} {apos pos : Pos} {args : List Expr} (h : Ev K o σ fun ov σ1 => HasT K ov "str" σ1 ∧ EvL K args pos σ1 fun vs σ2 => CallK K (.builtin "str.lower") (ov :: vs) σ2 Post) (q : MethQ K "lower" o args apos pos) : Ev K (.Call (.Attribute o "lower" apos) args [] pos) σ Post :=
  ev_meth F.plainAttrs_str F.slot_str_lower F.type_str_lower h q.1 q.2.1 q.2.2
theorem m_swapcase {o : Expr} {apos pos : Pos} {args : List Expr} (h : Ev K o σ fun ov σ1 => HasT K ov "str" σ1 ∧ EvL K args pos σ1 fun vs σ2 => CallK K (.builtin "str.swapcase") (ov :: vs) σ2 Post) (q : MethQ K "swapcase" o args apos pos) : Ev K (.Call (.Attribute o "swapcase" apos) args [] pos) σ Post :=
  ev_meth F.plainAttrs_str F.slot_str_swapcase F.type_str_swapcase h q.1 q.2.1 q.2.2
theorem m_scount {o : Expr} {apos pos : Pos} {args : List Expr} (h : Ev K o σ fun ov σ1 => HasT K ov "str" σ1 ∧ EvL K args pos σ1 fun vs σ2 => CallK K (.builtin "str.count") (ov :: vs) σ2 Post) (q : MethQ K "count" o args apos pos) : Ev K (.Call (.Attribute o "count" apos) args [] pos) σ Post :=
  ev_meth F.plainAttrs_str F.slot_str_count F.type_str_count h q.1 q.2.1 q.2.2
theorem m_bit_length {o : Expr} {apos pos : Pos} {args : List Expr} (h : Ev K o σ fun ov σ1 => HasT K ov "int" σ1 ∧ EvL K args pos σ1 fun vs σ2 => CallK K (.builtin "int.bit_length") (ov :: vs) σ2 Post) (q : MethQ K "bit_length" o args apos pos) : Ev K (.Call (.Attribute o "bit_length" apos) args [] pos) σ Post :=
  ev_meth F.plainAttrs_int F.slot_int_bit_length F.type_int_bit_length h q.1 q.2.1 q.2.2
theorem m_get {o : Expr} {apos pos : Pos} {args : List Expr} (h : Ev K o σ fun ov σ1 => HasT K ov "dict" σ1 ∧ EvL K args pos σ1 fun vs σ2 => CallK K (.builtin "dict.get") (ov :: vs) σ2 Post) (q : MethQ K "get" o args apos pos) : Ev K (.Call (.Attribute o "get" apos) args [] pos) σ Post :=
  ev_meth F.plainAttrs_dict F.slot_dict_get F.type_dict_get h q.1 q.2.1 q.2.2
theorem m_items {o : Expr} {apos pos : Pos} {args : List Expr} (h : Ev K o σ fun ov σ1 => HasT K ov "dict" σ1 ∧ EvL K args pos σ1 fun vs σ2 => CallK K (.builtin "dict.items") (ov :: vs) σ2 Post) (q : MethQ K "items" o args apos pos) : Ev K (.Call (.Attribute o "items" apos) args [] pos) σ Post :=
  ev_meth F.plainAttrs_dict F.slot_dict_items F.type_dict_items h q.1 q.2.1 q.2.2
end
end

local macro_rules | `(tactic| tb_start) => pure (sxAll "xs_cons xs_nil x_if x_aug x_ret tst_cmp tst_and tst_and_nil tst_or tst_or_nil tst_not ev_int ev_str ev_none ev_bool ev_binop ev_cmp ev_una ev_sub evl_nil then_next asgl_cons asgl_nil stol_cons stol_nil then_ret then_brk turn_next turn_brk turn_ret bin_add bin_sub ibin_add ibin_sub cmp_eqi cmp_nei cmp_lti cmp_lei cmp_gti cmp_eqs cmp_nes asg_name ev_subsl evp_none evp_some x_break c_scount una_neg una_inv bin_and bin_or bin_xor ibin_xor lazy_and tru_none tru_bool tru_int" "x_assign - 2 1 r;x_expr - 3 1 rr;x_augsub - 2 1 ir;n_loc i,v 4 2 rrd;n_cell i,c,v 4 3 rrd;n_free i,v 3 2 rd;n_glob v 5 1 arrd;n_blt v 5 1 arrd;evl_cons - 2 1 r;l_loc i,v 3 2 rr;l_cell i,c,v 3 3 rr;t_loc i,σ' 3 2 rr;t_cell i,c,σ' 3 3 rr")

section
open PySem PySem.P
noncomputable def words10 : List Str := ["OPTIMIZED", "NEWLOCALS", "VARARGS", "VARKEYWORDS", "NESTED", "GENERATOR", "NOFREE", "COROUTINE", "ITERABLE_COROUTINE", "ASYNC_GENERATOR"]
noncomputable def wordOf (p : Int) : Str := if p > 9 then baseText "0x" 16 (1 * 2 ^ p.toNat) else words10.getD p.toNat ""
section
variable {prog : Program} {w : World} {B : HF} {mg mb : Str → Option Value}
theorem bits_one (p : Int) (h : p < 64) : ((Builtin.Int.intBits 1 : Nat) : Int) + p ≤ 2 ^ 27 := by
  have : Builtin.Int.intBits 1 = 1 := by decide +kernel
  rw [this]; lia
theorem hex_fits {i : Int} (h : i.natAbs < 2 ^ 64) : (baseText "0x" 16 i).length ≤ sizeLine := baseText_under (by decide) (by decide) h
theorem con_word (T : TopOk B mg mb) {p : Int} (h0 : 0 ≤ p) (h1 : p < 61) {mu : Mu} : Con prog w B 1 (.ref 267) [.int p] [] mu fun v mu' => v = .str (wordOf p) ∧ mu' = mu := by
  refine fn_con T T.f267 ["place"] ["place"] (ab := [("place", .int p)]) (fun pm => FnOk.of) (fun pm => Binds.one (fun v => rfl)) rfl (by decide +kernel) fun pm A fit L => ?_
  refine xs_cons ?_
  repeat tb_start
  refine ite_both (fun hc => ?_) fun hc => ?_
  · repeat tb_start
    refine ev_callB (id := "hex") ?_
    repeat tb_start
    refine bin_shl h0 (bits_one p (by lia)) ?_
    repeat tb_start
    refine c_hex (hex_fits ?_) ?_
    · obtain ⟨n, rfl⟩ := Int.eq_ofNat_of_zero_le h0
      refine rwl (Int.one_mul _) ?_
      refine rwl (Int.toNat_natCast _) ?_
      refine rwl (Int.natAbs_pow _ _) ?_
      exact Nat.pow_lt_pow_right (by decide) (by lia)
    repeat tb_start
    exact ⟨by unfold wordOf; rw [if_pos (by simpa using hc)]; rfl, rfl⟩
  · repeat tb_start
    refine ev_tuple ?_
    repeat tb_start
    refine ⟨by decide, ?_⟩
    repeat tb_start
    have hp : p ≤ 9 := by simpa using hc
    obtain ⟨n, rfl⟩ := Int.eq_ofNat_of_zero_le h0
    have hn : n < 10 := by lia
    refine s_tup (j := n) (v := .str (words10.getD n "")) (seqIndex_of h0 (by show (n : Int) < 10; lia)) ?_ ?_
    · have : ∀ n < 10, [AV.str "OPTIMIZED", .str "NEWLOCALS", .str "VARARGS", .str "VARKEYWORDS", .str "NESTED", .str "GENERATOR", .str "NOFREE", .str "COROUTINE", .str "ITERABLE_COROUTINE", .str "ASYNC_GENERATOR"][n]? = some (.str (words10.getD n "")) := by
        intro n hn
        match n, hn with
        | 0, _ | 1, _ | 2, _ | 3, _ | 4, _ | 5, _ | 6, _ | 7, _ | 8, _ | 9, _ => rfl
      exact this n hn
    repeat tb_start
    exact ⟨by unfold wordOf; rw [if_neg (by lia)]; rfl, rfl⟩

theorem con_cells (T : TopOk B mg mb) {xs : List Int} (hx : xs.length ≤ 63) {mu : Mu} : Con prog w B 1 (.ref 260) [.lst (xs.map .int)] [] mu fun v mu' => ∃ (a : Addr) (cs : List Int), cs.length = 8 ∧ v = .raw (.ref a) ∧ mu' = (a, .list (cs.map AV.int)) :: mu := by
  refine fn_con T T.f260 ["script", "cells", "k"] ["script"] (ab := [("script", .lst (xs.map .int))]) (fun pm => FnOk.of) (fun pm => Binds.one (fun v => rfl)) rfl (by decide +kernel) fun pm A fit L => ?_
  refine xs_cons ?_
  repeat tb_start
  refine ev_list ?_
  repeat tb_start
  refine ⟨by decide, fun a => ?_⟩
  repeat tb_start
  refine x_for ?_
  refine ev_callT (T := "range") ?_
  repeat tb_start
  refine ev_callB (id := "len") ?_
  repeat tb_start
  refine c_len_lst (by simp; lia) ?_
  repeat tb_start
  refine c_range fun t u w => ?_
  refine rwl (List.length_map _) ?_
  let JJ : Nat → S → Prop := fun i σ => ∃ (cs : List Int) (o : Option AV), cs.length = 8 ∧ σ = ⟨[some (.lst (xs.map .int)), some (.raw (.ref a)), o], [], (a, .list (cs.map AV.int)) :: mu⟩
  refine ⟨_, _, walk_range (by lia), JJ, fun _ _ _ => True.intro, ⟨[4, 5, 6, 0, 1, 0, 2, 7129], none, rfl, rfl⟩, ?_, ?_⟩
  · rintro i v σ hv hz0
    refine e2_2 hz0 ?_
    clear hz0
    rintro cs o hcs rfl
    refine e0_2 (upto_get hv) ?_
    rintro hi rfl
    refine asg_name ?_
    repeat tb_start
    refine bin_fmod (by decide) ?_
    have e8 : Int.fmod (i : Int) 8 = ((i % 8 : Nat) : Int) := by rw [Int.fmod_eq_emod_of_nonneg _ (by decide)]; lia
    have hl : i % 8 < cs.length := by lia
    refine g_mu 0 rfl (by lia) (by lia) (v := .int (cs[i % 8])) ?_ ?_
    · rw [e8, Int.toNat_natCast, List.getElem?_map, List.getElem?_eq_getElem hl]; rfl
    repeat tb_start
    refine s_lst (by lia) (by lia) (v := .int xs[i]) ?_ ?_
    · rw [Int.toNat_natCast, List.getElem?_map, List.getElem?_eq_getElem hi]; rfl
    repeat tb_start
    refine set_mu 0 rfl (by lia) (by lia) (by rw [List.length_map]; lia) ?_
    repeat tb_start
    refine ⟨_, Le.refl _, cs.set (i % 8) (cs[i % 8] + xs[i]), some (.int i), by rw [List.length_set]; exact hcs, ?_⟩
    refine rwl e8 ?_
    refine rwl (Int.toNat_natCast _) ?_
    simp only [List.map_set]
    rfl
  · rintro σ hz0
    refine e2_2 hz0 ?_
    clear hz0
    rintro cs o hcs rfl
    repeat tb_start
    exact ⟨a, cs, hcs, rfl, rfl⟩
end
end

section
open PySem PySem.P PyProof.Rows
noncomputable def sI (xs : List Int) : List AV := xs.map AV.int
noncomputable def sT (xs : List Str) : List AV := xs.map AV.str
noncomputable def postOf (names : List Str) (first a0 a1 : Nat) (j : Nat) : Str × Str :=
  let back := if j = 0 ∨ j = first then ("away" : Str) else names.getD (j - 1) ""
  let on := if j = names.length - 1 then ("home" : Str) else names.getD (j + 1) ""
  if (if j < first then decide (j < a0) else decide (j - first < a1)) then (on, back) else (back, on)
noncomputable def pairT (p : Str × Str) : AV := .tup [.str p.1, .str p.2]
noncomputable def postsOf (names : List Str) (first a0 a1 : Nat) : List AV := (List.range names.length).map fun j => pairT (postOf names first a0 a1 j)

theorem s_two {K : Cx} {σ : S} {P : AV → S → Prop} {va sl : Expr} {a0 a1 st : Nat} {ah : AV} (ha : ah = .tup [.int a0, .int a1] ∨ ah = .lst [.int a0, .int a1]) (hst : st = 0 ∨ st = 1) (hp : P (.int ((if st = 0 then a0 else a1 : Nat) : Int)) σ) (hsl : PlainSl sl := by intro _ _; rfl) :
    SubT K va sl ah (.int (st : Int)) σ P := by
  rcases ha with rfl | rfl
  · refine s_tup (j := st) (v := .int ((if st = 0 then a0 else a1 : Nat) : Int)) (seqIndex_of (by lia) (by show (st : Int) < 2; lia)) ?_ hp (hs := hsl)
    rcases hst with rfl | rfl <;> rfl
  · refine s_lst (v := .int ((if st = 0 then a0 else a1 : Nat) : Int)) (by lia) (by omega) ?_ hp hsl
    rcases hst with rfl | rfl <;> rfl
section
variable {prog : Program} {w : World} {B : HF} {mg mb : Str → Option Value}
theorem con_posts (T : TopOk B mg mb) {names : List Str} {first a0 a1 : Nat} {ah : AV} (hn : names.length < 100) (hn1 : 0 < names.length) (hf : first < 100) (ha : ah = .tup [.int a0, .int a1] ∨ ah = .lst [.int a0, .int a1]) {mu : Mu} :
    Con prog w B 1 (.ref 274) [.lst (sT names), .int first, ah] [] mu fun v mu' => ∃ a, v = .raw (.ref a) ∧ mu' = (a, .list (postsOf names first a0 a1)) :: mu := by
  refine fn_con T T.f274 ["names", "first", "ahead", "posts", "j", "back", "on", "street", "house"] ["names", "first", "ahead"] (ab := [("names", .lst (sT names)), ("first", .int first), ("ahead", ah)]) (fun pm => FnOk.of) (fun pm => Binds.three (fun _ _ _ => rfl)) rfl (by decide +kernel) fun pm A fit L => ?_
  refine xs_cons ?_
  repeat tb_start
  refine ev_list ?_
  repeat tb_start
  refine ⟨by decide, fun a => ?_⟩
  repeat tb_start
  refine x_for ?_
  refine ev_callT (T := "range") ?_
  repeat tb_start
  refine ev_callB (id := "len") ?_
  repeat tb_start
  refine c_len_lst (by simp [sT]; lia) ?_
  repeat tb_start
  refine c_range fun t1 t2 t3 => ?_
  refine rwl (show (sT names).length = names.length from List.length_map _) ?_
  let JJ : Nat → S → Prop := fun i σ => ∃ o1 o2 o3 o4 o5 : Option AV, σ = ⟨[some (.lst (sT names)), some (.int first), some ah, some (.raw (.ref a)), o1, o2, o3, o4, o5], [], (a, .list ((List.range i).map fun j => pairT (postOf names first a0 a1 j))) :: mu⟩
  refine ⟨_, _, walk_range (by lia), JJ, fun _ _ _ => True.intro, ⟨none, none, none, none, none, rfl⟩, ?_, ?_⟩
  · rintro i v σ hv hz0
    refine e5_1 hz0 ?_
    clear hz0
    rintro o1 o2 o3 o4 o5 rfl
    refine e0_2 (upto_get hv) ?_
    rintro hi rfl
    have at_ : ∀ k : Nat, k < names.length → (sT names)[((k : Int)).toNat]? = some (.str (names.getD k "")) := fun k hk => by
      rw [Int.toNat_natCast, sT, List.getElem?_map, List.getElem?_eq_getElem hk, List.getD_eq_getElem?_getD, List.getElem?_eq_getElem hk]; rfl
    -- back
    repeat tb_start
    refine ev_det (.str (if i = 0 ∨ i = first then "away" else names.getD (i - 1) "")) ?_ ?_
    · refine ev_ifexp ?_
      repeat tb_start
      refine ite_both (fun h0 => ?_) fun h0 => ?_
      · repeat tb_start
        have : i = 0 := by simpa using h0
        exact ⟨by rw [if_pos (.inl this)], rfl⟩
      repeat tb_start
      refine ite_both (fun h1 => ?_) fun h1 => ?_
      · repeat tb_start
        have : i = first := by have : (i : Int) = first := by simpa using h1
                               lia
        exact ⟨by rw [if_pos (.inr this)], rfl⟩
      repeat tb_start
      have z0 : i ≠ 0 := by simpa using h0
      have z1 : i ≠ first := by have : ¬ (i : Int) = first := by simpa using h1
                                lia
      have e1 : (i : Int) - 1 = ((i - 1 : Nat) : Int) := by lia
      refine rwl e1 ?_
      refine s_lst (by omega) (by lia) (at_ _ (by lia)) ?_
      exact ⟨by rw [if_neg (by simp [z0, z1])], rfl⟩
    repeat tb_start
    -- on
    refine ev_det (.str (if i = names.length - 1 then "home" else names.getD (i + 1) "")) ?_ ?_
    · refine ev_ifexp ?_
      repeat tb_start
      refine ev_callB (id := "len") ?_
      repeat tb_start
      refine c_len_lst (by simp [sT]; lia) ?_
      repeat tb_start
      have e0 : (sT names).length = names.length := List.length_map _
      refine rwl e0 ?_
      refine ite_both (fun h0 => ?_) fun h0 => ?_
      · repeat tb_start
        have h0' : (i : Int) = names.length - 1 := by simpa using h0
        exact ⟨by rw [if_pos (by lia)], rfl⟩
      · repeat tb_start
        have h0' : ¬ (i : Int) = names.length - 1 := by simpa using h0
        have e1 : (i : Int) + 1 = ((i + 1 : Nat) : Int) := by lia
        refine rwl e1 ?_
        refine s_lst (by lia) (by lia) (at_ _ (by lia)) ?_
        exact ⟨by rw [if_neg (by lia)], rfl⟩
    repeat tb_start
    -- street, house
    refine x_tup ?_ (fun _ => rfl) rfl rfl
    refine ev_det (.tup [.int (if i < first then 0 else 1), .int (if i < first then i else (i : Int) - first)]) ?_ ?_
    · refine ev_ifexp ?_
      repeat tb_start
      refine ite_both (fun h0 => ?_) fun h0 => ?_
      · have h0' : (i : Int) < first := by simpa using h0
        refine ev_tuple ?_
        repeat tb_start
        exact ⟨by simp [sizeLine_eq], by rw [if_pos (by lia), if_pos (by lia)], rfl⟩
      · have h0' : ¬ (i : Int) < first := by simpa using h0
        refine ev_tuple ?_
        repeat tb_start
        exact ⟨by simp [sizeLine_eq], by rw [if_neg (by lia), if_neg (by lia)], rfl⟩
    refine ⟨_, rfl, rfl, ?_⟩
    repeat tb_start
    refine m_append ?_ ⟨rfl, rfl, rfl⟩
    repeat tb_start
    refine ⟨hasT_mu (List.mem_of_getElem? (i := 0) rfl), ?_⟩
    repeat tb_start
    refine ev_det (pairT (postOf names first a0 a1 i)) ?_ ?_
    · refine ev_ifexp ?_
      repeat tb_start
      have hst : (if i < first then (0 : Int) else 1) = (((if i < first then 0 else 1 : Nat)) : Int) := by split <;> rfl
      refine rwl hst ?_
      refine s_two ha (by split <;> simp) ?_
      repeat tb_start
      have hp : postOf names first a0 a1 i = if (if i < first then decide (i < a0) else decide (i - first < a1)) then ((if i = names.length - 1 then ("home" : Str) else names.getD (i + 1) ""), (if i = 0 ∨ i = first then ("away" : Str) else names.getD (i - 1) ""))
        else ((if i = 0 ∨ i = first then ("away" : Str) else names.getD (i - 1) ""), (if i = names.length - 1 then ("home" : Str) else names.getD (i + 1) "")) := rfl
      have hd : (decide ((if i < first then (i : Int) else (i : Int) - first) < (((if (if i < first then 0 else 1 : Nat) = 0 then a0 else a1 : Nat)) : Int))) = (if i < first then decide (i < a0) else decide (i - first < a1)) := by
        by_cases z : i < first
        · simp [z]
        · simp only [z, if_false]
          rw [decide_eq_decide]
          simp
          lia
      refine rwl hd ?_
      refine ite_both (fun hc => ?_) fun hc => ?_
      · refine ev_tuple ?_
        repeat tb_start
        refine ⟨by simp [sizeLine_eq], ?_, rfl⟩
        refine rwl (hp.trans (if_pos hc)) ?_
        rfl
      · refine ev_tuple ?_
        repeat tb_start
        refine ⟨by simp [sizeLine_eq], ?_, rfl⟩
        refine rwl (hp.trans (if_neg (fun z => by rw [hc] at z; cases z))) ?_
        rfl
    repeat tb_start
    refine c_append 0 rfl (by simp [sizeLine_eq]; lia) ?_
    repeat tb_start
    have e9 : (List.range (i + 1)).map (fun j => pairT (postOf names first a0 a1 j)) = (List.range i).map (fun j => pairT (postOf names first a0 a1 j)) ++ [pairT (postOf names first a0 a1 i)] := by rw [List.range_succ, List.map_append]; rfl
    exact ⟨_, Le.refl _, _, _, _, _, _, (by rw [e9]; exact rfl)⟩
  · rintro σ hz0
    refine e5_1 hz0 ?_
    clear hz0
    rintro o1 o2 o3 o4 o5 rfl
    repeat tb_start
    refine rwl (upto_len _) ?_
    exact ⟨a, rfl, rfl⟩
end
theorem Binds.six {prog : Program} {w : World} {B : HF} {fd : FuncData} {a b c d e f : AV} {mu : Mu} {x y z x' y' z' : Str} (h : ∀ u v t u' v' t', bindArgs fd ⟨[u, v, t, u', v', t'], []⟩ = pure [(x, u), (y, v), (z, t), (x', u'), (y', v'), (z', t')]) :
    Binds prog w B fd [a, b, c, d, e, f] [] mu [(x, a), (y, b), (z, c), (x', d), (y', e), (z', f)] mu :=
  fun A H s st vs hv ks hk Q E hq => by
    refine e2_3 hv.cons_inv ?_
    rintro u1 r1 rfl k1 hv
    refine e2_3 hv.cons_inv ?_
    rintro u2 r2 rfl k2 hv
    refine e2_3 hv.cons_inv ?_
    rintro u3 r3 rfl k3 hv
    refine e2_3 hv.cons_inv ?_
    rintro u4 r4 rfl k4 hv
    refine e2_3 hv.cons_inv ?_
    rintro u5 r5 rfl k5 hv
    refine e2_3 hv.cons_inv ?_
    rintro u6 r6 rfl k6 hv
    cases hv.nil_inv
    show wpAny _ _ (bindArgs fd ⟨[u1, u2, u3, u4, u5, u6], []⟩) _ _ _
    refine rwl (h u1 u2 u3 u4 u5 u6) ?_
    exact wpAny_pure (hq _ H s.heap s.toks (.refl _) st (BindR.cons k1 (BindR.cons k2 (BindR.cons k3 (BindR.cons k4 (BindR.cons k5 (BindR.cons k6 BindR.nil)))))))

noncomputable def sN (xs : List Nat) : List AV := xs.map fun d : Nat => AV.int (Int.ofNat d)
noncomputable def dotsT (n : Nat) : Str := Txt.mul "." (n : Int)
noncomputable def rowT (rows : List Str) (ds : List Nat) (goal : Nat) (bare : Str) (ends : List Str) (k : Nat) : Str :=
  (((if k = goal then bare else " ") ++ dotsT (ds.getD k 0)) ++ rows.getD k "") ++ ends.getD (k % ends.length) ""
noncomputable def pageTo (rows : List Str) (ds : List Nat) (goal : Nat) (bare : Str) (ends : List Str) : Nat → Str
  | 0 => ""
  | k + 1 => pageTo rows ds goal bare ends k ++ rowT rows ds goal bare ends k

theorem mul_ok {n : Nat} (h : n ≤ 1000) : MulOk "." (n : Int) := by
  have hl : ("." : Str).length = 1 := by decide
  refine ⟨?_, fun h1 _ => ?_, fun h1 _ => ?_⟩
  · simp; lia
  · refine rwl hl ?_
    intro z
    have : (1 : Int) ≤ (2 ^ 63 - 1) / n := Int.le_ediv_of_mul_le (by omega) (by lia)
    lia
  · refine rwl hl ?_
    unfold Builtin.Str.tooLong
    simp [sizeLine_eq]
    lia
theorem fold_rep (c : Nat) : ∀ (n : Nat) (acc : Array Nat), ((List.replicate n (#[c] : Array Nat)).foldl (· ++ ·) acc).toList = acc.toList ++ List.replicate n c
  | 0, acc => by simp
  | n + 1, acc => by
    refine rwl List.replicate_succ ?_
    refine rwl List.foldl_cons ?_
    refine rwl (fold_rep c n _) ?_
    simp [List.replicate_succ]
theorem dotsT_eq (n : Nat) : (dotsT n).cps.toList = List.replicate n 46 := by
  unfold dotsT Txt.mul
  have hc : ("." : Str).cps = #[46] := by decide
  split
  · have : n = 0 := by lia
    subst this; rfl
  · split
    · rename_i h1 h2
      have hl : ("." : Str).length = 1 := by decide
      rw [hl] at h2
      have : n = 1 := by
        have : ((n : Int) == 1 || (1 : Nat) == 0) = true := h2
        simp at this
        lia
      subst this
      rw [hc]; rfl
    · show ((List.replicate (n : Int).toNat ("." : Str).cps).foldl (· ++ ·) #[]).toList = _
      refine rwl hc ?_
      refine rwl (Int.toNat_natCast _) ?_
      refine rwl (fold_rep _ _ _) ?_
      simp
theorem dotsT_len (n : Nat) : (dotsT n).length = n := by
  have := congrArg List.length (dotsT_eq n)
  rw [List.length_replicate] at this
  exact this

structure PageOk (rows : List Str) (ds : List Nat) (bare : Str) (ends : List Str) : Prop where
  rn : rows.length ≤ 20
  dn : rows.length ≤ ds.length
  rl : ∀ x ∈ rows, x.length ≤ 100
  dl : ∀ d ∈ ds, d ≤ 1000
  bl : bare.length ≤ 10
  el : ∀ x ∈ ends, x.length ≤ 10
  en : 0 < ends.length ∧ ends.length ≤ 20

theorem getD_len {l : List Str} {n i : Nat} (h : ∀ x ∈ l, x.length ≤ n) : (l.getD i "").length ≤ n := by
  refine rwl List.getD_eq_getElem?_getD ?_
  cases e : l[i]? with
  | none => simp; exact Nat.zero_le _
  | some x => exact h x (List.mem_of_getElem? e)
theorem getD_le {l : List Nat} {n i : Nat} (h : ∀ x ∈ l, x ≤ n) : l.getD i 0 ≤ n := by
  refine rwl List.getD_eq_getElem?_getD ?_
  cases e : l[i]? with
  | none => simp
  | some x => exact h x (List.mem_of_getElem? e)
theorem row_len {rows : List Str} {ds : List Nat} {goal : Nat} {bare : Str} {ends : List Str} (h : PageOk rows ds bare ends) (k : Nat) : (rowT rows ds goal bare ends k).length ≤ 1120 := by
  unfold rowT
  refine rwl (Str.length_append _ _) ?_
  refine rwl (Str.length_append _ _) ?_
  refine rwl (Str.length_append _ _) ?_
  refine rwl (dotsT_len _) ?_
  have h1 := getD_len (i := k) h.rl
  have h2 := getD_le (i := k) h.dl
  have h3 := getD_len (i := k % ends.length) h.el
  have h4 : (if k = goal then bare else (" " : Str)).length ≤ 10 := by
    split
    · exact h.bl
    · decide
  lia
theorem page_len {rows : List Str} {ds : List Nat} {goal : Nat} {bare : Str} {ends : List Str} (h : PageOk rows ds bare ends) : ∀ k, (pageTo rows ds goal bare ends k).length ≤ 1120 * k
  | 0 => by simp [pageTo]; decide
  | k + 1 => by
    rw [pageTo, Str.length_append]
    have := page_len (goal := goal) h k
    have := row_len (goal := goal) h k
    lia

section
variable {prog : Program} {w : World} {B : HF} {mg mb : Str → Option Value}
theorem con_page (T : TopOk B mg mb) {rows : List Str} {ds : List Nat} {goal : Nat} {bare tail : Str} {ends : List Str} (h : PageOk rows ds bare ends) (ht : tail.length ≤ 1000) {i : Nat} {d : Addr} {mu : Mu} (hi : mu[i]? = some (d, .list (sN ds))) :
    Con prog w B 1 (.ref 281) [.lst (sT rows), .raw (.ref d), .int goal, .str bare, .tup (sT ends), .str tail] [] mu fun v mu' => v = .str (pageTo rows ds goal bare ends rows.length ++ tail) ∧ mu' = mu := by
  refine fn_con T T.f281 ["rows", "dots", "goal", "bare", "ends", "tail", "page", "k"] ["rows", "dots", "goal", "bare", "ends", "tail"]
    (ab := [("rows", .lst (sT rows)), ("dots", .raw (.ref d)), ("goal", .int goal), ("bare", .str bare), ("ends", .tup (sT ends)), ("tail", .str tail)]) (fun pm => FnOk.of) (fun pm => Binds.six (fun _ _ _ _ _ _ => rfl)) rfl (by decide +kernel) fun pm A fit L => ?_
  refine xs_cons ?_
  repeat tb_start
  refine x_for ?_
  refine ev_callT (T := "range") ?_
  repeat tb_start
  refine ev_callB (id := "len") ?_
  repeat tb_start
  have hrn := h.rn
  refine c_len_lst (by simp [sT]; lia) ?_
  repeat tb_start
  refine c_range fun t1 t2 t3 => ?_
  refine rwl (show (sT rows).length = rows.length from List.length_map _) ?_
  let JJ : Nat → S → Prop := fun k σ => ∃ o : Option AV, σ = ⟨[some (.lst (sT rows)), some (.raw (.ref d)), some (.int goal), some (.str bare), some (.tup (sT ends)), some (.str tail), some (.str (pageTo rows ds goal bare ends k)), o], [], mu⟩
  refine ⟨_, _, walk_range (by lia), JJ, fun _ _ _ => True.intro, ⟨none, rfl⟩, ?_, ?_⟩
  · rintro k v σ hv hz0
    refine e1_1 hz0 ?_
    clear hz0
    rintro o rfl
    refine e0_2 (upto_get hv) ?_
    rintro hk rfl
    have hdn := h.dn
    repeat tb_start
    refine ev_det (.str (if k = goal then bare else " ")) ?_ ?_
    · refine ev_ifexp ?_
      repeat tb_start
      refine ite_both (fun hc => ?_) fun hc => ?_
      · repeat tb_start
        exact ⟨by rw [if_pos (by have : (k : Int) = goal := by simpa using hc
                                 lia)], rfl⟩
      · repeat tb_start
        exact ⟨by rw [if_neg (by have : ¬ (k : Int) = goal := by simpa using hc
                                 lia)], rfl⟩
    repeat tb_start
    refine s_mu i hi (by lia) (by lia) (v := .int ((ds.getD k 0 : Nat) : Int)) ?_ ?_
    · rw [Int.toNat_natCast, sN, List.getElem?_map, List.getElem?_eq_getElem (by lia), List.getD_eq_getElem?_getD, List.getElem?_eq_getElem (by lia)]; rfl
    have hdl := getD_le (i := k) h.dl
    refine b_strmul (mul_ok hdl) ?_
    have hb4 : (if k = goal then bare else (" " : Str)).length ≤ 10 := by
      split
      · exact h.bl
      · decide
    have hdd : (Txt.mul "." ((ds.getD k 0 : Nat) : Int)).length = ds.getD k 0 := dotsT_len _
    refine bin_cat (by rw [hdd, sizeLine_eq]; lia) ?_
    repeat tb_start
    refine s_lst (by lia) (by lia) (v := .str (rows.getD k "")) ?_ ?_
    · rw [Int.toNat_natCast, sT, List.getElem?_map, List.getElem?_eq_getElem (by omega), List.getD_eq_getElem?_getD, List.getElem?_eq_getElem (by omega)]; rfl
    have hrl := getD_len (i := k) h.rl
    refine bin_cat (by rw [Str.length_append, hdd, sizeLine_eq]; lia) ?_
    repeat tb_start
    refine ev_callB (id := "len") ?_
    repeat tb_start
    have hen := h.en
    refine c_len_tup (by simp [sT]; lia) ?_
    have ee : (sT ends).length = ends.length := List.length_map _
    refine rwl ee ?_
    refine bin_fmod (by lia) ?_
    have e8 : Int.fmod (k : Int) ends.length = ((k % ends.length : Nat) : Int) := by rw [Int.fmod_eq_emod_of_nonneg _ (by lia)]; lia
    refine rwl e8 ?_
    have hm : k % ends.length < ends.length := Nat.mod_lt _ hen.1
    refine s_tup (j := k % ends.length) (seqIndex_of (by lia) (by rw [ee]; lia)) (v := .str (ends.getD (k % ends.length) "")) ?_ ?_
    · rw [sT, List.getElem?_map, List.getElem?_eq_getElem hm, List.getD_eq_getElem?_getD, List.getElem?_eq_getElem hm]; rfl
    have hel := getD_len (i := k % ends.length) h.el
    refine bin_cat (by rw [Str.length_append, Str.length_append, hdd, sizeLine_eq]; lia) ?_
    have hpl := page_len (goal := goal) h k
    have hrw := row_len (goal := goal) h k
    refine ibin_cat (by unfold rowT dotsT at hrw; rw [sizeLine_eq]; lia) ?_
    repeat tb_start
    exact ⟨_, Le.refl _, _, rfl⟩
  · rintro σ hz0
    refine e1_1 hz0 ?_
    clear hz0
    rintro o rfl
    refine rwl (upto_len _) ?_
    repeat tb_start
    have hpl := page_len (goal := goal) h rows.length
    refine bin_cat (by rw [sizeLine_eq]; lia) ?_
    repeat tb_start
    exact ⟨rfl, rfl⟩
end
/- the pure side -/
noncomputable def bitsF (bit : Nat → Bool) (out i : Nat) : Nat := (((List.range 32).drop i).map fun b => if bit b then 2 ^ b else 0).sum + out * 2 ^ 32
theorem bitsF_step (bit : Nat → Bool) (out : Nat) {i : Nat} (h : i < 32) : bitsF bit out i = (if bit i then 2 ^ i else 0) + bitsF bit out (i + 1) := by
  unfold bitsF
  refine rwl (List.drop_eq_getElem_cons (by simpa using h)) ?_
  simp only [List.map_cons, List.sum_cons, List.getElem_range]
  lia
theorem bitsF_end (bit : Nat → Bool) (out : Nat) : bitsF bit out 32 = out * 2 ^ 32 := by
  unfold bitsF
  refine rwl (List.drop_eq_nil_of_le (by simp)) ?_
  simp
theorem bitsF_dvd (bit : Nat → Bool) (out : Nat) : ∀ k, k ≤ 32 → 2 ^ (32 - k) ∣ bitsF bit out (32 - k)
  | 0, _ => by rw [bitsF_end]; exact ⟨out, by rw [Nat.mul_comm]⟩
  | k + 1, h => by
    have ih := bitsF_dvd bit out k (by lia)
    have e : 32 - k = 32 - (k + 1) + 1 := by lia
    refine rwl (bitsF_step bit out (by omega)) ?_
    refine rwr e ?_
    refine Nat.dvd_add ?_ ?_
    · split
      · exact Nat.dvd_refl _
      · exact Nat.dvd_zero _
    · exact Nat.dvd_trans (Nat.pow_dvd_pow 2 (by lia)) ih
theorem and_pow (n i : Nat) : n &&& 2 ^ i = if n.testBit i then 2 ^ i else 0 := by
  apply Nat.eq_of_testBit_eq
  intro j
  refine rwl (Nat.testBit_and _ _ _) ?_
  refine rwl Nat.testBit_two_pow ?_
  by_cases e : i = j
  · subst e
    cases h : n.testBit i <;> simp [Nat.testBit_two_pow]
  · cases h : n.testBit i <;> simp [Nat.testBit_two_pow, e]
theorem bitsF_and (bit : Nat → Bool) (out : Nat) {i : Nat} (h : i < 32) : bitsF bit out i &&& 2 ^ i = if bit i then 2 ^ i else 0 := by
  have d := bitsF_dvd bit out (32 - (i + 1)) (by omega)
  rw [show 32 - (32 - (i + 1)) = i + 1 by lia] at d
  refine e1_1 d ?_
  clear d
  rintro q hq
  refine rwl (and_pow _ _) ?_
  refine rwl Nat.testBit_eq_decide_div_mod_eq ?_
  refine rwl (bitsF_step bit out h) ?_
  refine rwl hq ?_
  have e : 2 ^ (i + 1) * q = 2 ^ i * (2 * q) := by rw [Nat.pow_succ, Nat.mul_assoc]
  refine rwl e ?_
  have hp : 0 < 2 ^ i := Nat.pow_pos (by decide)
  cases bit i with
  | true =>
    have : (2 ^ i + 2 ^ i * (2 * q)) / 2 ^ i = 1 + 2 * q := by
      rw [show 2 ^ i + 2 ^ i * (2 * q) = 2 ^ i * (1 + 2 * q) by rw [Nat.mul_add, Nat.mul_one], Nat.mul_div_cancel_left _ hp]
    simp only [if_true, this]
    refine rwl (show (1 + 2 * q) % 2 = 1 by lia) ?_
    simp
  | false =>
    simp only [Bool.false_eq_true, if_false, Nat.zero_add, Nat.mul_div_cancel_left _ hp]
    refine rwl (show 2 * q % 2 = 0 by lia) ?_
    simp
theorem sum_zero : ∀ {l : List Nat} {f : Nat → Nat}, (l.map f).sum = 0 → ∀ x ∈ l, f x = 0
  | [], _, _, x, hx => by cases hx
  | y :: l, f, h, x, hx => by
    simp only [List.map_cons, List.sum_cons] at h
    rcases List.mem_cons.mp hx with rfl | hx
    · lia
    · exact sum_zero (l := l) (by lia) x hx
theorem bitsF_zero {bit : Nat → Bool} {out i : Nat} (h : bitsF bit out i = 0) : out = 0 ∧ ((List.range 32).drop i).filter bit = [] := by
  unfold bitsF at h
  refine ⟨by lia, List.filter_eq_nil_iff.mpr fun b hb hbit => ?_⟩
  have := sum_zero (by lia : (((List.range 32).drop i).map fun b => if bit b then 2 ^ b else 0).sum = 0) b hb
  rw [if_pos hbit] at this
  exact absurd this (Nat.ne_of_gt (Nat.pow_pos (by decide)))
noncomputable def hexT (n : Nat) : Str := baseText "0x" 16 (n : Int)
noncomputable def bitWords (bit : Nat → Bool) (i : Nat) : List Str := (((List.range 32).take i).filter bit).map fun b : Nat => wordOf (Int.ofNat b)
theorem bitWords_step (bit : Nat → Bool) {i : Nat} (h : i < 32) : bitWords bit (i + 1) = bitWords bit i ++ if bit i then [wordOf (Int.ofNat i)] else [] := by
  unfold bitWords
  refine rwl List.take_add_one ?_
  refine rwl (List.getElem?_eq_getElem (by simpa using h)) ?_
  simp only [List.getElem_range, Option.toList_some, List.filter_append, List.map_append]
  congr 1
  cases e : bit i <;> simp [e]
noncomputable def flagText (bit : Nat → Bool) (out : Nat) : Str := Txt.join ", " (bitWords bit 32 ++ if 0 < out then [hexT (out * 2 ^ 32)] else [])
theorem and_int (n m : Nat) : Builtin.bitAnd (n : Int) (m : Int) = ((n &&& m : Nat) : Int) := by
  rw [bitAnd_pp (by lia) (by lia)]; simp
theorem xor_int {n m : Nat} (h : n &&& m = m) (hm : m ≤ n) : Builtin.bitXor (n : Int) (m : Int) = ((n - m : Nat) : Int) := by
  unfold Builtin.bitXor
  refine rwl (bitOr_and _ _) ?_
  refine rwl (and_int _ _) ?_
  refine rwl h ?_
  lia
theorem hex_len {n : Nat} (h : n < 16 ^ 16) : (hexT n).length ≤ 20 := by
  unfold hexT baseText
  refine rwl (Str.length_append _ _) ?_
  refine rwl (Str.length_append _ _) ?_
  refine rwl (ofString_ofList_length (Nat.toDigits 16 _)) ?_
  have h1 := toDigits_len_pow (b := 16) (k := 16) (n := n) (by decide) (by decide) h
  have e1 : (Str.ofString "0x").length = 2 := by decide
  have e2 : (Str.ofString (if (n : Int) < 0 then "-" else "")).length = 0 := by
    rw [if_neg (by lia)]; decide
  refine rwl e1 ?_
  refine rwl e2 ?_
  refine rwl (Int.natAbs_natCast _) ?_
  lia
theorem word_len {b : Nat} (h : b < 61) : (wordOf (Int.ofNat b)).length ≤ 20 := by
  unfold wordOf
  split
  · have : baseText "0x" 16 (1 * 2 ^ (Int.ofNat b).toNat) = hexT (2 ^ b) := by
      unfold hexT
      congr 1
      simp
    refine rwl this ?_
    exact hex_len (Nat.lt_of_lt_of_le (Nat.pow_lt_pow_right (by decide) h) (by decide))
  · rename_i h9
    have hb : b ≤ 9 := by
      have : ¬ (b : Int) > 9 := h9
      lia
    have : ∀ b, b ≤ 9 → (words10.getD b "").length ≤ 20 := by
      intro b hb
      match b, hb with
      | 0, _ | 1, _ | 2, _ | 3, _ | 4, _ | 5, _ | 6, _ | 7, _ | 8, _ | 9, _ => decide
    exact this b hb

noncomputable def flagE (b : Nat) (k v : Tok) : DictEntry := ⟨hashInt ((2 ^ b : Nat) : Int), .int ((2 ^ b : Nat) : Int) k, .str (words10.getD b "") v⟩
noncomputable def flagEs : Array DictEntry := #[flagE 0 373 374, flagE 1 375 376, flagE 2 377 378, flagE 3 379 380, flagE 4 381 382, flagE 5 383 384, flagE 6 385 386, flagE 7 387 388, flagE 8 389 390, flagE 9 391 392]
noncomputable def flagO : Obj := { cls := .type "dict", data := .dict flagEs 10 }
theorem flag_keys {prog : Program} {w : World} : KeysOf (intKind prog w) flagEs := by
  intro e he
  have : ∀ b k v, ∃ i, (intKind prog w).is i (flagE b k v).key = true ∧ (flagE b k v).hash = (intKind prog w).hash i := fun b k v => ⟨((2 ^ b : Nat) : Int), by simp [intKind, flagE, Value.isInt], rfl⟩
  simp only [flagEs, List.mem_toArray, List.mem_cons, List.not_mem_nil, or_false] at he
  rcases he with rfl | rfl | rfl | rfl | rfl | rfl | rfl | rfl | rfl | rfl <;> exact this _ _ _
theorem flag_find : ∀ b, b ≤ 9 → ∃ t, findBy Value.isInt flagEs ((2 ^ b : Nat) : Int) = some (.str (words10.getD b "") t) := by
  intro b hb
  match b, hb with
  | 0, _ | 1, _ | 2, _ | 3, _ | 4, _ | 5, _ | 6, _ | 7, _ | 8, _ | 9, _ => exact ⟨_, rfl⟩
theorem flag_none : ∀ b, 10 ≤ b → b < 32 → findBy Value.isInt flagEs ((2 ^ b : Nat) : Int) = none := by
  have key : ∀ b, b < 32 → 10 ≤ b → (findBy Value.isInt flagEs ((2 ^ b : Nat) : Int)).isNone = true := by decide +kernel
  intro b h1 h2
  exact Option.isNone_iff_eq_none.mp (key b h2 h1)
section
variable {prog : Program} {w : World} {B : HF} {mg mb : Str → Option Value}
theorem c_flagget {K : Cx} {σ : S} {Post : AV → S → Prop} (hd : K.B 81 = some flagO) {b : Nat} (hb : b < 32) (h : Post (.str (wordOf (Int.ofNat b))) σ) :
    CallK K (.builtin "dict.get") [.raw (.ref 81), .int ((2 ^ b : Nat) : Int), .str (hexT (2 ^ b))] σ Post := fun H s st us hu Q E hq => by
  refine e3_4 hu.three ?_
  rintro u v x rfl r1 r2 r3
  cases vr_raw r1
  refine e1_1 (vr_int r2) ?_
  rintro t rfl
  refine e1_1 (vr_str r3) ?_
  rintro t2 rfl
  have ho := st.m.keep _ _ (st.m.base _ _ hd)
  have hm : s.heap.MapOf (intKind K.prog K.w) 81 (fun k => findBy Value.isInt flagEs k) := ⟨flagO, flagEs, _, ho, ⟨rfl, rfl, rfl⟩, rfl, flag_keys, fun _ => rfl⟩
  refine call_meetsIn F.slot_dict_get hm.typeIs F.entry_dict_get (F.args_dict_get_3 _ _ _) (meets_dict_get_default (intKind K.prog K.w) (k := ((2 ^ b : Nat) : Int)) 81 (by exact beq_self_eq_true _) (by decide) _) ⟨_, hm, ?_⟩
  refine hq _ _ H σ s.heap _ (.refl _) st ?_ h
  show VR H _ ((findBy Value.isInt flagEs ((2 ^ b : Nat) : Int)).getD (.str (hexT (2 ^ b)) t2))
  by_cases h9 : b ≤ 9
  · refine e1_1 (flag_find b h9) ?_
    rintro t3 e
    refine rwl e ?_
    have : wordOf (Int.ofNat b) = words10.getD b "" := by
      unfold wordOf
      refine rwl (if_neg (by show ¬ (b : Int) > 9; lia)) ?_
      rfl
    refine rwl this ?_
    exact mk_str _ _
  · refine rwl (flag_none b (by lia) hb) ?_
    have : wordOf (Int.ofNat b) = hexT (2 ^ b) := by
      unfold wordOf hexT
      refine rwl (if_pos (by show (b : Int) > 9; lia)) ?_
      congr 1
      simp
    refine rwl this ?_
    exact mk_str _ _

theorem joinlen {ws : List Str} (h : ∀ x ∈ ws, x.length ≤ 20) : (ws.map (·.length)).sum ≤ 20 * ws.length := by
  induction ws with
  | nil => simp
  | cons y ys ih =>
    have h1 := h y (.head _)
    have h2 := ih fun x hx => h x (List.mem_cons_of_mem _ hx)
    simp only [List.map_cons, List.sum_cons, List.length_cons]
    lia
theorem bitWords_le (bit : Nat → Bool) (i : Nat) : (bitWords bit i).length ≤ 32 := by
  unfold bitWords
  refine rwl (List.length_map _) ?_
  refine Nat.le_trans (List.length_filter_le _ _) ?_
  refine rwl List.length_take ?_
  refine rwl List.length_range ?_
  lia
theorem bitWords_mem {bit : Nat → Bool} {i : Nat} : ∀ x ∈ bitWords bit i, x.length ≤ 20 := by
  intro x hx
  refine e1_2 (List.mem_map.mp hx) ?_
  rintro b hb rfl
  have := List.mem_range.mp ((List.take_subset _ _) (List.mem_filter.mp hb).1)
  exact word_len (by lia)

noncomputable def retE : Stmt → Expr
  | .Return (some e) _ => e
  | _ => .Name "" default
theorem con_pretty (T : TopOk B mg mb) (hd81 : B 81 = some flagO) {bit : Nat → Bool} {out : Nat} (ho : out ≤ 8) (hne : bitsF bit out 0 ≠ 0) {mu : Mu} :
    Con prog w B 1 (.ref 88) [.int ((bitsF bit out 0 : Nat) : Int)] [] mu fun v mu' => v = .str (flagText bit out) ∧ mu' = mu := by
  refine fn_con T T.f88 ["flags", "names", "i", "flag"] ["flags"] (ab := [("flags", .int ((bitsF bit out 0 : Nat) : Int))]) (fun pm => FnOk.of) (fun pm => Binds.one (fun _ => rfl)) rfl (by decide +kernel) fun pm A fit L => ?_
  refine xs_cons ?_
  repeat tb_start
  refine ev_list ?_
  repeat tb_start
  refine ⟨by decide, fun a => ?_⟩
  repeat tb_start
  refine x_for ?_
  refine ev_callT (T := "range") ?_
  repeat tb_start
  refine c_range fun t1 t2 t3 => ?_
  have last : ∀ (o1 o2 : Option AV) (fl : AV) (ws : List Str) (l : List AV), l = sT ws → (∀ x ∈ ws, x.length ≤ 20) → ws.length ≤ 33 → Txt.join ", " ws = flagText bit out →
      Ev (cxOf prog w B T A fit (fdOf (topSt 12) "pretty_flags" .none pm (.ref (88 - 1))) ["flags", "names", "i", "flag"] (FnOk.of) 88 L) (retE ((fbody (topSt 12)).getD 2 (.Pass default))) ⟨[some fl, some (.raw (.ref a)), o1, o2], [], (a, .list l) :: mu⟩ (fun v σ1 => then_ (cxOf prog w B T A fit (fdOf (topSt 12) "pretty_flags" .none pm (.ref (88 - 1))) ["flags", "names", "i", "flag"] (FnOk.of) 88 L) [] (fun f σ => f.val = .str (flagText bit out) ∧ σ.mu = mu) (.ret v) σ1) := by
    intro o1 o2 fl ws l hlw hw hl he
    subst hlw
    refine Tri.le (Le.settleV (i := 1) (j := 0) rfl rfl) ?_
    refine m_join ?_ ⟨rfl, rfl, rfl⟩
    repeat tb_start
    refine ⟨hasT_str, ?_⟩
    repeat tb_start
    refine c_join (ys := ws) LstAt.lst ?_ ?_
    · have := joinlen hw
      have e2 : (", " : Str).length = 2 := by decide
      rw [e2]; lia
    repeat tb_start
    exact ⟨by rw [← he]; rfl, rfl⟩
  let JJ : Nat → S → Prop := fun i σ => bitsF bit out i ≠ 0 ∧ ∃ o1 o2 : Option AV, σ = ⟨[some (.int ((bitsF bit out i : Nat) : Int)), some (.raw (.ref a)), o1, o2], [], (a, .list (sT (bitWords bit i))) :: mu⟩
  refine ⟨_, _, walk_range (n := 32) (by decide), JJ, fun _ _ _ => True.intro, ⟨hne, none, none, rfl⟩, ?_, ?_⟩
  · rintro i v σ hv ⟨hn0, o1, o2, rfl⟩
    obtain ⟨hi, rfl⟩ := upto_get hv
    repeat tb_start
    refine bin_shl (by lia) (bits_one _ (by lia)) ?_
    have e1 : (1 : Int) * 2 ^ ((i : Int)).toNat = ((2 ^ i : Nat) : Int) := by simp
    refine rwl e1 ?_
    repeat tb_start
    refine tst_plain ?_ rfl
    repeat tb_start
    refine rwl (and_int _ _) ?_
    refine rwl (bitsF_and bit out hi) ?_
    have hst := bitsF_step bit out hi
    have hwl := bitWords_le bit i
    refine ite_both (fun hc => ?_) fun hc => ?_
    · have hb : bit i = true := by
        cases hb : bit i with
        | true => rfl
        | false => rw [hb] at hc; simp at hc
      rw [if_pos hb] at hst
      repeat tb_start
      refine m_append ?_ ⟨rfl, rfl, rfl⟩
      repeat tb_start
      refine ⟨hasT_mu (List.mem_of_getElem? (i := 0) rfl), ?_⟩
      repeat tb_start
      refine m_get ?_ ⟨rfl, rfl, rfl⟩
      repeat tb_start
      refine ⟨fun H s st u hu => ?_, ?_⟩
      · cases vr_raw hu
        have := st.m.keep _ _ (st.m.base _ _ hd81)
        exact ⟨⟨_, this, rfl⟩, fun b e => by cases e; exact ⟨_, this, rfl⟩⟩
      repeat tb_start
      refine ev_callB (id := "hex") ?_
      repeat tb_start
      have hp : 2 ^ i < 2 ^ 64 := Nat.pow_lt_pow_right (by decide) (by lia)
      refine c_hex (hex_fits (by rw [Int.natAbs_natCast]; exact hp)) ?_
      repeat tb_start
      refine c_flagget hd81 hi ?_
      repeat tb_start
      refine c_append 0 rfl (by simp [sT, sizeLine_eq]; lia) ?_
      repeat tb_start
      refine rwl (xor_int (by rw [bitsF_and bit out hi, if_pos hb]) (by omega)) ?_
      have e3 : bitsF bit out i - 2 ^ i = bitsF bit out (i + 1) := by omega
      refine rwl e3 ?_
      repeat tb_start
      refine tst_plain ?_ rfl
      repeat tb_start
      have ew : sT (bitWords bit (i + 1)) = sT (bitWords bit i) ++ [AV.str (wordOf (Int.ofNat i))] := by rw [bitWords_step bit hi, if_pos hb, sT, List.map_append]; rfl
      refine ite_both (fun hz => ?_) fun hz => ?_
      · have hz0 : bitsF bit out (i + 1) = 0 := by simpa using hz
        obtain ⟨z1, z2⟩ := bitsF_zero hz0
        repeat tb_start
        refine last (some (.int i)) (some (.int ((2 ^ i : Nat) : Int))) (.int ((bitsF bit out (i + 1) : Nat) : Int)) (bitWords bit (i + 1)) _ ew.symm bitWords_mem (Nat.le_trans (bitWords_le _ _) (by omega)) ?_
        unfold flagText
        refine rwl (if_neg (by omega)) ?_
        refine rwl (List.append_nil _) ?_
        congr 1
        unfold bitWords
        have e4 : ((List.range 32).take 32).filter bit = ((List.range 32).take (i + 1)).filter bit := by
          conv => lhs; rw [show (List.range 32).take 32 = (List.range 32).take (i + 1) ++ (List.range 32).drop (i + 1) by rw [List.take_append_drop]; exact List.take_of_length_le (by simp)]
          rw [List.filter_append, z2, List.append_nil]
        rw [e4]
      · have hz0 : bitsF bit out (i + 1) ≠ 0 := by simpa using hz
        repeat tb_start
        refine ⟨_, Le.refl _, hz0, some (.int i), some (.int ((2 ^ i : Nat) : Int)), ?_⟩
        refine rwl ew ?_
        rfl
    · have hb : bit i = false := by
        cases hb : bit i with
        | false => rfl
        | true =>
          rw [hb] at hc
          have : 2 ^ i ≠ 0 := Nat.ne_of_gt (Nat.pow_pos (by decide))
          rw [if_pos rfl, bne_eq_false_iff_eq] at hc
          omega
      rw [hb] at hst
      simp only [Bool.false_eq_true, if_false, Nat.zero_add] at hst
      repeat tb_start
      refine ⟨_, Le.refl _, by rw [← hst]; exact hn0, some (.int i), some (.int ((2 ^ i : Nat) : Int)), ?_⟩
      refine rwl (bitWords_step bit hi) ?_
      refine rwl hb ?_
      refine rwr hst ?_
      simp only [Bool.false_eq_true, if_false, List.append_nil]
      rfl
  · rintro σ ⟨hn0, o1, o2, rfl⟩
    rw [upto_len] at hn0 ⊢
    rw [bitsF_end] at hn0 ⊢
    have hout : 0 < out := Nat.pos_of_ne_zero fun z => hn0 (by rw [z, Nat.zero_mul])
    have hwl := bitWords_le bit 32
    have hwm := bitWords_mem (bit := bit) (i := 32)
    have hft : flagText bit out = Txt.join ", " (bitWords bit 32 ++ [hexT (out * 2 ^ 32)]) := by unfold flagText; rw [if_pos hout]
    have hp : out * 2 ^ 32 < 2 ^ 64 := by omega
    generalize hws : bitWords bit 32 = ws at hwl hwm hft ⊢
    generalize hfl : out * 2 ^ 32 = fl at hft hp ⊢
    repeat tb_start
    refine m_append ?_ ⟨rfl, rfl, rfl⟩
    repeat tb_start
    refine ⟨hasT_mu (List.mem_of_getElem? (i := 0) rfl), ?_⟩
    repeat tb_start
    refine ev_callB (id := "hex") ?_
    repeat tb_start
    refine c_hex (hex_fits (by rw [Int.natAbs_natCast]; exact hp)) ?_
    repeat tb_start
    refine c_append 0 rfl (by simp [sT, sizeLine_eq]; omega) ?_
    repeat tb_start
    have e6 : sT (ws ++ [hexT fl]) = sT ws ++ [AV.str (hexT fl)] := by rw [sT, List.map_append]; rfl
    have q1 : ∀ x ∈ ws ++ [hexT fl], x.length ≤ 20 := fun x hx => by
      rcases List.mem_append.mp hx with hx | hx
      · exact hwm x hx
      · rw [List.mem_singleton.mp hx]; exact hex_len (Nat.lt_of_lt_of_le hp (by decide))
    have q2 : (ws ++ [hexT fl]).length ≤ 33 := by rw [List.length_append, List.length_singleton]; omega
    refine last o1 o2 (.int (fl : Int)) (ws ++ [hexT fl]) _ e6.symm q1 q2 ?_
    exact hft.symm
end
end

section
open PySem
/- the pattern machine, step by step -/
noncomputable def iter : Nat → Sre.M → Sre.M
  | 0, m => m
  | n + 1, m => iter n m.step
theorem step_done {m : Sre.M} (h : m.outcome.isSome = true) : m.step = m := by
  unfold Sre.M.step
  rw [if_pos h]
theorem iter_done {m : Sre.M} (h : m.outcome.isSome = true) : ∀ n, iter n m = m
  | 0 => rfl
  | n + 1 => by rw [iter, step_done h, iter_done h n]
theorem runFor_iter : ∀ (n : Nat) (m : Sre.M), m.runFor n = iter n m
  | 0, m => rfl
  | n + 1, m => by
    rw [Sre.M.runFor, iter]
    cases h : m.outcome.isSome with
    | true => simp only [if_true]; rw [step_done h, iter_done h]
    | false => simp only [Bool.false_eq_true, if_false]; exact runFor_iter n m.step
theorem iter_add : ∀ (a b : Nat) (m : Sre.M), iter (a + b) m = iter b (iter a m)
  | 0, b, m => by rw [Nat.zero_add]; rfl
  | a + 1, b, m => by rw [Nat.add_right_comm, iter, iter_add a b m.step]; rfl

theorem drive_wp {prog : Program} {w : World} {A : Around} {E : Value → Shared → Prop} {s : Shared} {Q : Sre.M → Shared → Prop} : ∀ (turns : Nat) (m : Sre.M) (k : Nat), k ≤ 4 * turns → 0 < turns → (iter k m).outcome.isSome = true → Q (iter k m) s → wpAny (model prog w) A (Builtin.Re.reDrive turns m) Q E s
  | 0, _, _, _, h, _, _ => absurd h (Nat.lt_irrefl _)
  | turns + 1, m, k, hk, _, ho, hq => by
    have e4 : m.runFor Builtin.Re.reTurnSteps = iter 4 m := runFor_iter 4 m
    unfold Builtin.Re.reDrive
    simp only [e4]
    by_cases h4 : (iter 4 m).outcome.isSome = true
    · refine rwl (if_pos h4) ?_
      have : iter k m = iter 4 m := by
        rcases Nat.le_total k 4 with h | h
        · refine e1_1 (Nat.exists_eq_add_of_le h) ?_
          rintro d e
          rw [e, iter_add, iter_done ho]
        · refine e1_1 (Nat.exists_eq_add_of_le h) ?_
          rintro d rfl
          rw [iter_add, iter_done h4]
      refine rwr this ?_
      exact wpAny_pure hq
    · refine rwl (if_neg h4) ?_
      have hk4 : 4 < k := by
        rcases Nat.lt_or_ge 4 k with h | h
        · exact h
        · refine e1_1 (Nat.exists_eq_add_of_le h) ?_
          rintro d e
          have e2 : iter 4 m = iter k m := by rw [e, iter_add, iter_done ho]
          rw [e2] at h4
          exact absurd ho h4
      have e5 : iter k m = iter (k - 4) (iter 4 m) := by rw [← iter_add]; congr 1; lia
      rw [e5] at ho hq
      exact wpAny_bind (wpAny_rule (drive_wp turns (iter 4 m) (k - 4) (by lia) (by lia) ho hq))

theorem toEnd_wp {prog : Program} {w : World} {A : Around} {E : Value → Shared → Prop} {s : Shared} {Q : Option Sre.M → Shared → Prop} {m : Sre.M} (k : Nat) (hk : k ≤ 2 ^ 60) {m' : Sre.M} {yes : Bool} (he : iter k m = m') (ho : m'.outcome = some (if yes then .matched else .failed))
    (hq : Q (if yes then some m' else none) s) : wpAny (model prog w) A (Builtin.Re.reRunToEnd m) Q E s := by
  subst he
  unfold Builtin.Re.reRunToEnd
  refine wpAny_bind (drive_wp (2 ^ 64) m k (Nat.le_trans hk (by decide)) (Nat.pow_pos (by decide)) (by rw [ho]; rfl) ?_)
  have tail : wpAny (model prog w) A (match (iter k m).outcome with
      | some .matched => pure (some (iter k m))
      | some .failed => pure none
      | some (.stuck why) => unsupported s!"_sre:{why}"
      | none => unsupported "internal:sre:no-outcome") Q E s := by
    refine rwl ho ?_
    cases yes with
    | true => exact wpAny_pure hq
    | false => exact wpAny_pure hq
  refine wpAny_bind (wpAny_forIn_list _ (fun _ _ s' => s' = s) _ (fun x rest b s' hs => ?_) (fun b s' hs => ?_) _ _ rfl)
  · subst hs
    split
    · exact wpAny_bind (wpAny_rule (wpAny_pure rfl))
    · exact wpAny_pure rfl
  · subst hs
    exact tail
noncomputable def c1 : Array Nat := #[14, 4, 0, 1, 1, 6, 1, 16, 46, 1]
noncomputable def at1 (text : Array Nat) (lim : Nat) (must : Bool) (seen : Sre.Seen) (s : Nat) (first : Bool) : Sre.M :=
  { code := c1, text := text, lim := lim, start := s, lastStart := lim, wholeText := false, mustAdvance := must, pc := 5, pos := s, handed := s, outermost := first, marks := #[], lastmark := -1, lastindex := -1, loops := #[], inner := none,
    frames := [{ wait := .nextStart, pc := 5, pos := s, outermost := first }], weight := 1, answer := none, seen := seen, outcome := none }
noncomputable def line1 (text : Array Nat) (p : Nat) : Bool := p == 0 || text.getD (p - 1) 0 == 10
noncomputable def hit1 (text : Array Nat) (p : Nat) : Bool := line1 text p && text.getD p 0 == 46
noncomputable def find1 (text : Array Nat) : Nat → Nat → Option Nat
  | 0, _ => none
  | n + 1, s => if hit1 text s then some s else find1 text n (s + 1)

section
variable {text : Array Nat} {lim : Nat} {must : Bool} {seen : Sre.Seen} {s : Nat} {first : Bool}
noncomputable def at1b (text : Array Nat) (lim : Nat) (must : Bool) (seen : Sre.Seen) (s : Nat) (first : Bool) : Sre.M :=
  { code := c1, text := text, lim := lim, start := s, lastStart := lim, wholeText := false, mustAdvance := must, pc := 7, pos := s, handed := s, outermost := first, marks := #[], lastmark := -1, lastindex := -1, loops := #[], inner := none,
    frames := [{ wait := .nextStart, pc := 5, pos := s, outermost := first }], weight := 1, answer := none, seen := seen, outcome := none }
noncomputable def at1n (text : Array Nat) (lim : Nat) (must : Bool) (seen : Sre.Seen) (s : Nat) (first : Bool) (pc : Nat) : Sre.M :=
  { code := c1, text := text, lim := lim, start := s, lastStart := lim, wholeText := false, mustAdvance := must, pc := pc, pos := s, handed := s, outermost := first, marks := #[], lastmark := -1, lastindex := -1, loops := #[], inner := none,
    frames := [{ wait := .nextStart, pc := 5, pos := s, outermost := first }], weight := 1, answer := some false, seen := seen, outcome := none }
theorem p1_at : (at1 text lim must seen s first).step = if line1 text s = true then at1b text lim must ((seen.add 6).add 44) s first else at1n text lim must ((seen.add 6).add 44) s first 5 := rfl
theorem p1_lit : (at1b text lim must seen s first).step = if s ≥ lim then at1n text lim must (seen.add 16) s first 7 else
    match (Except.ok (text.getD s 0 == 46, seen.add 16) : Except String (Bool × Sre.Seen)) with
    | .error why => Sre.M.stick (at1b text lim must (seen.add 16) s first) why
    | .ok (false, seen') => at1n text lim must seen' s first 7
    | .ok (true, seen') => { at1b text lim must seen' s first with pc := 9, pos := s + 1 } := rfl
noncomputable def at1m (text : Array Nat) (lim : Nat) (must : Bool) (seen : Sre.Seen) (s : Nat) (first : Bool) : Sre.M :=
  { code := c1, text := text, lim := lim, start := s, lastStart := lim, wholeText := false, mustAdvance := must, pc := 9, pos := s + 1, handed := s, outermost := first, marks := #[], lastmark := -1, lastindex := -1, loops := #[], inner := none,
    frames := [{ wait := .nextStart, pc := 5, pos := s, outermost := first }], weight := 1, answer := none, seen := seen, outcome := none }
noncomputable def at1y (text : Array Nat) (lim : Nat) (must : Bool) (seen : Sre.Seen) (s : Nat) (first : Bool) : Sre.M :=
  { code := c1, text := text, lim := lim, start := s, lastStart := lim, wholeText := false, mustAdvance := must, pc := 9, pos := s + 1, handed := s + 1, outermost := first, marks := #[], lastmark := -1, lastindex := -1, loops := #[], inner := none,
    frames := [{ wait := .nextStart, pc := 5, pos := s, outermost := first }], weight := 1, answer := some true, seen := seen, outcome := none }
theorem p1_succ : (at1m text lim must seen s first).step = if (first && ((false && (s + 1 != lim)) || (must && (s + 1 == s)))) = true then { at1m text lim must (seen.add 1) s first with answer := some false } else at1y text lim must (seen.add 1) s first := rfl
theorem p1_no {pc : Nat} : (at1n text lim must seen s first pc).step = if s < lim then at1 text lim false seen (s + 1) false else
    { at1n text lim must seen s first 5 with frames := [], weight := 0 } := rfl
theorem p1_find : ∀ (n s : Nat) (must : Bool) (seen : Sre.Seen) (first : Bool), s + n = lim → ∃ k m', k ≤ 3 * n + 8 ∧ iter k (at1 text lim must seen s first) = m' ∧
    match find1 text n s with
    | some p => m'.outcome = some .matched ∧ m'.start = p ∧ m'.handed = p + 1
    | none => m'.outcome = some .failed
  | 0, s, must, seen, first, h => by
    have hs : ¬ s < lim := by lia
    have hs' : s ≥ lim := by lia
    unfold find1
    by_cases hl : line1 text s = true
    · refine i2_3 4 _ (by decide) rfl ?_
      refine rwl (show (4 : Nat) = 1 + (1 + (1 + 1)) from rfl) ?_
      refine rwl (iter_add _ _ _) ?_
      refine rwl (iter_add _ _ _) ?_
      refine rwl (iter_add _ _ _) ?_
      simp only [iter]
      refine rwl p1_at ?_
      refine rwl (if_pos hl) ?_
      refine rwl p1_lit ?_
      refine rwl (if_pos hs') ?_
      refine rwl p1_no ?_
      refine rwl (if_neg hs) ?_
      rfl
    · refine i2_3 3 _ (by decide) rfl ?_
      simp only [iter]
      refine rwl p1_at ?_
      refine rwl (if_neg hl) ?_
      refine rwl p1_no ?_
      refine rwl (if_neg hs) ?_
      rfl
  | n + 1, s, must, seen, first, h => by
    have hs : s < lim := by lia
    have hs' : ¬ s ≥ lim := by lia
    unfold find1
    by_cases hl : line1 text s = true
    · cases hc : (text.getD s 0 == 46) with
      | true =>
        have hh : hit1 text s = true := by unfold hit1; rw [hl, hc]; rfl
        refine rwl (if_pos hh) ?_
        refine i2_3 5 _ (by lia) rfl ?_
        simp only [iter]
        refine rwl p1_at ?_
        refine rwl (if_pos hl) ?_
        refine rwl p1_lit ?_
        refine rwl (if_neg hs') ?_
        refine rwl hc ?_
        have hne : (s + 1 == s) = false := by rw [beq_eq_false_iff_ne]; lia
        have e : (at1m text lim must (((seen.add 6).add 44).add 16) s first).step = at1y text lim must ((((seen.add 6).add 44).add 16).add 1) s first := by
          refine rwl p1_succ ?_
          refine rwl hne ?_
          simp
        show ((at1m text lim must (((seen.add 6).add 44).add 16) s first).step.step.step).outcome = _ ∧ ((at1m text lim must (((seen.add 6).add 44).add 16) s first).step.step.step).start = _ ∧ ((at1m text lim must (((seen.add 6).add 44).add 16) s first).step.step.step).handed = _
        refine rwl e ?_
        exact ⟨rfl, rfl, rfl⟩
      | false =>
        have hh : hit1 text s = false := by unfold hit1; rw [hl, hc]; rfl
        rw [hh]
        simp only [Bool.false_eq_true, if_false]
        refine e2_3 (p1_find n (s + 1) false (((seen.add 6).add 44).add 16) false (by lia)) ?_
        rintro k m' hk he hp
        refine i2_3 (3 + k) m' (by lia) ?_ hp
        rw [iter_add]
        simp only [iter]
        rw [p1_at, if_pos hl, p1_lit, if_neg hs', hc]
        show iter k (at1n text lim must (((seen.add 6).add 44).add 16) s first 7).step = m'
        rw [p1_no, if_pos hs]
        exact he
    · have hh : hit1 text s = false := by
        unfold hit1
        rw [show line1 text s = false by simpa using hl]; rfl
      rw [hh]
      simp only [Bool.false_eq_true, if_false]
      refine e2_3 (p1_find n (s + 1) false ((seen.add 6).add 44) false (by lia)) ?_
      rintro k m' hk he hp
      refine i2_3 (2 + k) m' (by lia) ?_ hp
      rw [iter_add]
      simp only [iter]
      rw [p1_at, if_neg hl, p1_no, if_pos hs]
      exact he

theorem p1_fs : ∃ X : Sre.M, Sre.forSearch c1 text 0 s lim must = (if (decide (s > lim) || decide (lim - s < 1)) = true then X else at1 text lim must (({} : Sre.Seen).add 14) s true) ∧ X.step.outcome = some .failed := ⟨_, rfl, rfl⟩
theorem p1_search (must : Bool) (hs : s ≤ lim) : ∃ k m', k ≤ 3 * lim + 8 ∧ iter k (Sre.forSearch c1 text 0 s lim must) = m' ∧
    match find1 text (lim - s) s with
    | some p => m'.outcome = some .matched ∧ m'.start = p ∧ m'.handed = p + 1
    | none => m'.outcome = some .failed := by
  refine e1_2 (p1_fs (text := text) (lim := lim) (must := must) (s := s)) ?_
  rintro X hX ho
  refine rwl hX ?_
  by_cases h : lim - s < 1
  · have e : lim - s = 0 := by lia
    refine rwl (if_pos (by simp [h])) ?_
    refine i2_3 1 _ (by lia) rfl ?_
    refine rwl e ?_
    exact ho
  · refine e2_3 (p1_find (text := text) (lim := lim) (lim - s) s must (({} : Sre.Seen).add 14) true (by lia)) ?_
    rintro k m' hk he hp
    rw [if_neg (by simp; lia)]
    exact i2_3 k m' (by lia) he hp
end
noncomputable def c2 : Array Nat := #[14, 9, 4, 1, 2, 16, 10, 16, 13, 0, 7, 7, 16, 13, 16, 10, 15, 18, 5, 16, 10, 15, 13, 11, 16, 13, 5, 5, 0, 16, 10, 1, 15, 2, 0, 1]
noncomputable def mk2 (text : Array Nat) (lim s : Nat) (pc pos handed : Nat) (o : Bool) (fr : List Sre.Frame) (w : Nat) (ans : Option Bool) (seen : Sre.Seen) : Sre.M :=
  { code := c2, text := text, lim := lim, start := s, lastStart := lim, wholeText := false, mustAdvance := false, pc := pc, pos := pos, handed := handed, outermost := o, marks := #[], lastmark := -1, lastindex := -1, loops := #[], inner := none,
    frames := fr, weight := w, answer := ans, seen := seen, outcome := none }
noncomputable def fS (s : Nat) (o : Bool) : Sre.Frame := { wait := .nextStart, pc := 10, pos := s, outermost := o }
noncomputable def fB (a s : Nat) (o : Bool) : Sre.Frame := { wait := .nextBranch, pc := a, pos := s, outermost := o }
noncomputable def fL (s : Nat) (o : Bool) : Sre.Frame := { wait := .lookNot, pc := 26, pos := s, outermost := o }

section
variable {text : Array Nat} {lim s pos h : Nat} {o : Bool} {seen : Sre.Seen} {fr : List Sre.Frame} {w : Nat}
theorem q_branch : (mk2 text lim s 10 s h o [fS s o] 1 none seen).step = mk2 text lim s 12 s s o [fB 11 s o, fS s o] 2 none (seen.add 7) := rfl
theorem q_lit12 : (mk2 text lim s 12 pos h o fr w none seen).step = if pos ≥ lim then mk2 text lim s 12 pos h o fr w (some false) (seen.add 16) else
    match (Except.ok (text.getD pos 0 == 13, seen.add 16) : Except String (Bool × Sre.Seen)) with
    | .error why => Sre.M.stick (mk2 text lim s 12 pos h o fr w none (seen.add 16)) why
    | .ok (false, seen') => mk2 text lim s 12 pos h o fr w (some false) seen'
    | .ok (true, seen') => mk2 text lim s 14 (pos + 1) h o fr w none seen' := rfl
theorem q_lit14 : (mk2 text lim s 14 pos h o fr w none seen).step = if pos ≥ lim then mk2 text lim s 14 pos h o fr w (some false) (seen.add 16) else
    match (Except.ok (text.getD pos 0 == 10, seen.add 16) : Except String (Bool × Sre.Seen)) with
    | .error why => Sre.M.stick (mk2 text lim s 14 pos h o fr w none (seen.add 16)) why
    | .ok (false, seen') => mk2 text lim s 14 pos h o fr w (some false) seen'
    | .ok (true, seen') => mk2 text lim s 16 (pos + 1) h o fr w none seen' := rfl
theorem q_lit19 : (mk2 text lim s 19 pos h o fr w none seen).step = if pos ≥ lim then mk2 text lim s 19 pos h o fr w (some false) (seen.add 16) else
    match (Except.ok (text.getD pos 0 == 10, seen.add 16) : Except String (Bool × Sre.Seen)) with
    | .error why => Sre.M.stick (mk2 text lim s 19 pos h o fr w none (seen.add 16)) why
    | .ok (false, seen') => mk2 text lim s 19 pos h o fr w (some false) seen'
    | .ok (true, seen') => mk2 text lim s 21 (pos + 1) h o fr w none seen' := rfl
theorem q_lit24 : (mk2 text lim s 24 pos h o fr w none seen).step = if pos ≥ lim then mk2 text lim s 24 pos h o fr w (some false) (seen.add 16) else
    match (Except.ok (text.getD pos 0 == 13, seen.add 16) : Except String (Bool × Sre.Seen)) with
    | .error why => Sre.M.stick (mk2 text lim s 24 pos h o fr w none (seen.add 16)) why
    | .ok (false, seen') => mk2 text lim s 24 pos h o fr w (some false) seen'
    | .ok (true, seen') => mk2 text lim s 26 (pos + 1) h o fr w none seen' := rfl
theorem q_lit29 : (mk2 text lim s 29 pos h o fr w none seen).step = if pos ≥ lim then mk2 text lim s 29 pos h o fr w (some false) (seen.add 16) else
    match (Except.ok (text.getD pos 0 == 10, seen.add 16) : Except String (Bool × Sre.Seen)) with
    | .error why => Sre.M.stick (mk2 text lim s 29 pos h o fr w none (seen.add 16)) why
    | .ok (false, seen') => mk2 text lim s 29 pos h o fr w (some false) seen'
    | .ok (true, seen') => mk2 text lim s 31 (pos + 1) h o fr w none seen' := rfl
theorem q_next11 {pc : Nat} : (mk2 text lim s pc pos h o [fB 11 s o, fS s o] 2 (some false) seen).step = mk2 text lim s 19 s s o [fB 18 s o, fS s o] 2 none seen := rfl
theorem q_next18 {pc : Nat} : (mk2 text lim s pc pos h o [fB 18 s o, fS s o] 2 (some false) seen).step = mk2 text lim s 24 s s o [fB 23 s o, fS s o] 2 none seen := rfl
theorem q_not : (mk2 text lim s 26 pos h o [fB 23 s o, fS s o] 2 none seen).step = mk2 text lim s 29 pos pos false [fL pos o, fB 23 s o, fS s o] 3 none (seen.add 5) := rfl
theorem q_notno {pc p2 : Nat} {o2 : Bool} : (mk2 text lim s pc p2 h o2 [fL pos o, fB 23 s o, fS s o] 3 (some false) seen).step = mk2 text lim s 32 pos h o [fB 23 s o, fS s o] 2 none seen := rfl
theorem q_jump16 : (mk2 text lim s 16 pos h o fr w none seen).step = mk2 text lim s 35 pos h o fr w none (seen.add 15) := rfl
theorem q_jump21 : (mk2 text lim s 21 pos h o fr w none seen).step = mk2 text lim s 35 pos h o fr w none (seen.add 15) := rfl
theorem q_jump32 : (mk2 text lim s 32 pos h o fr w none seen).step = mk2 text lim s 35 pos h o fr w none (seen.add 15) := rfl
theorem q_succ : (mk2 text lim s 35 pos h o fr w none seen).step = if (o && ((false && (pos != lim)) || (false && (pos == s)))) = true then mk2 text lim s 35 pos h o fr w (some false) (seen.add 1) else mk2 text lim s 35 pos pos o fr w (some true) (seen.add 1) := rfl
theorem q_succ' : (mk2 text lim s 35 pos h o fr w none seen).step = mk2 text lim s 35 pos pos o fr w (some true) (seen.add 1) := by rw [q_succ]; simp
theorem q_end {a : Nat} : ∃ m', (mk2 text lim s 35 pos pos o [fB a s o, fS s o] 2 (some true) seen).step.step.step = m' ∧ m'.outcome = some .matched ∧ m'.start = s ∧ m'.handed = pos := ⟨_, rfl, rfl, rfl, rfl⟩
noncomputable def nl2 (text : Array Nat) (lim s : Nat) : Nat := if text.getD s 0 = 13 ∧ s + 1 < lim ∧ text.getD (s + 1) 0 = 10 then s + 2 else s + 1
theorem q_run (hs : s < lim) (hc : text.getD s 0 = 10 ∨ text.getD s 0 = 13) (hd : Nat) : ∃ k m', k ≤ 20 ∧ iter k (mk2 text lim s 10 s hd o [fS s o] 1 none seen) = m' ∧ m'.outcome = some .matched ∧ m'.start = s ∧ m'.handed = nl2 text lim s := by
  have hs' : ¬ s ≥ lim := by lia
  by_cases h13 : text.getD s 0 = 13
  · have b13 : (text.getD s 0 == 13) = true := by rw [h13]; rfl
    have b10 : (text.getD s 0 == 10) = false := by rw [h13]; rfl
    by_cases hl : s + 1 < lim ∧ text.getD (s + 1) 0 = 10
    · have c10 : (text.getD (s + 1) 0 == 10) = true := by rw [hl.2]; rfl
      refine e1_2 (q_end (text := text) (lim := lim) (s := s) (pos := s + 2) (o := o) (a := 11) (seen := ((((seen.add 7).add 16).add 16).add 15).add 1)) ?_
      rintro m' e r
      refine i2_3 8 m' (by decide) ?_ ?_
      · simp only [iter]
        rw [q_branch, q_lit12, if_neg hs', b13]
        show (mk2 text lim s 14 (s + 1) s o [fB 11 s o, fS s o] 2 none ((seen.add 7).add 16)).step.step.step.step.step.step = m'
        rw [q_lit14, if_neg (by lia), c10]
        show (mk2 text lim s 16 (s + 1 + 1) s o [fB 11 s o, fS s o] 2 none (((seen.add 7).add 16).add 16)).step.step.step.step.step = m'
        rw [q_jump16, q_succ']
        exact e
      · unfold nl2; rw [if_pos ⟨h13, hl⟩]; exact r
    · refine e1_2 (q_end (text := text) (lim := lim) (s := s) (pos := s + 1) (o := o) (a := 23) (seen := ((((((((seen.add 7).add 16).add 16).add 16).add 16).add 5).add 16).add 15).add 1)) ?_
      rintro m' e r
      have key : ∀ seen' : Sre.Seen, (mk2 text lim s 14 (s + 1) s o [fB 11 s o, fS s o] 2 none seen').step = mk2 text lim s 14 (s + 1) s o [fB 11 s o, fS s o] 2 (some false) (seen'.add 16) := fun seen' => by
        rw [q_lit14]
        by_cases hg : s + 1 ≥ lim
        · rw [if_pos hg]
        · rw [if_neg hg]
          have : (text.getD (s + 1) 0 == 10) = false := by
            rw [beq_eq_false_iff_ne]
            exact fun z => hl ⟨by lia, z⟩
          rw [this]
      have key2 : ∀ seen' : Sre.Seen, (mk2 text lim s 29 (s + 1) (s + 1) false [fL (s + 1) o, fB 23 s o, fS s o] 3 none seen').step = mk2 text lim s 29 (s + 1) (s + 1) false [fL (s + 1) o, fB 23 s o, fS s o] 3 (some false) (seen'.add 16) := fun seen' => by
        rw [q_lit29]
        by_cases hg : s + 1 ≥ lim
        · rw [if_pos hg]
        · rw [if_neg hg]
          have : (text.getD (s + 1) 0 == 10) = false := by
            rw [beq_eq_false_iff_ne]
            exact fun z => hl ⟨by lia, z⟩
          rw [this]
      refine i2_3 15 m' (by decide) ?_ ?_
      · simp only [iter]
        rw [q_branch, q_lit12, if_neg hs', b13]
        show (mk2 text lim s 14 (s + 1) s o [fB 11 s o, fS s o] 2 none ((seen.add 7).add 16)).step.step.step.step.step.step.step.step.step.step.step.step.step = m'
        rw [key, q_next11, q_lit19, if_neg hs', b10]
        show (mk2 text lim s 19 s s o [fB 18 s o, fS s o] 2 (some false) ((((seen.add 7).add 16).add 16).add 16)).step.step.step.step.step.step.step.step.step.step = m'
        rw [q_next18, q_lit24, if_neg hs', b13]
        show (mk2 text lim s 26 (s + 1) s o [fB 23 s o, fS s o] 2 none (((((seen.add 7).add 16).add 16).add 16).add 16)).step.step.step.step.step.step.step.step = m'
        rw [q_not, key2, q_notno, q_jump32, q_succ']
        exact e
      · unfold nl2
        rw [if_neg (fun z => hl z.2)]
        exact r
  · have h10 : text.getD s 0 = 10 := by
      rcases hc with h | h
      · exact h
      · exact absurd h h13
    have b13 : (text.getD s 0 == 13) = false := by rw [h10]; rfl
    have b10 : (text.getD s 0 == 10) = true := by rw [h10]; rfl
    refine e1_2 (q_end (text := text) (lim := lim) (s := s) (pos := s + 1) (o := o) (a := 18) (seen := ((((seen.add 7).add 16).add 16).add 15).add 1)) ?_
    rintro m' e r
    refine i2_3 9 m' (by decide) ?_ ?_
    · simp only [iter]
      rw [q_branch, q_lit12, if_neg hs', b13]
      show (mk2 text lim s 12 s s o [fB 11 s o, fS s o] 2 (some false) ((seen.add 7).add 16)).step.step.step.step.step.step.step = m'
      rw [q_next11, q_lit19, if_neg hs', b10]
      show (mk2 text lim s 21 (s + 1) s o [fB 18 s o, fS s o] 2 none (((seen.add 7).add 16).add 16)).step.step.step.step.step = m'
      rw [q_jump21, q_succ']
      exact e
    · unfold nl2
      rw [if_neg (fun z => h13 z.1)]
      exact r

noncomputable def find2 (text : Array Nat) : Nat → Nat → Option Nat
  | 0, _ => none
  | n + 1, s => if text.getD s 0 = 10 ∨ text.getD s 0 = 13 then some s else find2 text n (s + 1)
theorem q_set (c : Nat) : Sre.inSet c2 c c2.size 5 true seen = if (c == 10) = true then .ok (true, seen.add 16) else if (c == 13) = true then .ok (true, (seen.add 16).add 16) else .ok (false, ((seen.add 16).add 16).add 0) := rfl
noncomputable def base2 (text : Array Nat) (lim s : Nat) (must : Bool) (seen : Sre.Seen) : Sre.M :=
  { code := c2, text := text, lim := lim, start := s, lastStart := lim, wholeText := false, mustAdvance := must, pc := 10, pos := s, handed := s, outermost := true, marks := #[], lastmark := -1, lastindex := -1, loops := #[], inner := none,
    frames := [], weight := 0, answer := none, seen := seen, outcome := none }
theorem q_adm (m : Sre.M) (hc : m.code = c2) : ∀ (n s : Nat) (seen : Sre.Seen), s + n = m.lim → ∃ seen', Sre.M.admitted m (n + 1) s seen = .ok (find2 m.text n s, seen')
  | 0, s, seen, h => by
    refine ⟨seen, ?_⟩
    unfold Sre.M.admitted find2
    rw [if_pos (by lia)]
  | n + 1, s, seen, h => by
    have ih := fun seen' => q_adm m hc n (s + 1) seen' (by lia)
    rw [Sre.M.admitted, if_neg (by lia), hc, q_set]
    unfold find2
    by_cases h10 : m.text.getD s 0 = 10
    · refine rwl (if_pos (by rw [h10]; rfl)) ?_
      refine rwl (if_pos (.inl h10)) ?_
      exact ⟨_, rfl⟩
    · refine rwl (if_neg (by simpa using h10)) ?_
      by_cases h13 : m.text.getD s 0 = 13
      · refine rwl (if_pos (by rw [h13]; rfl)) ?_
        refine rwl (if_pos (.inr h13)) ?_
        exact ⟨_, rfl⟩
      · refine rwl (if_neg (by simpa using h13)) ?_
        refine rwl (if_neg (by rintro (z | z); exact h10 z; exact h13 z)) ?_
        exact ih _
theorem find2_some : ∀ {n s p : Nat}, find2 text n s = some p → s ≤ p ∧ p < s + n ∧ (text.getD p 0 = 10 ∨ text.getD p 0 = 13)
  | 0, _, _, h => by cases h
  | n + 1, s, p, h => by
    unfold find2 at h
    split at h
    · cases h; exact ⟨Nat.le_refl _, by lia, by assumption⟩
    · have := find2_some h
      exact ⟨by lia, by lia, this.2.2⟩
theorem q_fs (must : Bool) : ∃ X : Sre.M, Sre.forSearch c2 text 0 s lim must = (if (decide (s > lim) || decide (lim - s < 1)) = true then X else
    match Sre.M.admitted (base2 text lim s must (({} : Sre.Seen).add 14)) (lim + 1 - s) s (({} : Sre.Seen).add 14) with
    | .ok (some p, seen) => mk2 text lim p 10 p p true [fS p true] 1 none seen
    | .ok (none, seen) => { base2 text lim s must seen with answer := some false }
    | .error why => (base2 text lim s must (({} : Sre.Seen).add 14)).stick why) ∧ X.step.outcome = some .failed := ⟨_, rfl, rfl⟩
theorem p2_search (must : Bool) (hs : s ≤ lim) : ∃ k m', k ≤ 20 ∧ iter k (Sre.forSearch c2 text 0 s lim must) = m' ∧
    match find2 text (lim - s) s with
    | some p => m'.outcome = some .matched ∧ m'.start = p ∧ m'.handed = nl2 text lim p
    | none => m'.outcome = some .failed := by
  refine e1_2 (q_fs (text := text) (lim := lim) (s := s) must) ?_
  rintro X hX ho
  refine rwl hX ?_
  by_cases h : lim - s < 1
  · have e : lim - s = 0 := by lia
    refine rwl (if_pos (by simp [h])) ?_
    refine ⟨1, _, by decide, rfl, ?_⟩
    refine rwl e ?_
    exact ho
  · refine rwl (if_neg (by simp; lia)) ?_
    refine e1_1 (q_adm (base2 text lim s must (({} : Sre.Seen).add 14)) rfl (lim - s) s (({} : Sre.Seen).add 14) (show s + (lim - s) = lim by lia)) ?_
    rintro seen' ea
    rw [show lim - s + 1 = lim + 1 - s by lia] at ea
    refine rwl ea ?_
    show ∃ k m', k ≤ 20 ∧ iter k (match (Except.ok (find2 text (lim - s) s, seen') : Except String (Option Nat × Sre.Seen)) with
      | .ok (some p, seen) => mk2 text lim p 10 p p true [fS p true] 1 none seen
      | .ok (none, seen) => { base2 text lim s must seen with answer := some false }
      | .error why => (base2 text lim s must (({} : Sre.Seen).add 14)).stick why) = m' ∧ _
    cases ef : find2 text (lim - s) s with
    | none => exact ⟨1, _, by decide, rfl, rfl⟩
    | some p =>
      refine e0_3 (find2_some ef) ?_
      rintro h1 h2 h3
      exact q_run (by lia) h3 p
end
noncomputable def c3 : Array Nat := #[14, 10, 4, 1, 1, 22, 0, 31, 16, 127, 0, 13, 7, 22, 0, 31, 16, 127, 0, 1]
noncomputable def c4 : Array Nat := #[14, 14, 4, 1, 1, 9, 4294966783, 0, 0, 2147483648, 0, 0, 0, 0, 0, 13, 11, 9, 4294966783, 0, 0, 2147483648, 0, 0, 0, 0, 0, 1]
noncomputable def okC (c : Nat) : Bool := 32 ≤ c && c < 127
section
variable {text : Array Nat} {lim s : Nat} {seen : Sre.Seen}
theorem r_set3 (c : Nat) (h : okC c = true) : Sre.inSet c3 c c3.size 5 true seen = .ok (false, ((seen.add 22).add 16).add 0) := by
  have e : Sre.inSet c3 c c3.size 5 true seen = if (decide (0 ≤ c) && decide (c ≤ 31)) = true then .ok (true, seen.add 22) else if (c == 127) = true then .ok (true, (seen.add 22).add 16) else .ok (false, ((seen.add 22).add 16).add 0) := rfl
  unfold okC at h
  simp only [Bool.and_eq_true, decide_eq_true_eq] at h
  rw [e, if_neg (by simp; lia), if_neg (by simp; lia)]
theorem bit4 : ∀ c, c < 127 → 32 ≤ c → ((c4.getD (5 + (1 + c / 32)) 0).testBit (c % 32)) = false := by decide +kernel
theorem r_set4 (c : Nat) (h : okC c = true) : Sre.inSet c4 c c4.size 5 true seen = .ok (false, (seen.add 9).add 0) := by
  have e : Sre.inSet c4 c c4.size 5 true seen = if (decide (c < 256) && (c4.getD (5 + (1 + c / 32)) 0).testBit (c % 32)) = true then .ok (true, seen.add 9) else .ok (false, (seen.add 9).add 0) := rfl
  unfold okC at h
  simp only [Bool.and_eq_true, decide_eq_true_eq] at h
  refine rwl e ?_
  refine rwl (bit4 c h.2 h.1) ?_
  simp
theorem r_adm (m : Sre.M) (hset : ∀ c seen, okC c = true → ∃ seen', Sre.inSet m.code c m.code.size 5 true seen = .ok (false, seen')) (hok : ∀ p, p < m.lim → okC (m.text.getD p 0) = true) : ∀ (n s : Nat) (seen : Sre.Seen), s + n = m.lim → ∃ seen', Sre.M.admitted m (n + 1) s seen = .ok (none, seen')
  | 0, s, seen, h => by
    refine ⟨seen, ?_⟩
    unfold Sre.M.admitted
    rw [if_pos (by lia)]
  | n + 1, s, seen, h => by
    rw [Sre.M.admitted, if_neg (by lia)]
    refine e1_1 (hset (m.text.getD s 0) seen (hok s (by lia))) ?_
    rintro seen' e
    refine rwl e ?_
    exact r_adm m hset hok n (s + 1) seen' (by lia)
noncomputable def base3 (code text : Array Nat) (lim s pc : Nat) (must : Bool) (seen : Sre.Seen) : Sre.M :=
  { code := code, text := text, lim := lim, start := s, lastStart := lim, wholeText := false, mustAdvance := must, pc := pc, pos := s, handed := s, outermost := true, marks := #[], lastmark := -1, lastindex := -1, loops := #[], inner := none,
    frames := [], weight := 0, answer := none, seen := seen, outcome := none }
theorem r_fs3 (must : Bool) : ∃ (X : Sre.M) (Y : Nat → Sre.Seen → Sre.M), Sre.forSearch c3 text 0 s lim must = (if (decide (s > lim) || decide (lim - s < 1)) = true then X else
    match Sre.M.admitted (base3 c3 text lim s 11 must (({} : Sre.Seen).add 14)) (lim + 1 - s) s (({} : Sre.Seen).add 14) with
    | .ok (some p, seen) => Y p seen
    | .ok (none, seen) => { base3 c3 text lim s 11 must seen with answer := some false }
    | .error why => (base3 c3 text lim s 11 must (({} : Sre.Seen).add 14)).stick why) ∧ X.step.outcome = some .failed := ⟨_, _, rfl, rfl⟩
theorem r_fs4 (must : Bool) : ∃ (X : Sre.M) (Y : Nat → Sre.Seen → Sre.M), Sre.forSearch c4 text 0 s lim must = (if (decide (s > lim) || decide (lim - s < 1)) = true then X else
    match Sre.M.admitted (base3 c4 text lim s 15 must (({} : Sre.Seen).add 14)) (lim + 1 - s) s (({} : Sre.Seen).add 14) with
    | .ok (some p, seen) => Y p seen
    | .ok (none, seen) => { base3 c4 text lim s 15 must seen with answer := some false }
    | .error why => (base3 c4 text lim s 15 must (({} : Sre.Seen).add 14)).stick why) ∧ X.step.outcome = some .failed := ⟨_, _, rfl, rfl⟩
theorem p3_search (must : Bool) (hok : ∀ p, p < lim → okC (text.getD p 0) = true) (hs : s ≤ lim) : ∃ m', iter 1 (Sre.forSearch c3 text 0 s lim must) = m' ∧ m'.outcome = some .failed := by
  refine e2_2 (r_fs3 (text := text) (lim := lim) (s := s) must) ?_
  rintro X Y hX ho
  refine rwl hX ?_
  by_cases h : lim - s < 1
  · refine rwl (if_pos (by simp [h])) ?_
    exact ⟨_, rfl, ho⟩
  · refine rwl (if_neg (by simp; lia)) ?_
    refine e1_1 (r_adm (base3 c3 text lim s 11 must (({} : Sre.Seen).add 14)) (fun c seen hc => ⟨_, r_set3 c hc⟩) hok (lim - s) s (({} : Sre.Seen).add 14) (show s + (lim - s) = lim by lia)) ?_
    rintro seen' ea
    rw [show lim - s + 1 = lim + 1 - s by lia] at ea
    refine rwl ea ?_
    exact ⟨_, rfl, rfl⟩
theorem p4_search (must : Bool) (hok : ∀ p, p < lim → okC (text.getD p 0) = true) (hs : s ≤ lim) : ∃ m', iter 1 (Sre.forSearch c4 text 0 s lim must) = m' ∧ m'.outcome = some .failed := by
  refine e2_2 (r_fs4 (text := text) (lim := lim) (s := s) must) ?_
  rintro X Y hX ho
  refine rwl hX ?_
  by_cases h : lim - s < 1
  · refine rwl (if_pos (by simp [h])) ?_
    exact ⟨_, rfl, ho⟩
  · refine rwl (if_neg (by simp; lia)) ?_
    refine e1_1 (r_adm (base3 c4 text lim s 15 must (({} : Sre.Seen).add 14)) (fun c seen hc => ⟨_, r_set4 c hc⟩) hok (lim - s) s (({} : Sre.Seen).add 14) (show s + (lim - s) = lim by lia)) ?_
    rintro seen' ea
    rw [show lim - s + 1 = lim + 1 - s by lia] at ea
    refine rwl ea ?_
    exact ⟨_, rfl, rfl⟩
end
theorem plainAttrs_pat : PlainAttrs "re.Pattern" :=
  ⟨⟨"object.__getattribute__", by rw [typeLookup_type, builtinLookup_eq_fast]; kernel_rfl, by decide +kernel⟩, by rw [typeLookup_type, builtinLookup_eq_fast]; kernel_rfl⟩
theorem slot_pat_sub : Slot "re.Pattern" "sub" "re.Pattern.sub" :=
  .of (owner := "re.Pattern") (n := "sub") (by rw [typeLookup_type, builtinLookup_eq_fast]; kernel_rfl) (by decide +kernel) (by decide +kernel) (by decide +kernel)
    (by first | exact .inl (by decide +kernel) | exact .inr (by decide +kernel)) (by rw [isSubtype_type]; kernel_rfl)
theorem type_pat_sub : typeOf (.builtin "re.Pattern.sub") = pure (.type "method_descriptor") := by show builtinType _ = _; rw [builtinType_eq_fast]; kernel_rfl
theorem entry_pat_sub : entryFor table "re.Pattern.sub" = some Builtin.«re.Pattern.sub» := entryFor_of_tree (by kernel_rfl)
theorem args_pat_sub_3 (a b c : Value) : argsOk "re.Pattern.sub" ⟨[a, b, c], []⟩ := by unfold argsOk; kernel_rfl
theorem slot_pat_search : Slot "re.Pattern" "search" "re.Pattern.search" :=
  .of (owner := "re.Pattern") (n := "search") (by rw [typeLookup_type, builtinLookup_eq_fast]; kernel_rfl) (by decide +kernel) (by decide +kernel) (by decide +kernel)
    (by first | exact .inl (by decide +kernel) | exact .inr (by decide +kernel)) (by rw [isSubtype_type]; kernel_rfl)
theorem type_pat_search : typeOf (.builtin "re.Pattern.search") = pure (.type "method_descriptor") := by show builtinType _ = _; rw [builtinType_eq_fast]; kernel_rfl
theorem entry_pat_search : entryFor table "re.Pattern.search" = some Builtin.«re.Pattern.search» := entryFor_of_tree (by kernel_rfl)
theorem args_pat_search_2 (a b : Value) : argsOk "re.Pattern.search" ⟨[a, b], []⟩ := by unfold argsOk; kernel_rfl
theorem plain_pat_loop : plainId "re.Pattern.sub.loop" = true := by decide +kernel
theorem entry_pat_loop : entryFor table "re.Pattern.sub.loop" = some Builtin.«re.Pattern.sub.loop» := entryFor_of_tree (by kernel_rfl)
end

section
open PySem PySem.P PyProof.Rows PySem.Builtin.Re
noncomputable def patO (x : Str) (t : Tok) (fl : Int) (t2 : Tok) (wa : Addr) : Obj := { cls := .type "re.Pattern", data := .fields #[.str x t, .int fl t2, .int 0 0, .none, .none, .ref wa, .int 0 0] }
noncomputable def wordsO (c : Array Nat) : Obj := tupO (c.map fun n : Nat => Value.int (Int.ofNat n) 0)
theorem raw_words (c : Array Nat) : ((c.map fun n : Nat => Value.int (Int.ofNat n) 0).map reRawOf).map (·.toNat) = c := by
  refine rwl Array.map_map ?_
  refine rwl Array.map_map ?_
  have : (((fun i : Int => i.toNat) ∘ reRawOf) ∘ fun n : Nat => Value.int (Int.ofNat n) 0) = id := by
    funext n; rfl
  rw [this, Array.map_id]

section
variable {prog : Program} {w : World} {A : Around} {E : Value → Shared → Prop} {s : Shared} {p wa : Addr} {x : Str} {t : Tok} {fl : Int} {t2 : Tok} {code : Array Nat} {y : Str} {ty : Tok}
theorem wpAny_rawItems {Q : Array Int → Shared → Prop} (hw : s.heap.get? wa = some (wordsO code)) (h : Q ((code.map fun n : Nat => Value.int (Int.ofNat n) 0).map reRawOf) s) : wpAny (model prog w) A (reRawItems (.ref wa)) Q E s := by
  unfold reRawItems
  exact wpAny_bind (wpAny_seqItems hw rfl (wpAny_pure h))
theorem target_wp {Q : ReTarget → Shared → Prop} (hp : s.heap.get? p = some (patO x t fl t2 wa)) (hw : s.heap.get? wa = some (wordsO code)) (hy : y.cps.size < 2 ^ 62)
    (h : Q { pattern := .ref p, string := .str y ty, code := code, text := y.cps, kind := 0, groups := 0, pos := 0, lim := y.cps.size } s) :
    wpAny (model prog w) A (reTarget "re.Pattern.search" "search" ⟨[.ref p, .str y ty], []⟩) Q E s := by
  unfold reTarget
  show wpAny _ _ (reNamed "re.Pattern.search" "search" ["string", "pos", "endpos"] 1 [.str y ty] [] >>= _) _ _ _
  refine wpAny_bind (wpAny_of_eq (a := [some (.str y ty), none, none]) rfl ?_)
  show wpAny _ _ (pure (0 : Int) >>= _) _ _ _
  refine wpAny_bind (wpAny_pure ?_)
  refine wpAny_bind (wpAny_pure ?_)
  refine wpAny_bind (wpAny_fieldsOf hp rfl ?_)
  refine wpAny_bind (m := reTextOf (.str y ty)) (wpAny_of_eq (a := (y.cps, 0)) rfl ?_)
  show wpAny _ _ (do
    let ws ← reRawItems (.ref wa)
    pure ({ pattern := .ref p, string := .str y ty, code := ws.map (·.toNat), text := y.cps, kind := 0, groups := 0, pos := min (0 : Int).toNat y.cps.size, lim := min ((2 : Int) ^ 63 - 1).toNat y.cps.size } : ReTarget)) _ _ _
  refine wpAny_bind (wpAny_rawItems hw (wpAny_pure ?_))
  have e1 : min ((2 : Int) ^ 63 - 1).toNat y.cps.size = y.cps.size := by
    have : y.cps.size ≤ ((2 : Int) ^ 63 - 1).toNat := by lia
    exact Nat.min_eq_right this
  have e2 : min (0 : Int).toNat y.cps.size = 0 := by simp
  refine rwl (raw_words _) ?_
  refine rwl e1 ?_
  refine rwl e2 ?_
  exact h
end
section
variable {K : Cx} {σ : S} {Post : AV → S → Prop} {p wa : Addr} {x : Str} {t : Tok} {fl : Int} {t2 : Tok} {code : Array Nat} {y : Str}
theorem c_search (hp : K.B p = some (patO x t fl t2 wa)) (hw : K.B wa = some (wordsO code)) (hy : y.cps.size < 2 ^ 58) (hno : ∃ m', iter 1 (Sre.forSearch code y.cps 0 0 y.cps.size false) = m' ∧ m'.outcome = some .failed) (h : Post .none σ) :
    CallK K (.builtin "re.Pattern.search") [.raw (.ref p), .str y] σ Post :=
  callK_leaf (fun H s st us hu Q E hq => by
    refine e2_3 hu.two ?_
    rintro u v rfl r1 r2
    cases vr_raw r1
    refine e1_1 (vr_str r2) ?_
    rintro ty rfl
    have hp' := st.m.keep _ _ (st.m.base _ _ hp)
    have hw' := st.m.keep _ _ (st.m.base _ _ hw)
    refine wpAny_call_entry slot_pat_search ⟨_, hp', rfl⟩ entry_pat_search ?_ (args_pat_search_2 _ _)
    unfold Builtin.«re.Pattern.search»
    refine wpAny_bind (target_wp hp' hw' (by lia) ?_)
    unfold reAnswer
    refine e1_2 hno ?_
    clear hno
    rintro m' e ho
    refine wpAny_bind (toEnd_wp 1 (by decide) e (yes := false) ho ?_)
    exact wpAny_pure ⟨.none, rfl, hq _ s.toks mk_none⟩) h
end
noncomputable def cut (x : Str) (b e : Nat) : Str := ⟨x.cps.extract b e⟩
noncomputable def subPieces (nxt : Nat → Option (Nat × Nat)) (x r : Str) : Nat → Nat → List Str
  | 0, d => if d < x.cps.size then [cut x d x.cps.size] else []
  | f + 1, d => match nxt d with
    | none => if d < x.cps.size then [cut x d x.cps.size] else []
    | some (p, e) => (if d < p then [cut x d p] else []) ++ r :: subPieces nxt x r f e

theorem lookup_str_call : typeLookup (.type "str") "__call__" = pure none := by rw [typeLookup_type, builtinLookup_eq_fast]; kernel_rfl

section
variable {prog : Program} {w : World} {A : Around} {E : Value → Shared → Prop} {s : Shared} {p wa : Addr} {x : Str} {t : Tok} {fl : Int} {t2 : Tok} {code : Array Nat} {y : Str} {ty : Tok}
theorem whole_wp {Q : ReTarget → Shared → Prop} (hp : s.heap.get? p = some (patO x t fl t2 wa)) (hw : s.heap.get? wa = some (wordsO code))
    (h : Q { pattern := .ref p, string := .str y ty, code := code, text := y.cps, kind := 0, groups := 0, pos := 0, lim := y.cps.size } s) :
    wpAny (model prog w) A (reWholeTarget (.ref p) (.str y ty)) Q E s := by
  unfold reWholeTarget
  refine wpAny_bind (wpAny_fieldsOf hp rfl ?_)
  refine wpAny_bind (m := reTextOf (.str y ty)) (wpAny_of_eq (a := (y.cps, 0)) rfl ?_)
  show wpAny _ _ (do
    let ws ← reRawItems (.ref wa)
    pure ({ pattern := .ref p, string := .str y ty, code := ws.map (·.toNat), text := y.cps, kind := 0, groups := 0, pos := 0, lim := y.cps.size } : ReTarget)) _ _ _
  refine wpAny_bind (wpAny_rawItems hw (wpAny_pure ?_))
  refine rwl (raw_words _) ?_
  exact h
end

noncomputable def Finds (code : Array Nat) (x : Str) (nxt : Nat → Option (Nat × Nat)) : Prop :=
  ∀ d, d ≤ x.cps.size → ∃ k m', k ≤ 2 ^ 60 ∧ iter k (Sre.forSearch code x.cps 0 d x.cps.size false) = m' ∧
    match nxt d with
    | some (p, e) => m'.outcome = some .matched ∧ m'.start = p ∧ m'.handed = e ∧ d ≤ p ∧ p < e ∧ e ≤ x.cps.size
    | none => m'.outcome = some .failed

section
variable {K : Cx} {σ : S} {Post : AV → S → Prop} {p wa : Addr} {x : Str} {t : Tok} {fl : Int} {t2 : Tok} {code : Array Nat} {y r : Str}
noncomputable abbrev goOn (K : Cx) (G : Result → Shared → Prop) : Fin → Shared → Prop := fun fin s' => match fin with | .done f => G (.ok f) s' | .again c' => c'.quiet = true ∧ codeAny (model K.prog K.w) K.A c' G s'
noncomputable def subEnd (y : Str) (l : Addr) (k : Int) : Sem Fin := reSlice y.cps 0 0 0 >>= fun joiner => seqItems? (.ref l) >>= fun o => if (o.getD #[]).isEmpty = true then (pure joiner >>= fun text => if false = true then (holding [text] (mkInt k >>= fun i => newTuple [text, i]) >>= fun z => ret z) else ret text)
  else (PySem.call (.builtin "str.join") [joiner, .ref l] >>= fun text => if false = true then (holding [text] (mkInt k >>= fun i => newTuple [text, i]) >>= fun z => ret z) else ret text)
noncomputable def subTurn (p : Addr) (y r : Str) (ty tr : Tok) (l : Addr) (k : Int) (m' : Sre.M) : Sem Fin := updateSeq l (fun xs => xs.push (.str r tr)) >>= fun _ => again (.builtin "re.Pattern.sub.loop" ⟨[.ref p, .str y ty, .str r tr, rawInt 0, rawInt 0, rawInt (k + 1), rawInt (m'.handed : Int), rawInt (m'.handed : Int), .bool (m'.handed == m'.start), .ref l, .bool false], []⟩)
theorem sub_loop (hp : K.B p = some (patO x t fl t2 wa)) (hw : K.B wa = some (wordsO code)) {nxt : Nat → Option (Nat × Nat)} (hf : Finds code y nxt) (hy : y.cps.size ≤ 10000) {ty tr : Tok} {l : Addr} {G : Result → Shared → Prop} {H0 : HF} {s0 : Shared} :
    ∀ (n f d : Nat) (k : Int) (ps : List Str) (H : HF) (h : Heap) (tk : Nat), d + n = y.cps.size → n ≤ f → HF.le H0 H → K.St H K.F { σ with mu := (l, .list (ps.map AV.str)) :: σ.mu } h → ps.length + 2 * n ≤ 30000 →
      ((ps ++ subPieces nxt y r f d).map (·.length)).sum ≤ 16777216 →
      (∀ H' h' tk v, HF.le H0 H' → K.St H' K.F { σ with mu := (l, .list ((ps ++ subPieces nxt y r f d).map AV.str)) :: σ.mu } h' → VR H' (.str (Txt.join "" (ps ++ subPieces nxt y r f d))) v → G (.ok (.ret v)) { s0 with heap := h', toks := tk }) →
      codeAny (model K.prog K.w) K.A (.builtin "re.Pattern.sub.loop" ⟨[.ref p, .str y ty, .str r tr, rawInt 0, rawInt 0, rawInt k, rawInt d, rawInt d, .bool false, .ref l, .bool false], []⟩) G { s0 with heap := h, toks := tk } := by
  intro n
  induction n using Nat.strongRecOn with
  | ind n ih =>
  intro f d k ps H h tk hd hnf hle st hps hsum hq
  refine codeAny_builtin entry_pat_loop ?_
  refine rwl (Around.under_plainId plain_pat_loop _) ?_
  unfold Builtin.«re.Pattern.sub.loop»
  have hp' := st.m.keep _ _ (st.m.base _ _ hp)
  have hw' := st.m.keep _ _ (st.m.base _ _ hw)
  show wpAny _ _ (reWholeTarget (.ref p) (.str y ty) >>= _) _ _ _
  refine wpAny_bind (whole_wp (s := { s0 with heap := h, toks := tk }) hp' hw' ?_)
  show wpAny _ _ (reLiteralCannotBeTurned (.str r tr) >>= _) _ _ _
  refine wpAny_bind (wpAny_of_eq (a := ()) rfl ?_)
  show wpAny _ _ (reNextFound _ d false >>= _) _ _ _
  refine e2_3 (hf d (by lia)) ?_
  rintro kk m' hk he hm
  have slice : ∀ (b e : Nat) {A' : Around} {E' : Value → Shared → Prop} {Q' : Value → Shared → Prop} {s' : Shared}, b ≤ e → e ≤ y.cps.size → Q' (.str (cut y b e) s'.toks) { s' with toks := s'.toks + 1 } → wpAny (model K.prog K.w) A' (reSlice y.cps 0 b e) Q' E' s' := fun b e {A' E' Q' s'} h1 h2 hq' => by
    show wpAny _ _ (mkStr (cut y b e)) _ _ _
    exact wpAny_mkStr hq' (by
      show (y.cps.extract b e).size ≤ sizeLine
      rw [Array.size_extract, sizeLine_eq]; lia)
  have push : ∀ (H1 : HF) (h1 : Heap) (tk1 : Nat) (ps1 : List Str) (z : Str) (tz : Tok) {A' : Around} {Q' : Unit → Shared → Prop} {E' : Value → Shared → Prop}, K.St H1 K.F { σ with mu := (l, .list (ps1.map AV.str)) :: σ.mu } h1 → ps1.length ≤ 30000 →
      (∀ h2, K.St H1 K.F { σ with mu := (l, .list ((ps1 ++ [z]).map AV.str)) :: σ.mu } h2 → Q' () { s0 with heap := h2, toks := tk1 }) → wpAny (model K.prog K.w) A' (updateSeq l fun xs => xs.push (.str z tz)) Q' E' { s0 with heap := h1, toks := tk1 } := fun H1 h1 tk1 ps1 z tz {A' Q' E'} st1 hn1 hq' => by
    refine e2_2 (mu_get (i := 0) (a := l) (vs := ps1.map AV.str) st1 rfl) ?_
    rintro ws nn e rv
    have hsz : ws.size = ps1.length := by have := rv.length; simpa using this
    refine wpAny_updateSeq e rfl (hq' _ ?_) (by rw [sizeLine_eq]; lia) (by rw [Array.size_push, sizeLine_eq]; lia)
    have := st1.upd (i := 0) (vs := ps1.map AV.str) (vs' := (ps1 ++ [z]).map AV.str) rfl e (fun xs => xs.push (.str z tz)) (by
      refine rwl Array.toList_push ?_
      refine rwl List.map_append ?_
      exact rv.append (VRs.cons (mk_str _ _) VRs.nil))
    exact this
  unfold reNextFound
  cases en : nxt d with
  | none =>
    rw [en] at hm
    refine wpAny_bind (toEnd_wp kk hk he (yes := false) hm ?_)
    have eP : subPieces nxt y r f d = if d < y.cps.size then [cut y d y.cps.size] else [] := by
      cases f with
      | zero => rfl
      | succ f => unfold subPieces; rw [en]
    rw [eP] at hsum hq
    have tl : ∀ (h1 : Heap) (tk1 : Nat), K.St H K.F { σ with mu := (l, .list ((ps ++ if d < y.cps.size then [cut y d y.cps.size] else []).map AV.str)) :: σ.mu } h1 →
        wpAny (model K.prog K.w) K.A.in1 (subEnd y l k)
          (goOn K G)
          (fun e s' => G (.error e) s') { s0 with heap := h1, toks := tk1 } := fun h1 tk1 st1 => by
      have hcut : cut y 0 0 = "" := by
        show (⟨y.cps.extract 0 0⟩ : Str) = _
        have : y.cps.extract 0 0 = #[] := by simp
        rw [this]; rfl
      refine wpAny_bind (slice 0 0 (by decide) (by lia) ?_)
      refine rwl hcut ?_
      refine e2_2 (mu_get (i := 0) (a := l) st1 rfl) ?_
      rintro ws nn el rv
      refine wpAny_bind (wpAny_seqItems (s := { s0 with heap := h1, toks := tk1 + 1 }) el rfl ?_)
      show wpAny _ _ (if ws.isEmpty = true then _ else _) _ _ _
      by_cases hem : ws.isEmpty = true
      · refine rwl (if_pos hem) ?_
        refine wpAny_bind (wpAny_pure ?_)
        refine rwl (if_neg (by decide)) ?_
        have e0 : ws.size = 0 := by simpa using hem
        have hl0 := rv.length
        have hnil : (ps ++ if d < y.cps.size then [cut y d y.cps.size] else []) = [] := by
          have : (ps ++ if d < y.cps.size then [cut y d y.cps.size] else []).length = 0 := by
            have := hl0
            simp only [Array.length_toList, List.length_map] at this
            lia
          exact List.eq_nil_of_length_eq_zero this
        exact wpAny_pure (hq H h1 (tk1 + 1) _ hle st1 (by rw [hnil]; exact mk_str _ _))
      · refine rwl (if_neg hem) ?_
        refine wpAny_bind (join_list (s := { s0 with heap := h1, toks := tk1 + 1 }) ⟨_, el, rfl, nn, rfl⟩ (strsAre_of rv) (by
          have : ("" : Str).length = 0 := by decide
          rw [this, Nat.mul_zero, Nat.add_zero]; exact hsum) fun t' k' => ?_)
        refine rwl (if_neg (by decide)) ?_
        exact wpAny_pure (hq H h1 k' _ hle st1 (mk_str _ _))
    show wpAny _ _ (if (d : Int).toNat < y.cps.size then (reSlice y.cps 0 (d : Int).toNat y.cps.size >>= fun v => updateSeq l (fun xs => xs.push v) >>= fun _ => (subEnd y l k))
      else (subEnd y l k)) _ _ _
    refine rwl (Int.toNat_natCast _) ?_
    by_cases hdn : d < y.cps.size
    · refine rwl (if_pos hdn) ?_
      refine wpAny_bind (slice d y.cps.size (by lia) (by lia) ?_)
      refine wpAny_bind (push H h tk.succ ps (cut y d y.cps.size) tk st (by lia) fun h2 st2 => ?_)
      exact tl h2 _ (by rw [if_pos hdn]; exact st2)
    · refine rwl (if_neg hdn) ?_
      exact tl h tk (by rw [if_neg hdn, List.append_nil]; exact st)
  | some pe =>
    obtain ⟨q, e⟩ := pe
    rw [en] at hm
    refine e0_6 hm ?_
    clear hm
    rintro ho hst hha h1 h2 h3
    refine wpAny_bind (toEnd_wp kk hk he (yes := true) ho ?_)
    obtain ⟨f', rfl⟩ : ∃ f', f = f' + 1 := ⟨f - 1, by lia⟩
    have eP : subPieces nxt y r (f' + 1) d = (if d < q then [cut y d q] else []) ++ r :: subPieces nxt y r f' e := by
      conv => lhs; unfold subPieces
      rw [en]
    rw [eP] at hsum hq
    have jp : ∀ (h1 : Heap) (tk1 : Nat) (ps1 : List Str), ps1.length ≤ ps.length + 1 → ps1 ++ r :: subPieces nxt y r f' e = ps ++ ((if d < q then [cut y d q] else []) ++ r :: subPieces nxt y r f' e) → K.St H K.F { σ with mu := (l, .list (ps1.map AV.str)) :: σ.mu } h1 →
        wpAny (model K.prog K.w) K.A.in1 (subTurn p y r ty tr l k m')
          (goOn K G)
          (fun e s' => G (.error e) s') { s0 with heap := h1, toks := tk1 } := fun h1 tk1 ps1 hl1 hps1 st1 => by
      refine wpAny_bind (push H h1 tk1 ps1 r tr st1 (by lia) fun h2 st2 => wpAny_pure ⟨plainId_quiet plain_pat_loop _, ?_⟩)
      have hbe : (m'.handed == m'.start) = false := by rw [hha, hst, beq_eq_false_iff_ne]; lia
      refine rwl hbe ?_
      refine rwl hha ?_
      have e5 : ps1 ++ [r] ++ subPieces nxt y r f' e = ps ++ ((if d < q then [cut y d q] else []) ++ r :: subPieces nxt y r f' e) := by rw [← hps1]; simp
      refine ih (y.cps.size - e) (by lia) f' e (k + 1) (ps1 ++ [r]) H h2 tk1 (by lia) (by lia) hle st2 (by rw [List.length_append]; simp; lia) (by rw [e5]; exact hsum) fun H' h' tk v le' st' rv => ?_
      rw [e5] at st' rv
      exact hq H' h' tk v le' st' rv
    show wpAny _ _ (if (d : Int).toNat < m'.start then (reSlice y.cps 0 (d : Int).toNat m'.start >>= fun v => updateSeq l (fun xs => xs.push v) >>= fun _ => (subTurn p y r ty tr l k m'))
      else (subTurn p y r ty tr l k m')) _ _ _
    refine rwl (Int.toNat_natCast _) ?_
    refine rwl hst ?_
    by_cases hdq : d < q
    · refine rwl (if_pos hdq) ?_
      refine wpAny_bind (slice d q h1 (by lia) ?_)
      refine wpAny_bind (push H h tk.succ ps (cut y d q) tk st (by lia) fun h2 st2 => ?_)
      exact jp h2 _ (ps ++ [cut y d q]) (by simp) (by rw [if_pos hdq]; simp) st2
    · refine rwl (if_neg hdq) ?_
      exact jp h tk ps (by lia) (by rw [if_neg hdq]; simp) st
end
section
variable {K : Cx} {σ : S} {Post : AV → S → Prop} {p wa : Addr} {x : Str} {t : Tok} {fl : Int} {t2 : Tok} {code : Array Nat} {y r : Str}
theorem c_sub (hp : K.B p = some (patO x t fl t2 wa)) (hw : K.B wa = some (wordsO code)) {nxt : Nat → Option (Nat × Nat)} (hf : Finds code y nxt) (hy : y.cps.size ≤ 10000) (hr : r.cps.contains 92 = false)
    (hsum : ((subPieces nxt y r y.cps.size 0).map (·.length)).sum ≤ 16777216) (h : Post (.str (Txt.join "" (subPieces nxt y r y.cps.size 0))) σ) :
    CallK K (.builtin "re.Pattern.sub") [.raw (.ref p), .str r, .str y] σ Post := fun H s st us hu Q E hq => by
  refine e3_4 hu.three ?_
  rintro u v z rfl r1 r2 r3
  cases vr_raw r1
  refine e1_1 (vr_str r2) ?_
  rintro tr rfl
  refine e1_1 (vr_str r3) ?_
  rintro ty rfl
  have hp' := st.m.keep _ _ (st.m.base _ _ hp)
  have hw' := st.m.keep _ _ (st.m.base _ _ hw)
  refine wpAny_call (codeAny_call_builtin slot_pat_sub.plain entry_pat_sub (slot_pat_sub.check _ _ _ _ _ _ _ _ ⟨_, hp', rfl⟩ (args_pat_sub_3 _ _ _) ?_))
  unfold Builtin.«re.Pattern.sub» reSubstitute
  show wpAny _ _ (reNamed "re.Pattern.sub" "sub" ["repl", "string", "count"] 2 [.str r tr, .str y ty] [] >>= _) _ _ _
  refine wpAny_bind (wpAny_of_eq (a := [some (.str r tr), some (.str y ty), none]) rfl ?_)
  show wpAny _ _ (pure (0 : Int) >>= _) _ _ _
  refine wpAny_bind (wpAny_pure ?_)
  refine wpAny_bind (wpAny_specialOf (T := "str") (typeIs_str _ _ _) lookup_str_call ?_)
  simp only [Option.isSome_none, Bool.false_eq_true, if_false]
  refine wpAny_bind (m := PySem.asStr? (.str r tr)) (wpAny_of_eq (a := some r) rfl ?_)
  refine wpAny_bind (wpAny_pure ?_)
  refine rwl (if_pos (by rw [hr]; rfl)) ?_
  refine wpAny_bind (wpAny_pure ?_)
  refine wpAny_bind (wpAny_holding (whole_wp hp' hw' ?_))
  refine rwl (if_neg (show ¬ (((0 : Int) == 1) = true) by decide)) ?_
  refine wpAny_bind (wpAny_newObj_type ?_)
  have st2 := st.make (m := .list []) { cls := .type "list", data := .seq ([] : List Value).toArray } (fun h' e => ⟨_, 0, e, VRs.nil⟩)
  refine wpAny_pure ⟨plainId_quiet plain_pat_loop _, ?_⟩
  refine sub_loop (r := r) (s0 := s) (H0 := H) hp hw hf hy y.cps.size y.cps.size 0 0 [] H _ s.toks (by lia) (Nat.le_refl _) (.refl _) st2 (by simp; lia) (by simpa using hsum) fun H' h' tk v le st' rv => ?_
  refine e1_2 (Le.skip (σ := { σ with mu := (s.heap.objs.size, .list (([] ++ subPieces nxt y r y.cps.size 0).map AV.str)) :: σ.mu }) 1 _ _ _ _ st') ?_
  rintro H2 le2 st3
  refine hq _ v H2 σ h' tk (le.trans le2) st3 ?_ h
  rw [List.nil_append] at rv
  exact rv.mono le2
end
end

section
open PySem PySem.P PyProof.Rows
noncomputable def nxt1 (x : Str) (d : Nat) : Option (Nat × Nat) := (find1 x.cps (x.cps.size - d) d).map fun p => (p, p + 1)
noncomputable def nxt2 (x : Str) (d : Nat) : Option (Nat × Nat) := (find2 x.cps (x.cps.size - d) d).map fun p => (p, nl2 x.cps x.cps.size p)
theorem find1_some {text : Array Nat} : ∀ {n s p : Nat}, find1 text n s = some p → s ≤ p ∧ p < s + n ∧ hit1 text p = true
  | 0, _, _, h => by cases h
  | n + 1, s, p, h => by
    unfold find1 at h
    split at h
    · cases h; exact ⟨Nat.le_refl _, by lia, by assumption⟩
    · have := find1_some h
      exact ⟨by lia, by lia, this.2.2⟩
theorem finds1 {x : Str} (hx : x.cps.size ≤ 10000) : Finds c1 x (nxt1 x) := fun d hd => by
  refine e2_3 (p1_search (text := x.cps) (lim := x.cps.size) (s := d) false hd) ?_
  rintro k m' hk he hm
  refine i2_3 k m' (by lia) he ?_
  unfold nxt1
  cases e : find1 x.cps (x.cps.size - d) d with
  | none => rw [e] at hm; exact hm
  | some p =>
    rw [e] at hm
    have := find1_some e
    exact ⟨hm.1, hm.2.1, hm.2.2, this.1, by lia, by lia⟩
theorem finds2 {x : Str} : Finds c2 x (nxt2 x) := fun d hd => by
  refine e2_3 (p2_search (text := x.cps) (lim := x.cps.size) (s := d) false hd) ?_
  rintro k m' hk he hm
  refine i2_3 k m' (by lia) he ?_
  unfold nxt2
  cases e : find2 x.cps (x.cps.size - d) d with
  | none => rw [e] at hm; exact hm
  | some p =>
    rw [e] at hm
    have := find2_some e
    refine ⟨hm.1, hm.2.1, hm.2.2, this.1, ?_, ?_⟩
    · unfold nl2; split <;> lia
    · unfold nl2; split <;> lia
noncomputable def crlfOf (x : Str) : Str := Txt.join "" (subPieces (nxt2 x) x "\r\n" x.cps.size 0)
noncomputable def dotsOf (x : Str) : Str := Txt.join "" (subPieces (nxt1 x) x ".." x.cps.size 0)

structure Pats (B : HF) : Prop where
  p1 : ∃ x t fl t2, B 93 = some (patO x t fl t2 92)
  w1 : B 92 = some (wordsO c1)
  p2 : ∃ x t fl t2, B 98 = some (patO x t fl t2 97)
  w2 : B 97 = some (wordsO c2)
  p3 : ∃ x t fl t2, B 115 = some (patO x t fl t2 114)
  w3 : B 114 = some (wordsO c3)
  p4 : ∃ x t fl t2, B 120 = some (patO x t fl t2 119)
  w4 : B 119 = some (wordsO c4)
section
variable {K : Cx} {σ : S} {Post : AV → S → Prop}
theorem m_sub {o : Expr} {apos pos : Pos} {args : List Expr} (h : Ev K o σ fun ov σ1 => HasT K ov "re.Pattern" σ1 ∧ EvL K args pos σ1 fun vs σ2 => CallK K (.builtin "re.Pattern.sub") (ov :: vs) σ2 Post) (q : MethQ K "sub" o args apos pos) : Ev K (.Call (.Attribute o "sub" apos) args [] pos) σ Post :=
  ev_meth plainAttrs_pat slot_pat_sub type_pat_sub h q.1 q.2.1 q.2.2
theorem m_search {o : Expr} {apos pos : Pos} {args : List Expr} (h : Ev K o σ fun ov σ1 => HasT K ov "re.Pattern" σ1 ∧ EvL K args pos σ1 fun vs σ2 => CallK K (.builtin "re.Pattern.search") (ov :: vs) σ2 Post) (q : MethQ K "search" o args apos pos) : Ev K (.Call (.Attribute o "search" apos) args [] pos) σ Post :=
  ev_meth plainAttrs_pat slot_pat_search type_pat_search h q.1 q.2.1 q.2.2
theorem hasT_pat {p wa : Addr} {x : Str} {t : Tok} {fl : Int} {t2 : Tok} (hp : K.B p = some (patO x t fl t2 wa)) : HasT K (.raw (.ref p)) "re.Pattern" σ := fun H s st u hu => by
  cases vr_raw hu
  have := st.m.keep _ _ (st.m.base _ _ hp)
  exact ⟨⟨_, this, rfl⟩, fun b e => by cases e; exact ⟨_, this, rfl⟩⟩
end
section
variable {prog : Program} {w : World} {B : HF} {mg mb : Str → Option Value}
theorem con_quote (T : TopOk B mg mb) (P : Pats B) {x : Str} (hx : x.cps.size ≤ 10000) (h1 : ((subPieces (nxt2 x) x "\r\n" x.cps.size 0).map (·.length)).sum ≤ 16777216) (h2 : (crlfOf x).cps.size ≤ 10000)
    (h3 : ((subPieces (nxt1 (crlfOf x)) (crlfOf x) ".." (crlfOf x).cps.size 0).map (·.length)).sum ≤ 16777216) {mu : Mu} : Con prog w B 1 (.ref 105) [.str x] [] mu fun v mu' => v = .str (dotsOf (crlfOf x)) ∧ mu' = mu := by
  refine fn_con T T.f105 ["data"] ["data"] (ab := [("data", .str x)]) (fun pm => FnOk.of) (fun pm => Binds.one (fun _ => rfl)) rfl (by decide +kernel) fun pm A fit L => ?_
  refine e4_1 P.p1 ?_
  rintro x1 t1 f1 u1 hp1
  refine e4_1 P.p2 ?_
  rintro x2 t2 f2 u2 hp2
  refine xs_cons ?_
  repeat tb_start
  refine m_sub ?_ ⟨rfl, rfl, rfl⟩
  repeat tb_start
  refine ⟨hasT_pat hp1, ?_⟩
  repeat tb_start
  refine m_sub ?_ ⟨rfl, rfl, rfl⟩
  repeat tb_start
  refine ⟨hasT_pat hp2, ?_⟩
  refine evl_cons ?_ rfl
  refine n_crlf T rfl ?_
  repeat tb_start
  refine c_sub hp2 P.w2 finds2 hx (by decide +kernel) h1 ?_
  repeat tb_start
  refine c_sub hp1 P.w1 (finds1 h2) h2 (by decide +kernel) h3 ?_
  repeat tb_start
  exact ⟨rfl, rfl⟩
end
end

section
open PySem PySem.P PyProof.Rows
noncomputable def FnM (B : HF) (a : Addr) (st : Stmt) (q : Str) (dfl : Value) : Prop :=
  ∃ o pm, B a = some o ∧ o.cls = .type "function" ∧ o.data = .func (fdOf st q dfl pm (.ref (a - 1))) ∧ HasCode B (.ref (a - 1)) q
theorem FnM.toT {B : HF} {a : Addr} {st : Stmt} {q : Str} {dfl : Value} (h : FnM B a st q dfl) : FnT B a st q dfl := by
  refine e2_4 h ?_
  clear h
  rintro o pm h1 h2 h3 h4
  exact i2_3 o pm h1 h3 h4
noncomputable def IsFn (B : HF) (a : Addr) : Prop := ∃ o fd, B a = some o ∧ o.cls = .type "function" ∧ o.data = .func fd
theorem FnM.isFn {B : HF} {a : Addr} {st : Stmt} {q : Str} {dfl : Value} (h : FnM B a st q dfl) : IsFn B a := by
  refine e2_4 h ?_
  clear h
  rintro o pm h1 h2 h3 h4
  exact i2_3 o _ h1 h2 h3

noncomputable def qm (n : Str) : Str := ((Str.empty ++ "Headers") ++ ".") ++ n
noncomputable def metTab : List (Str × Addr) := [("__init__", 143), ("_convert_string_type", 150), ("__delitem__", 169), ("get_all", 188), ("get", 196), ("items", 213), ("add_header", 246)]
structure ClsOk (B : HF) : Prop where
  cls : ∃ nm q k0 k1 k2 k3 k5, B 249 = some (excClassObj nm q 249 248 [.type "object"] [.type "object"] true [] [] false none none k0 k1 k2 k3 k5 "object.__new__")
  ns : ∃ mN : Str → Option Value, (∀ h : Heap, Sub B h → h.Ns 248 mN) ∧ (∀ x a, metTab.lookup x = some a → mN x = some (.ref a)) ∧ mN "__getattribute__" = none ∧ mN "__getattr__" = none ∧ mN "__setattr__" = none ∧ mN "_headers" = none
  sm : ∃ o, B sysModules = some o
  m143 : FnM B 143 (methSt 0) (qm "__init__") (.ref 136)
  m150 : FnM B 150 (methSt 1) (qm "_convert_string_type") .none
  m169 : FnM B 169 (methSt 4) (qm "__delitem__") .none
  m188 : FnM B 188 (methSt 7) (qm "get_all") .none
  m196 : FnM B 196 (methSt 8) (qm "get") (.ref 189)
  m213 : FnM B 213 (methSt 11) (qm "items") .none
  m246 : FnM B 246 (methSt 16) (qm "add_header") .none
  d136 : B 136 = some (tupO #[.none])
  d189 : B 189 = some (tupO #[.none])

noncomputable def hdrNs (l : Addr) : Str → Option Value := fun n => if n = "_headers" then some (.ref l) else none
noncomputable def HdrAt (K : Cx) (σ : S) (x l : Addr) : Prop := ∀ (H : HF) (s : Shared), K.St H K.F σ s.heap → s.heap.Inst x 249 (hdrNs l)
noncomputable def InsOk (x dx l : Addr) (ox od : Obj) : Prop := ∀ h : Heap, h.get? x = some ox → h.get? dx = some od → h.Inst x 249 (hdrNs l)
theorem HdrAt.mu {K : Cx} {σ : S} {x dx l : Addr} {ox od : Obj} {i j : Nat} (io : InsOk x dx l ox od) (hi : σ.mu[i]? = some (x, .ob ox)) (hj : σ.mu[j]? = some (dx, .ob od)) : HdrAt K σ x l := fun H s st =>
  io s.heap (st.m.own _ (List.mem_of_getElem? hi)).2 (st.m.own _ (List.mem_of_getElem? hj)).2

noncomputable def CallW (K : Cx) (f : Value) (as : List AV) (kw : List (Str × AV)) (σ : S) (Post : AV → S → Prop) : Prop :=
  ∀ H s, K.St H K.F σ s.heap → ∀ vs, VRs H as vs → ∀ ks, VRs H (kw.map (·.2)) ks → ∀ (Q : Value → Shared → Prop) (E : Value → Shared → Prop),
    (∀ b a H' σ' h' tk, HF.le H H' → K.St H' K.F σ' h' → VR H' b a → Post b σ' → Q a { s with heap := h', toks := tk }) → wpAny (model K.prog K.w) K.A (PySem.call f vs ((kw.map (·.1)).zip ks)) Q E s
theorem Con.callW {K : Cx} {m : Nat} {f : Value} {as : List AV} {kw : List (Str × AV)} {σ : S} {Post : AV → S → Prop} (h : Con K.prog K.w K.B m f as kw σ.mu fun v mu' => Post v { σ with mu := mu' }) (hm : m ≤ K.n) : CallW K f as kw σ Post := by
  intro H s hs vs hv ks hk Q E hq
  have hs' : StM K.B (H.plus K.F.own s.heap) σ.mu s.heap := St.hide hs
  refine h K.A (K.fit.mono hm) _ s hs' vs (hv.mono (HF.le_plus hs.own_none)) ks (hk.mono (HF.le_plus hs.own_none)) Q E fun b a H' mu' h' tk le x r p => ?_
  refine e0_4 (St.back hs le x) ?_
  rintro l1 s1 v1 _
  exact hq b a _ _ h' tk l1 s1 (v1 _ _ r) p

theorem lk_conv : typeLookup (.type "object") "_convert_string_type" = pure none := by rw [typeLookup_type, builtinLookup_eq_fast]; kernel_rfl
theorem lk_get_all : typeLookup (.type "object") "get_all" = pure none := by rw [typeLookup_type, builtinLookup_eq_fast]; kernel_rfl
theorem lk_get : typeLookup (.type "object") "get" = pure none := by rw [typeLookup_type, builtinLookup_eq_fast]; kernel_rfl
theorem lk_items : typeLookup (.type "object") "items" = pure none := by rw [typeLookup_type, builtinLookup_eq_fast]; kernel_rfl
theorem lk_add : typeLookup (.type "object") "add_header" = pure none := by rw [typeLookup_type, builtinLookup_eq_fast]; kernel_rfl
theorem lk_hdrs : typeLookup (.type "object") "_headers" = pure none := by rw [typeLookup_type, builtinLookup_eq_fast]; kernel_rfl
theorem lk_del : typeLookup (.type "object") "__delitem__" = pure none := by rw [typeLookup_type, builtinLookup_eq_fast]; kernel_rfl

section
variable {K : Cx} {σ : S} {Post : AV → S → Prop} {PF : AF → S → Prop} {PB : Bool → S → Prop} {PU : Unit → S → Prop}
theorem cls_at (C : ClsOk K.B) {H : HF} {h : Heap} (st : K.St H K.F σ h) : ∃ nm q k0 k1 k2 k3 k5, h.get? 249 = some (excClassObj nm q 249 248 [.type "object"] [.type "object"] true [] [] false none none k0 k1 k2 k3 k5 "object.__new__") := by
  refine e7_1 C.cls ?_
  rintro nm q k0 k1 k2 k3 k5 e
  exact i7_1 nm q k0 k1 k2 k3 k5 (K.sub st _ _ e)

theorem meth_at (C : ClsOk K.B) {name : Str} {f : Addr} (hf : metTab.lookup name = some f) (hfn : IsFn K.B f) (hB : typeLookup (.type "object") name = pure none) (hne : name ≠ "_headers")
    {H : HF} {s : Shared} (st : K.St H K.F σ s.heap) {x l : Addr} (I : HdrAt K σ x l) {pl : Sem Bool} {Q : Value × List Value → Shared → Prop} {E : Value → Shared → Prop} (hq : Q (.ref f, [.ref x]) s) :
    wpAny (model K.prog K.w) K.A (getMethod (.ref x) name pl) Q E s := by
  refine e7_1 (cls_at C st) ?_
  rintro nm q k0 k1 k2 k3 k5 hC
  refine e1_6 C.ns ?_
  rintro mN hn ht g1 g2 g3 g4
  refine e2_3 hfn ?_
  clear hfn
  rintro o fd ho hc hd
  have sub := K.sub st
  exact method_of hC (hn _ sub) g1 g2 (ht _ _ hf) (sub _ _ ho) hc hB (I H s st) (by unfold hdrNs; rw [if_neg hne]) hq

theorem ev_headers (C : ClsOk K.B) {xn : Str} {xp pos : Pos} (h : Ev K (.Name xn xp) σ fun v σ1 => ∃ x l, v = .raw (.ref x) ∧ HdrAt K σ1 x l ∧ Post (.raw (.ref l)) σ1)
    (he : eval (.Attribute (.Name xn xp) "_headers" pos) K.F.env = (do
      let o ← eval (.Name xn xp) K.F.env
      standAt pos.atName
      let r ← holding [o] (getAttr o "_headers" true)
      letTemporaryGo (.Name xn xp) o r
      pure r)) : Ev K (.Attribute (.Name xn xp) "_headers" pos) σ Post := fun H s hs Q E hq =>
  Attribute_Name_ (h.run hs fun v u H1 σ1 h1 t1 le1 s1 rv hp => by
    refine e2_3 hp ?_
    clear hp
    rintro x l rfl I hp
    cases vr_raw rv
    refine e7_1 (cls_at C s1) ?_
    rintro nm q k0 k1 k2 k3 k5 hC
    refine e1_6 C.ns ?_
    rintro mN hn ht g1 g2 g3 g4
    exact load_attr hC (hn _ (K.sub s1)) g1 g4 lk_hdrs (I H1 { s with heap := h1, toks := t1 } s1) (by unfold hdrNs; rw [if_pos rfl]) rfl (hq _ _ H1 σ1 h1 (t1 + 1) le1 s1 (mk_raw _) hp)) he

theorem ev_imeth (C : ClsOk K.B) {o : Expr} {name : Str} {apos pos : Pos} {args : List Expr} (f : Addr) (hf : metTab.lookup name = some f) (hfn : IsFn K.B f) (hB : typeLookup (.type "object") name = pure none) (hne : name ≠ "_headers")
    (h : Ev K o σ fun ov σ1 => ∃ x l, ov = .raw (.ref x) ∧ HdrAt K σ1 x l ∧ EvL K args pos σ1 fun vs σ2 => CallW K (.ref f) (.raw (.ref x) :: vs) [] σ2 Post) (hq : MethQ K name o args apos pos) :
    Ev K (.Call (.Attribute o name apos) args [] pos) σ Post := fun H s hs Q E hQ => by
  refine e0_3 hq ?_
  clear hq
  rintro hbase hfew hline
  rw [arm_eval_Call, hbase]
  refine wpAny_bind (h.run hs fun ov u H1 σ1 h1 t1 le1 s1 ra hb => ?_)
  refine e2_3 hb ?_
  clear hb
  rintro x l rfl I hb
  cases vr_raw ra
  refine wpAny_bind (wpAny_standAt ?_)
  have hl : (backTo pos (starEach args K.F.env)).all (fun x => !x.1) = true := by
    simp only [Bool.and_eq_true] at hfew
    exact hfew.1.1
  have hform : methodCallForm (args.length + ([] : List Keyword).length) (backTo pos (starEach args K.F.env)) (backToKw pos (keywordEach [] K.F.env)) = true := hfew
  have hpos : methodCallPos true o K.F.env apos pos = pure pos := by unfold methodCallPos; simp [hline]
  unfold methodCall
  refine rwl hform ?_
  refine wpAny_bind (wpAny_holding (meth_at (s := { s with heap := h1, toks := t1 }) C hf hfn hB hne s1 I ?_))
  refine wpAny_bind (wpAny_of_eq hpos ?_)
  refine e2_3 (id hfn) ?_
  rintro fo fd ho hc hd
  refine callWith_function_kw (o := fo) (fd := fd) (evalArgs_any hl (hb.run s1 fun vs us H2 σ2 h2 t2 le2 s2 rv ho' => ⟨⟨K.sub s2 _ _ ho, hd⟩, ?_⟩))
  exact ho' H2 { s with heap := h2, toks := t2 } s2 (.ref x :: us) (VRs.cons (mk_raw _) rv) [] VRs.nil Q E fun v u H3 σ3 h3 t3 le3 s3 rv hp => hQ v u H3 σ3 h3 t3 (le1.trans (le2.trans le3)) s3 rv hp
theorem ev_imethK (C : ClsOk K.B) {o arg kv : Expr} {name kn : Str} {apos pos kp : Pos} (f : Addr) (hf : metTab.lookup name = some f) (hfn : IsFn K.B f) (hB : typeLookup (.type "object") name = pure none) (hne : name ≠ "_headers")
    (h : Ev K o σ fun ov σ1 => ∃ x l, ov = .raw (.ref x) ∧ HdrAt K σ1 x l ∧ Ev K arg σ1 fun v σ2 => Ev K kv σ2 fun k σ3 => CallW K (.ref f) [.raw (.ref x), v] [(kn, k)] σ3 Post)
    (hbase : attributeBase o name K.F.env (eval o K.F.env) = eval o K.F.env) (hst : starEach [arg] K.F.env = [(false, eval arg K.F.env)]) (hline : (apos.endLine == pos.line) = true) :
    Ev K (.Call (.Attribute o name apos) [arg] [⟨some kn, kv, kp⟩] pos) σ Post := fun H s hs Q E hQ => by
  rw [arm_eval_Call, hbase]
  refine wpAny_bind (h.run hs fun ov u H1 σ1 h1 t1 le1 s1 ra hb => ?_)
  refine e2_3 hb ?_
  clear hb
  rintro x l rfl I hb
  cases vr_raw ra
  refine wpAny_bind (wpAny_standAt ?_)
  have hform : methodCallForm ([arg].length + ([⟨some kn, kv, kp⟩] : List Keyword).length) (backTo pos (starEach [arg] K.F.env)) (backToKw pos (keywordEach [⟨some kn, kv, kp⟩] K.F.env)) = true := by rw [hst]; rfl
  have hpos : methodCallPos true o K.F.env apos pos = pure pos := by unfold methodCallPos; simp [hline]
  unfold methodCall
  refine rwl hform ?_
  refine wpAny_bind (wpAny_holding (meth_at (s := { s with heap := h1, toks := t1 }) C hf hfn hB hne s1 I ?_))
  refine wpAny_bind (wpAny_of_eq hpos ?_)
  refine e2_3 (id hfn) ?_
  rintro fo fd ho hc hd
  refine callWith_function_kw (o := fo) (fd := fd) (evalArgs_kw2 rfl ?_ hst)
  refine PyProof.Rows.spliced_more (hb.run (s := { s with heap := h1, toks := t1 }) s1 fun v u H2 σ2 h2 t2 le2 s2 rv hb2 => PyProof.Rows.spliced_none ?_) hst
  refine kwAll_cons (hb2.run (s := { s with heap := h2, toks := t2 }) s2 fun k ku H3 σ3 h3 t3 le3 s3 rk hb3 => kwAll_nil ⟨⟨K.sub s3 _ _ ho, hd⟩, ?_⟩)
  exact hb3 H3 { s with heap := h3, toks := t3 } s3 [.ref x, u] (VRs.cons (mk_raw _) (VRs.cons (rv.mono le3) VRs.nil)) [ku] (VRs.cons rk VRs.nil) Q E fun v u H4 σ4 h4 t4 le4 s4 rv hp => hQ v u H4 σ4 h4 t4 (le1.trans (le2.trans (le3.trans le4))) s4 rv hp
end
section
variable {K : Cx} {σ : S} {Post : AV → S → Prop} {PF : AF → S → Prop} {PB : Bool → S → Prop} {PU : Unit → S → Prop}
theorem c_type {v : AV} {T : String} (hT : HasT K v T σ) (hnb : (Value.type T == Value.type "builtin_function_or_method") = false) (h : Post (.raw (.type T)) σ) : CallK K (.type "type") [v] σ Post :=
  callK_leaf (fun H s st us hu Q E hq => by
    refine e1_2 hu.one ?_
    rintro u rfl r
    exact call_type_of (hT H s st u r).1 hnb (hq _ s.toks (mk_raw _))) h
theorem cmp_isT {a b : String} (h : Post (.bool (Value.type a == Value.type b)) σ) : Cmp K .Is (.raw (.type a)) (.raw (.type b)) σ Post := on2 _ (fun H s hs u v ru rv Q E hq => by
  cases vr_raw ru; cases vr_raw rv
  exact wpAny_is_plain rfl (hq _ s.toks (mk_bool _))) h
theorem cmp_isnotT {a b : String} (h : Post (.bool (!(Value.type a == Value.type b))) σ) : Cmp K .IsNot (.raw (.type a)) (.raw (.type b)) σ Post := on2 _ (fun H s hs u v ru rv Q E hq => by
  cases vr_raw ru; cases vr_raw rv
  exact wpAny_isNot_plain rfl (hq _ s.toks (mk_bool _))) h
noncomputable def AV.some : AV → Prop
  | .none => False
  | .raw .none => False
  | _ => True
theorem AV.some_ne {a : AV} (h : a.some) {H : HF} {v : Value} (r : VR H a v) : v ≠ .none := by
  cases a with
  | none => exact h.elim
  | bool b => rw [vr_bool r]; intro e; cases e
  | int i => obtain ⟨t, rfl⟩ := vr_int r; intro e; cases e
  | str i => obtain ⟨t, rfl⟩ := vr_str r; intro e; cases e
  | tup vs => obtain ⟨a, ws, rfl, _⟩ := vr_tup r; intro e; cases e
  | lst vs => obtain ⟨a, ws, n, rfl, _⟩ := vr_lst r; intro e; cases e
  | raw x => cases vr_raw r; intro e; subst e; exact h.elim
  | fix o => obtain ⟨a, rfl, _⟩ := vr_fix r; intro e; cases e
theorem cmp_isnotN {a : AV} (ha : a.some) (h : Post (.bool true) σ) : Cmp K .IsNot a .none σ Post := on2 _ (fun H s hs u v ru rv Q E hq => by
  cases vr_none rv
  exact isnot_none_ne (AV.some_ne ha ru) (hq _ s.toks (mk_bool _))) h
theorem cmp_isnotNN (h : Post (.bool false) σ) : Cmp K .IsNot .none .none σ Post := on2 _ (fun H s hs u v ru rv Q E hq => by
  cases vr_none ru; cases vr_none rv
  exact isnot_none_none (hq _ s.toks (mk_bool _))) h
/- a whole list is written anew -/
theorem setItem_whole {prog : Program} {w : World} {A : Around} {E : Value → Shared → Prop} {s : Shared} {l d sl : Addr} {items new : Array Value} {n m : Nat} {Q : Unit → Shared → Prop}
    (hl : s.heap.get? l = some (lstO items n)) (hd : s.heap.get? d = some (lstO new m)) (hsl : s.heap.get? sl = some (slcO .none .none)) (hz : items.size + new.size ≤ sizeLine)
    (hQ : ∀ f : Array Value → Array Value, f items = new → Q () { s with heap := s.heap.update l (Obj.mapSeq f) }) :
    wpAny (model prog w) A (setItem (.ref l) (.ref sl) (.ref d)) Q E s := by
  have hL : s.heap.IsList l items := ⟨_, hl, rfl, n, rfl⟩
  have hTs : s.TypeIs (.ref sl) "slice" := ⟨_, hsl, rfl⟩
  have hTd : s.TypeIs (.ref d) "list" := ⟨_, hd, rfl⟩
  unfold setItem
  try with_reducible refine wpAny_holding ?_
  first | refine wpAny_bind (wpAny_pure ?_) | skip
  refine wpAny_bind (wpAny_sequenceKey hL.typeIs (by decide) ?_)
  refine wpAny_bind (wpAny_callSpecial?_slot (name := Str.ofString "__setitem__") hL.typeIs slot_list_setitem
    (wpAny_call_entry slot_list_setitem hL.typeIs entry_list_setitem ?_ (args_list_setitem _ _ _)))
  show wpAny _ _ (Builtin.List.listSubscript? (.ref sl) >>= _) _ _ s
  refine wpAny_bind ?_
  unfold Builtin.List.listSubscript?
  refine wpAny_bind (wpAny_specialOf hTs slice_no_index ?_)
  simp only [Option.isNone_none, if_true]
  refine wpAny_pure ?_
  show wpAny _ _ (typeOf (.ref sl) >>= _) _ _ s
  refine wpAny_bind (wpAny_typeOf hTs ?_)
  refine rwl (if_neg (by decide)) ?_
  refine rwl (listSliceParts_eq _) ?_
  refine wpAny_bind (wpAny_bind (wpAny_field hsl rfl (x := .none) rfl (wpAny_bind (wpAny_listPart .none ?_))))
  refine rwl (if_neg (by decide)) ?_
  refine wpAny_bind (wpAny_field hsl rfl (x := .none) rfl (wpAny_bind (wpAny_listPart .none ?_)))
  refine wpAny_bind (wpAny_field hsl rfl (x := .none) rfl (wpAny_bind (wpAny_listPart .none (wpAny_pure ?_))))
  have items_of : ∀ {a : Addr} {xs : Array Value} {k : Nat} {Q' : Array Value → Shared → Prop} {A' : Around} {E' : Value → Shared → Prop}, s.heap.get? a = some (lstO xs k) → Q' xs s → wpAny (model prog w) A' (Builtin.List.listItems (.ref a)) Q' E' s := fun ha hq => by
    unfold Builtin.List.listItems
    exact wpAny_bind (wpAny_seqItems ha rfl (wpAny_pure hq))
  have htl : Builtin.List.listTooLong (items.size + new.size) = false := by
    unfold Builtin.List.listTooLong
    exact decide_eq_false (by lia)
  have e1 : (max (0 : Int) (items.size : Int)).toNat = items.size := by lia
  have fin : ∀ {A' : Around} {E' : Value → Shared → Prop} {R : Fin → Shared → Prop}, (∀ f : Array Value → Array Value, f items = new → R (.done (.ret .none)) { s with heap := s.heap.update l (Obj.mapSeq f) }) → wpAny (model prog w) A' (do
      let xs ← Builtin.List.listItems (.ref l)
      let (start, stop, step) ← sliceIndices (rawPart none, rawPart none, rawPart none).1 (rawPart none, rawPart none, rawPart none).2.1 (rawPart none, rawPart none, rawPart none).2.2 xs.size
      if (step == 1) = true then do
        rule "list.__setitem__.slice"
        if Builtin.List.listTooLong (xs.size + new.size) then do
          unsupported "list.__setitem__:memory"
          Builtin.List.listUpdate (.ref l) fun xs => xs.extract 0 start.toNat ++ new ++ xs.extract (max start stop).toNat xs.size
          letGo (xs.extract start.toNat (max start stop).toNat).toList.reverse
          ret .none
        else do
          Builtin.List.listUpdate (.ref l) fun xs => xs.extract 0 start.toNat ++ new ++ xs.extract (max start stop).toNat xs.size
          letGo (xs.extract start.toNat (max start stop).toNat).toList.reverse
          ret .none
      else throw .none) R E' s := fun hr => by
    refine wpAny_bind (items_of hl ?_)
    refine wpAny_bind (wpAny_of_eq (sliceIndices_raw none none none items.size (by simp)) ?_)
    show wpAny _ _ (rule "list.__setitem__.slice" >>= _) _ _ s
    refine wpAny_bind (wpAny_rule ?_)
    refine rwl htl ?_
    refine rwl (if_neg (by decide)) ?_
    refine wpAny_bind (m := Builtin.List.listUpdate (.ref l) _) (wpAny_updateSeq hl rfl ?_ (hz := by lia) (_hz' := ?_))
    · refine wpAny_bind (wpAny_letGo (wpAny_pure (hr _ ?_)))
      show Array.extract items 0 (0 : Int).toNat ++ new ++ Array.extract items (max (0 : Int) (items.size : Int)).toNat items.size = new
      rw [e1]; simp
    · show (Array.extract items 0 (0 : Int).toNat ++ new ++ Array.extract items (max (0 : Int) (items.size : Int)).toNat items.size).size ≤ _
      rw [e1]; simp; lia
  split
  · refine wpAny_bind (items_of hd ?_)
    exact fin fun f hf => ⟨_, rfl, wpAny_pure (hQ f hf)⟩
  · unfold Builtin.List.listAllItems
    refine wpAny_bind (wpAny_bind (wpAny_typeOf hTd ?_))
    refine rwl (if_pos (by decide)) ?_
    refine items_of hd ?_
    exact fin fun f hf => ⟨_, rfl, wpAny_pure (hQ f hf)⟩
end
noncomputable def InsNew (x dx : Addr) (ox od : Obj) : Prop := x ≠ dx ∧ ox.dict = some dx ∧ ∀ h : Heap, h.get? x = some ox → h.get? dx = some od → h.Inst x 249 (fun _ => none)
theorem insOk_of {h : Heap} {x dx l : Addr} {ox : Obj} (I : h.Inst x 249 (hdrNs l)) (hx : h.get? x = some ox) (hd : ox.dict = some dx) : ∃ od, h.get? dx = some od ∧ InsOk x dx l ox od := by
  refine e1_4 I ?_
  clear I
  rintro o ho hc hn hr
  rw [hx] at ho; cases ho
  rcases hr with ⟨e, _⟩ | ⟨d, e, hne, hns⟩
  · rw [hd] at e; cases e
  · rw [hd] at e; cases e
    refine e3_2 hns ?_
    clear hns
    rintro oD es ep h1 h2
    exact ⟨oD, h1, fun h' a b => ⟨ox, a, hc, hn, .inr ⟨dx, hd, hne, oD, es, ep, b, h2⟩⟩⟩

theorem St.two {B H : HF} {F : Frm} {σ : S} {h h' : Heap} {x dx : Addr} {ox0 od0 ox1 od1 : Obj} {mu0 : Mu} (st : St B H F σ h) (hm : σ.mu = (x, .ob ox0) :: (dx, .ob od0) :: mu0) (hx : h'.get? x = some ox1) (hd : h'.get? dx = some od1)
    (k : ∀ b o, b ≠ x → b ≠ dx → h.get? b = some o → h'.get? b = some o) : St B H F { σ with mu := (x, .ob ox1) :: (dx, .ob od1) :: mu0 } h' := by
  have hxm : (x, MO.ob ox0) ∈ σ.mu := by rw [hm]; simp
  have hdm : (dx, MO.ob od0) ∈ σ.mu := by rw [hm]; simp
  have nx := (st.m.own _ hxm).1
  have nd := (st.m.own _ hdm).1
  have keep : ∀ b o, H b = some o → h'.get? b = some o := fun b o e => k b o (fun z => by rw [z, nx] at e; cases e) (fun z => by rw [z, nd] at e; cases e) (st.m.keep b o e)
  have ownk : ∀ b ∈ F.own, ∀ o, h.get? b = some o → h'.get? b = some o := fun b hb o e => k b o (st.own_mu b hb _ hxm).symm (st.own_mu b hb _ hdm).symm e
  have emap : ((x, MO.ob ox1) :: (dx, .ob od1) :: mu0).map (·.1) = σ.mu.map (·.1) := by rw [hm]; rfl
  have ndm := st.m.nd
  rw [hm] at ndm
  simp only [List.map_cons, List.nodup_cons] at ndm
  refine ⟨⟨st.m.base, keep, fun p hp => ?_, by rw [emap]; exact st.m.nd⟩, st.new, ?_, ?_, by rw [emap]; exact st.nd, st.fr, st.lenv, st.lenc⟩
  · rcases List.mem_cons.mp hp with rfl | hp
    · exact ⟨nx, hx⟩
    rcases List.mem_cons.mp hp with rfl | hp
    · exact ⟨nd, hd⟩
    · have hpm : p ∈ σ.mu := by rw [hm]; exact List.mem_cons_of_mem _ (List.mem_cons_of_mem _ hp)
      refine e0_2 (st.m.own p hpm) ?_
      rintro q r
      refine e1_1 r.get ?_
      rintro o eo
      have h1 : p.1 ≠ x := fun z => ndm.1 (List.mem_cons_of_mem _ (z ▸ List.mem_map_of_mem hp))
      have h2 : p.1 ≠ dx := fun z => ndm.2.1 (z ▸ List.mem_map_of_mem hp)
      exact ⟨q, r.at ((k _ _ h1 h2 eo).trans eo.symm)⟩
  · refine e1_2 st.ns ?_
    rintro m ⟨o, es, ep, e, r⟩ hv
    exact ⟨m, ⟨o, es, ep, ownk _ (.head _) _ e, r⟩, hv⟩
  · intro i y c v h1 h2
    obtain ⟨q, u, ⟨o, e, r⟩, t⟩ := st.cell i y c v h1 h2
    exact ⟨q, u, ⟨o, ownk c (List.mem_cons_of_mem _ (List.mem_map.mpr ⟨(y, c), List.mem_of_getElem? h1, rfl⟩)) _ e, r⟩, t⟩

section
variable {K : Cx} {σ : S} {Post : AV → S → Prop} {PF : AF → S → Prop} {PB : Bool → S → Prop} {PU : Unit → S → Prop}
theorem x_asgattr (C : ClsOk K.B) {o value : Expr} {pos' pos : Pos}
    (h : Ev K value σ fun v σ1 => Ev K o σ1 fun ov σ2 => ∃ x dx l ox od mu0, v = .raw (.ref l) ∧ ov = .raw (.ref x) ∧ σ2.mu = (x, .ob ox) :: (dx, .ob od) :: mu0 ∧ InsNew x dx ox od ∧
      ∀ ox1 od1, InsOk x dx l ox1 od1 → PF .next { σ2 with mu := (x, .ob ox1) :: (dx, .ob od1) :: mu0 })
    (hs : swapsWith value (some (.Attribute o "_headers" pos')) pos.line K.F.env = pure false) : X K (.Assign [.Attribute o "_headers" pos'] value pos) σ PF := fun H s st Q E hq =>
  plainObj_wpAny_Assign_Attribute (h.run st fun v u H1 σ1 h1 t1 le1 s1 rv hb => hb.run (s := { s with heap := h1, toks := t1 }) s1 fun ov uo H2 σ2 h2 t2 le2 s2 ro hp => by
    obtain ⟨x, dx, l, ox, od, mu0, rfl, rfl, hm, io, hp⟩ := hp
    cases vr_raw rv
    cases vr_raw ro
    refine e7_1 (cls_at C s2) ?_
    rintro nm q k0 k1 k2 k3 k5 hC
    refine e1_6 C.ns ?_
    rintro mN hn ht g1 g2 g3 g4
    have hxm : (x, MO.ob ox) ∈ σ2.mu := by rw [hm]; simp
    have hdm : (dx, MO.ob od) ∈ σ2.mu := by rw [hm]; simp
    have ex : h2.get? x = some ox := (s2.m.own _ hxm).2
    have ed : h2.get? dx = some od := (s2.m.own _ hdm).2
    have hxC : x ≠ 249 := fun z => by
      refine e7_1 C.cls ?_
      rintro _ _ _ _ _ _ _ e
      have := s2.m.base _ _ e
      rw [← z, (s2.m.own _ hxm).1] at this; cases this
    refine store_attr F.store_object hC (hn _ (K.sub s2)) g3 g4 lk_hdrs hxC (io.2.2 _ ex ed) (fun h' tk' I' hk hsame => ?_) (ns := []) (hw := Within.nil) (hsz := by decide)
    refine e1_5 (hsame ox ex) ?_
    rintro o₁ e1 _ _ _ e2
    refine e1_2 (insOk_of (l := l) I' e1 (e2 dx io.2.1)) ?_
    rintro od1 e3 hI
    refine hq .next .next H2 _ h' tk' (le1.trans le2) (s2.two hm e1 e3 fun b o hb1 hb2 eb => hk b o hb1 (fun o₀ d₀ z1 z2 => ?_) eb) rfl (hp o₁ od1 hI)
    rw [ex] at z1; cases z1
    rw [io.2.1] at z2; cases z2
    exact hb2) hs

theorem x_asgwhole {o value : Expr} {sp pos' pos : Pos}
    (h : Ev K value σ fun v σ1 => Ev K o σ1 fun ov σ2 => ∃ i l vs news, ov = .raw (.ref l) ∧ σ2.mu[i]? = some (l, .list vs) ∧ LstAt K σ2 v news ∧ vs.length + news.length ≤ sizeLine ∧ PF .next (σ2.putM i l (.list news)))
    (hs : swapsWith value (some (.Subscript o (.Slice none none none sp) pos')) pos.line K.F.env = pure false) : X K (.Assign [.Subscript o (.Slice none none none sp) pos'] value pos) σ PF := fun H s st Q E hq =>
  wpAny_Assign_Subscript (h.run st fun v u H1 σ1 h1 t1 le1 s1 rv hb => hb.run (s := { s with heap := h1, toks := t1 }) s1 fun ov uo H2 σ2 h2 t2 le2 s2 ro hp => by
    refine e4_5 hp ?_
    clear hp
    rintro i l vs news rfl hi hL hz hp
    cases vr_raw ro
    refine wpAny_Slice ?_
    refine wpAny_pure (wpAny_pure (wpAny_pure ?_))
    refine e3_3 (hL H2 { s with heap := h2, toks := t2 } s2 u (rv.mono le2)) ?_
    rintro d wn m rfl ed rn
    refine e2_2 (mu_get s2 hi) ?_
    rintro ws n e r
    have s3 := s2.kept (Kept.push h2 (slcO .none .none))
    have hw : ws.size = vs.length := by have := r.length; simpa using this
    have hwn : wn.size = news.length := by have := rn.length; simpa using this
    refine setItem_whole (s := { s with heap := h2.push (slcO .none .none), toks := t2 }) (Heap.get?_push_of_some _ e) (Heap.get?_push_of_some _ ed) (Heap.get?_push_size _ rfl) (by lia) fun f hf => ?_
    exact hq .next .next H2 _ _ t2 (le1.trans le2) (s3.upd hi (Heap.get?_push_of_some _ e) f (by rw [hf]; exact rn)) rfl hp) hs

theorem x_delitem (C : ClsOk K.B) {o i : Expr} {pos' pos : Pos}
    (h : Ev K o σ fun ov σ1 => ∃ x l, ov = .raw (.ref x) ∧ Ev K i σ1 fun iv σ2 => HdrAt K σ2 x l ∧ CallW K (.ref 169) [.raw (.ref x), iv] [] σ2 fun _ σ3 => PF .next σ3) :
    X K (.Delete [.Subscript o i pos'] pos) σ PF := fun H s st Q E hq => by
  refine wpAny_Delete (wpAny_deleteEach_cons ?_)
  show wpAny _ _ (do
    let ov ← eval o K.F.env
    let iv ← holding [ov] (eval i K.F.env)
    standAt pos'
    holding [ov, iv] (delItem ov iv)
    release [ov, iv] []) _ _ _
  refine wpAny_bind (h.run st fun ov u H1 σ1 h1 t1 le1 s1 ro hb => ?_)
  refine e2_2 hb ?_
  clear hb
  rintro x l rfl hb
  cases vr_raw ro
  refine wpAny_bind (wpAny_holding (hb.run (s := { s with heap := h1, toks := t1 }) s1 fun iv ui H2 σ2 h2 t2 le2 s2 ri hp => ?_))
  refine e0_2 hp ?_
  clear hp
  rintro I hc
  refine wpAny_bind (wpAny_standAt (wpAny_bind (wpAny_holding ?_)))
  refine e7_1 (cls_at C s2) ?_
  rintro nm q k0 k1 k2 k3 k5 hC
  refine e1_6 C.ns ?_
  rintro mN hn ht g1 g2 g3 g4
  refine e2_4 C.m169 ?_
  rintro fo pm ho hfc hfd _
  have sub := K.sub s2
  refine e1_4 (I H2 { s with heap := h2, toks := t2 } s2) ?_
  rintro oi hx hcls hnc hdd
  have hfun : typeLookup (.type "object") "__delitem__" = pure none := lk_del
  have X : Heap.OwnSpecial h2 x 249 169 "object" "__delitem__" := ⟨oi, fo, nm, q, 248, _, _, _, _, _, _, _, _, k0, k1, k2, k3, k5, _, mN, none, hx, hcls, hC, hn _ sub, ht _ _ rfl, sub _ _ ho, hfc, F.mro_object, lk_del⟩
  unfold delItem
  refine wpAny_holding (wpAny_bind ?_)
  unfold sequenceKey
  refine wpAny_bind (wpAny_typeOf_ref hx ?_)
  refine rwl hcls ?_
  have any : ∀ {Q' : Bool → Shared → Prop} {E' : Value → Shared → Prop} {A' : Around}, Q' false { s with heap := h2, toks := t2 } → wpAny (model K.prog K.w) A' (seqItemTypes.anyM fun n => isSubtype (.ref 249) (.type n)) Q' E' { s with heap := h2, toks := t2 } := fun hq' => by
    unfold seqItemTypes
    refine rwl List.anyM_cons ?_
    refine wpAny_bind (wpAny_isSubtype_exc hC ?_)
    have e : (Value.ref 249 :: [Value.type "object"]).contains (.type "collections.deque") = false := by decide
    refine rwl e ?_
    refine rwl (if_neg (by decide)) ?_
    refine rwl List.anyM_nil ?_
    exact wpAny_pure hq'
  refine wpAny_bind (any ?_)
  refine rwl (if_pos (show (!false) = true from rfl)) ?_
  refine wpAny_pure (wpAny_bind (wpAny_callSpecial?_own X ?_))
  exact hc H2 { s with heap := h2, toks := t2 } s2 [.ref x, ui] (VRs.cons (mk_raw _) (VRs.cons ri VRs.nil)) [] VRs.nil _ _ fun v uv H3 σ3 h3 t3 le3 s3 rv hp => wpAny_pure (wpAny_release (wpAny_deleteEach_nil (hq .next .next H3 σ3 h3 t3 (le1.trans (le2.trans le3)) s3 rfl hp)))
end
theorem St.add {B H : HF} {F : Frm} {σ : S} {h : Heap} {x : Addr} {m : MO} (st : St B H F σ h) (hm : m.sat H x h) (hn : H x = none) (ho : x ∉ F.own) (hx : ∀ p ∈ σ.mu, p.1 ≠ x) : St B H F { σ with mu := (x, m) :: σ.mu } h := by
  refine ⟨⟨st.m.base, st.m.keep, fun p hp => ?_, ?_⟩, st.new, st.ns, st.cell, ?_, st.fr, st.lenv, st.lenc⟩
  · rcases List.mem_cons.mp hp with rfl | hp
    · exact ⟨hn, hm⟩
    · exact st.m.own p hp
  · refine rwl List.map_cons ?_
    refine List.nodup_cons.mpr ⟨fun z => ?_, st.m.nd⟩
    refine e1_2 (List.mem_map.mp z) ?_
    rintro p hp e
    exact hx p hp e
  · refine rwl List.map_cons ?_
    have z := List.nodup_append.mp st.nd
    refine List.nodup_append.mpr ⟨z.1, List.nodup_cons.mpr ⟨fun q => ?_, z.2.1⟩, fun a ha b hb e => ?_⟩
    · refine e1_2 (List.mem_map.mp q) ?_
      rintro p hp e
      exact hx p hp e
    · rcases List.mem_cons.mp hb with rfl | hb
      · subst e; exact ho ha
      · exact z.2.2 a ha b hb e

theorem Fit.under {A : Around} {n : Nat} (x : Fit A (n + 1)) (vals : List Value) : Fit (A.under (.builtin "type.__call__" ⟨.ref 249 :: vals, []⟩)) n :=
  ⟨x.hd, by have := x.dp; show A.depth + 1 + n + 1 < _; lia, by
    have := x.un
    have e : (A.under (.builtin "type.__call__" ⟨.ref 249 :: vals, []⟩)).units ≤ A.units + 8 := by
      show A.units + _ ≤ _
      exact Nat.add_le_add_left (show (Code.builtin "type.__call__" ⟨.ref 249 :: vals, []⟩).cUnits ≤ 8 from by first | exact Nat.le_of_ble_eq_true rfl | (show (1 : Nat) ≤ 8; omega) | (show (2 : Nat) ≤ 8; omega) | (show (3 : Nat) ≤ 8; omega)) _
    lia⟩

section
variable {K : Cx} {σ : S} {Post : AV → S → Prop} {PF : AF → S → Prop} {PB : Bool → S → Prop} {PU : Unit → S → Prop}
theorem c_new (C : ClsOk K.B) {vs : List AV} {m : Nat} (hm : m + 1 ≤ K.n)
    (h : ∀ x dx ox od, InsNew x dx ox od → Con K.prog K.w K.B m (.ref 143) (.raw (.ref x) :: vs) [] ((x, .ob ox) :: (dx, .ob od) :: σ.mu) fun v mu' => v = .none ∧ Post (.raw (.ref x)) { σ with mu := mu' }) :
    CallK K (.ref 249) vs σ Post := fun H s st us hu Q E hq => by
  refine e7_1 (cls_at C st) ?_
  rintro nm q k0 k1 k2 k3 k5 hC
  refine e1_6 C.ns ?_
  rintro mN hn ht g1 g2 g3 g4
  refine e2_4 C.m143 ?_
  rintro fo pm ho hfc hfd _
  have sub := K.sub st
  refine wpAny_call_obj_init F.objNew hC (hn _ sub) (ht _ _ rfl) (sub _ _ ho) hfc fun h' x dx mo => ?_
  have ⟨ox, hox, hcls, hnc, hdd⟩ := mo.inst
  have hodx := mo.dict ox hox
  rcases hdd with ⟨e, _⟩ | ⟨d, e, hne, hns⟩
  · rw [hodx] at e; cases e
  rw [hodx] at e; cases e
  refine e3_2 hns ?_
  clear hns
  rintro od es ep hod hrest
  have io : InsNew x dx ox od := ⟨fun z => hne z.symm, hodx, fun g a b => ⟨ox, a, hcls, hnc, .inr ⟨dx, hodx, hne, od, es, ep, b, hrest⟩⟩⟩
  have st1 := st.kept (show Kept s.heap h' from mo.keeps)
  have frH : ∀ a, s.heap.get? a = none → H a = none := fun a ea => by
    cases eh : H a with
    | none => rfl
    | some o => have := st.m.keep a o eh; rw [ea] at this; cases this
  have frO : ∀ a, s.heap.get? a = none → a ∉ K.F.own := fun a ea z => by
    refine e1_2 (st.own_obj a z) ?_
    rintro o e _
    rw [ea] at e; cases e
  have frM : ∀ a, s.heap.get? a = none → ∀ p ∈ σ.mu, p.1 ≠ a := fun a ea p hp z => by
    refine e1_1 ((st.m.own p hp).2.get) ?_
    rintro o e
    rw [z, ea] at e; cases e
  have st2 := st1.add (m := .ob od) (x := dx) hod (frH _ mo.newD) (frO _ mo.newD) (frM _ mo.newD)
  have st3 := st2.add (m := .ob ox) (x := x) hox (frH _ mo.newX) (frO _ mo.newX) (fun p hp => by
    rcases List.mem_cons.mp hp with rfl | hp
    · exact hne
    · exact frM _ mo.newX p hp)
  have hs' := St.hide st3
  refine h x dx ox od io _ ((K.fit.mono hm).under us) _ ⟨h', s.gens, s.drawn, s.toks, s.os⟩ hs' (.ref x :: us) (VRs.cons (mk_raw _) (hu.mono (HF.le_plus st3.own_none))) [] VRs.nil _ E fun b a H' mu' h2 tk le xm r p => ?_
  refine e0_4 (St.back st3 le xm) ?_
  rintro l1 s1 v1 _
  refine e0_2 p ?_
  clear p
  rintro rfl hp
  exact ⟨vr_none r, hq _ _ _ _ h2 tk l1 s1 (mk_raw _) hp⟩

theorem ev_callC (C : ClsOk K.B) {f : Str} {pf pos : Pos} {e : Expr}
    (h : Ev K (.Name f pf) σ fun fv σ1 => fv = .raw (.ref 249) ∧ EvL K [e] pos σ1 fun vs σ2 => CallK K (.ref 249) vs σ2 Post) (hst : starEach [e] K.F.env = [(false, eval e K.F.env)]) : Ev K (.Call (.Name f pf) [e] [] pos) σ Post :=
  fun H s hs Q E hq => wpAny_Call_Name_kw (h.run hs fun fv u H1 σ1 h1 t1 le1 s1 ra hb => by
    refine e0_2 hb ?_
    clear hb
    rintro rfl hb
    cases vr_raw ra
    have hl : (backTo pos (starEach [e] K.F.env)).all (fun x => !x.1) = true := by rw [hst]; rfl
    have hla : ((backTo pos (starEach [e] K.F.env)).any (fun x => x.fst) || (backToKw pos (keywordEach [] K.F.env)).any fun x => x.fst.isNone) = false := by rw [hst]; rfl
    unfold callWith
    refine wpAny_bind (wpAny_holding (evalArgs_any hl (hb.run (s := { s with heap := h1, toks := t1 }) s1 fun vs us H2 σ2 h2 t2 le2 s2 rv ho' => ?_)))
    refine e7_1 (cls_at C s2) ?_
    rintro nm q k0 k1 k2 k3 k5 hC
    have f1 := tc_lookup
    have hT : (⟨h2, s.gens, s.drawn, t2, s.os⟩ : Shared).TypeIs (.ref 249) "type" := ⟨_, hC, rfl⟩
    refine wpAny_bind (wpAny_standAt ?_)
    show wpAny _ _ (keeperOf (.ref 249) >>= _) _ _ _
    unfold keeperOf specialOf
    repeat (any_goals (first | assumption | with_reducible refine wpAny_loadPart_at hC ?_ | with_reducible refine wpAny_load' hC ?_ | wp_step))
    refine rwl (if_pos (by rfl)) ?_
    refine rwl hla ?_
    show wpAny _ _ (call (.ref 249) us [] >>= fun r => do holding [r] point; pure r) _ _ _
    refine wpAny_bind (ho'.at (vs := us) (s := { s with heap := h2, toks := t2 }) s2 rv fun v u H3 σ3 h3 t3 le3 s3 rv hp => ?_)
    exact wpAny_bind (wpAny_holding (wpAny_point (wpAny_pure (hq v u H3 σ3 h3 t3 (le1.trans (le2.trans le3)) s3 rv hp)))))
end
/- binding -/
theorem Binds.kw1 {prog : Program} {w : World} {B : HF} {fd : FuncData} {a b c : AV} {mu : Mu} {x y z kn : Str} (h : ∀ u v t, bindArgs fd ⟨[u, v], [(kn, t)]⟩ = pure [(x, u), (y, v), (z, t)]) : Binds prog w B fd [a, b] [(kn, c)] mu [(x, a), (y, b), (z, c)] mu :=
  fun A H s st vs hv ks hk Q E hq => by
    refine e2_3 hv.two ?_
    rintro u v rfl r1 r2
    refine e1_2 (VRs.one hk) ?_
    rintro t rfl r3
    show wpAny _ _ (bindArgs fd ⟨[u, v], [(kn, t)]⟩) _ _ _
    refine rwl (h u v t) ?_
    exact wpAny_pure (hq _ H s.heap s.toks (.refl _) st (BindR.cons r1 (BindR.cons r2 (BindR.cons r3 BindR.nil))))
theorem Binds.dflt2 {prog : Program} {w : World} {B : HF} {fd : FuncData} {a b : AV} {mu : Mu} {x y : Str} {d : Addr} (hd : B d = some (tupO #[.none]))
    (h : ∀ u v, ∃ k, bindArgs fd ⟨[u, v], []⟩ = seqItems? (.ref d) >>= k ∧ k (some #[.none]) = pure [(x, u), (y, v)]) : Binds prog w B fd [a, b] [] mu [(x, a), (y, b)] mu :=
  fun A H s st vs hv ks hks Q E hq => by
    refine e2_3 hv.two ?_
    rintro u v rfl r1 r2
    refine e1_2 (h u v) ?_
    rintro k e1 e2
    show wpAny _ _ (bindArgs fd ⟨[u, v], []⟩) _ _ _
    refine rwl e1 ?_
    refine wpAny_bind (wpAny_seqItems (st.keep _ _ (st.base _ _ hd)) rfl ?_)
    refine rwl e2 ?_
    exact wpAny_pure (hq _ H s.heap s.toks (.refl _) st (BindR.cons r1 (BindR.cons r2 BindR.nil)))
theorem Binds.dflt3 {prog : Program} {w : World} {B : HF} {fd : FuncData} {a b : AV} {mu : Mu} {x y z : Str} {d : Addr} (hd : B d = some (tupO #[.none]))
    (h : ∀ u v, ∃ k, bindArgs fd ⟨[u, v], []⟩ = seqItems? (.ref d) >>= k ∧ k (some #[.none]) = pure [(x, u), (y, v), (z, .none)]) : Binds prog w B fd [a, b] [] mu [(x, a), (y, b), (z, .none)] mu :=
  fun A H s st vs hv ks hks Q E hq => by
    refine e2_3 hv.two ?_
    rintro u v rfl r1 r2
    refine e1_2 (h u v) ?_
    rintro k e1 e2
    show wpAny _ _ (bindArgs fd ⟨[u, v], []⟩) _ _ _
    refine rwl e1 ?_
    refine wpAny_bind (wpAny_seqItems (st.keep _ _ (st.base _ _ hd)) rfl ?_)
    refine rwl e2 ?_
    exact wpAny_pure (hq _ H s.heap s.toks (.refl _) st (BindR.cons r1 (BindR.cons r2 (BindR.cons mk_none BindR.nil))))
theorem StM.make {B H : HF} {mu : Mu} {h : Heap} (x : StM B H mu h) (o : Obj) {m : MO} (hm : ∀ h' : Heap, h'.get? h.objs.size = some o → m.sat H h.objs.size h') (hf : o.isFreed = false := by rfl) : StM B H ((h.objs.size, m) :: mu) (h.push o) := by
  have y := x.kept (Kept.push h o)
  refine ⟨y.base, y.keep, fun p hp => ?_, ?_⟩
  · rcases List.mem_cons.mp hp with rfl | hp
    · exact ⟨x.none_size, hm _ (Heap.get?_push_size _ hf)⟩
    · exact y.own p hp
  · refine rwl List.map_cons ?_
    refine List.nodup_cons.mpr ⟨fun hm => ?_, x.nd⟩
    refine e1_2 (List.mem_map.mp hm) ?_
    rintro p hp e
    exact Nat.ne_of_lt (x.lt p hp) e
noncomputable abbrev dict0 : Obj := { cls := .type "dict", data := .dict #[] }
theorem Binds.kwarg {prog : Program} {w : World} {B : HF} {fd : FuncData} {a b c : AV} {mu : Mu} {x y z t : Str}
    (h : ∀ u v r, bindArgs fd ⟨[u, v, r], []⟩ = alloc dict0 >>= fun d => pure [(x, u), (y, v), (z, r), (t, .ref d)]) : BindsD prog w B fd [a, b, c] [] mu (fun d => [(x, a), (y, b), (z, c), (t, .raw (.ref d))]) (fun d => (d, .ob dict0) :: mu) :=
  fun A H s st vs hv ks hks Q E hq => by
    refine e3_4 hv.three ?_
    rintro u v r rfl r1 r2 r3
    show wpAny _ _ (bindArgs fd ⟨[u, v, r], []⟩) _ _ _
    refine rwl (h u v r) ?_
    refine wpAny_bind (wpAny_alloc (wpAny_pure ?_))
    exact hq _ _ H _ s.toks (.refl _) (st.make (m := .ob dict0) dict0 fun h' e => e) (BindR.cons r1 (BindR.cons r2 (BindR.cons r3 (BindR.cons (mk_raw _) BindR.nil))))

/- an empty dict's items -/
noncomputable abbrev itemsO (d : Addr) : Obj := { cls := .type "dict_items", data := .fields #[.ref d] }
theorem fixed_items {d : Addr} : (∃ vs, (itemsO d).data = .fields vs) ∧ ((itemsO d).cls = .type "range" ∨ (itemsO d).cls = .type "dict_items") := ⟨⟨_, rfl⟩, .inr rfl⟩
theorem dictOf0 {prog : Program} {w : World} {h : Heap} {d : Addr} (e : h.get? d = some dict0) : h.DictAt (strKind prog w) d [] 0 :=
  ⟨dict0, #[], e, ⟨rfl, rfl, rfl⟩, rfl, fun e he => absurd he (by simp), .nil, List.nodup_nil⟩
section
variable {K : Cx} {σ : S} {Post : AV → S → Prop} {PF : AF → S → Prop} {PB : Bool → S → Prop} {PU : Unit → S → Prop}
theorem c_items0 {i : Nat} {d : Addr} (hi : σ.mu[i]? = some (d, .ob dict0)) (hsm : ∃ o, K.B sysModules = some o) (h : Post (.fix (itemsO d)) σ) : CallK K (.builtin "dict.items") [.raw (.ref d)] σ Post := fun H s st us hu Q E hq => by
  refine e1_2 hu.one ?_
  rintro u rfl r
  cases vr_raw r
  have e : s.heap.get? d = some dict0 := (st.m.own _ (List.mem_of_getElem? hi)).2
  have hD : s.heap.DictOf (strKind K.prog K.w) d [] := (dictOf0 e).dictOf
  have hs : (d == sysModules) = false := by
    rw [beq_eq_false_iff_ne]
    intro z
    refine e1_1 hsm ?_
    clear hsm
    rintro o eo
    have := st.m.base _ _ eo
    rw [← z, (st.m.own _ (List.mem_of_getElem? hi)).1] at this; cases this
  refine call_meetsIn F.slot_dict_items hD.typeIs F.entry_dict_items (F.args_dict_items_1 _) (meets_dict_items (strKind K.prog K.w) d hs) ⟨⟨_, hD⟩, ?_⟩
  refine e0_2 (st.alloc (itemsO d)) ?_
  rintro le s2
  exact hq _ _ _ σ _ s.toks le s2 (mk_fix (HF.put_at _ _ _) fixed_items) h
theorem entry_itemiter_iter : entryFor table "dict_itemiterator.__iter__" = some Builtin.«dict_keyiterator.__iter__» :=
  entryFor_alias (id' := "dict_keyiterator.__iter__") (by kernel_rfl) rfl (by decide +kernel) (by kernel_rfl)
noncomputable def PItems (d : Addr) : Nat → Obj → Prop
  | 0, o => o = { cls := .type "dict_itemiterator", dict := none, data := .fields #[.none, .bool false, .ref d, .int 0 0, .int 0 0, .int 0 0, .none, .none], slots := #[] }
  | _, _ => False
theorem walk_items0 {d : Addr} (hi : (d, MO.ob dict0) ∈ σ.mu) : Walk K (.fix (itemsO d)) [] (fun mu => (d, MO.ob dict0) ∈ mu) σ := fun H s st u hu => by
  refine e1_3 (vr_fix hu) ?_
  rintro v rfl hv _
  have e : s.heap.get? d = some dict0 := (st.own _ hi).2
  refine ⟨PItems d, ⟨?_, ?_, ?_, ?_, ?_⟩, fun Q E hq => ?_⟩
  · intro i o h
    cases i with
    | zero =>
      cases (show o = _ from h)
      exact ⟨⟨fun ws n e => (by cases e), (fun z => by
    rcases z with ⟨_, e⟩ | ⟨fd, e⟩
    · rcases e with e | e <;> exact absurd (Value.type.inj e) (by decide)
    · cases e), fun q z => by obtain ⟨vs, t, e, e2⟩ := z; cases e; cases e2⟩, fun u e => by cases e⟩
    | succ i => exact h.elim
  · intro i o h; exact h.elim
  · intro i v a o H s mu _ _ _ _ _ hv; cases hv
  · intro i a o s ho h Q E hq
    cases i with
    | zero =>
      cases (show o = _ from h)
      have hT : s.TypeIs (.ref a) "dict_itemiterator" := ⟨_, ho, rfl⟩
      refine wpAny_pyIter_slot hT F.slot_dict_itemiterator_iter (wpAny_call_entry F.slot_dict_itemiterator_iter hT entry_itemiter_iter ?_ (F.args_dict_itemiterator_iter_1 _))
      show wpAny _ _ (ret (.ref a)) _ _ s
      exact wpAny_pure ⟨_, rfl, "dict_itemiterator", _, hT, F.slot_dict_itemiterator_next.lookup, hq⟩
    | succ i => exact h.elim
  · intro a o H s mu hok le st ho h Q E hq
    cases (show o = _ from h)
    have e : s.heap.get? d = some dict0 := (st.own _ hok).2
    exact wpAny_pyNext_items_end (knd := strKind K.prog K.w) (kvs := []) (i := 0) (ep := 0) K.fit.hd ho (dictOf0 e) rfl fun h' hx => hq h' s.toks hx
  · refine wpAny_pyIter_items (knd := strKind K.prog K.w) (kvs := []) (ep := 0) ⟨_, st.keep _ _ hv, rfl, rfl⟩ (dictOf0 e) ?_
    exact hq _ s.toks rfl rfl
end
noncomputable def Plain (y : Str) : Prop := y.cps.size ≤ 1000 ∧ ∀ p, p < y.cps.size → okC (y.cps.getD p 0) = true
section
variable {prog : Program} {w : World} {B : HF} {mg mb : Str → Option Value}
theorem con_conv (T : TopOk B mg mb) (P : Pats B) (C : ClsOk B) {x : Addr} {y : Str} {b : Bool} (hy : Plain y) {mu : Mu} : Con prog w B 1 (.ref 150) [.raw (.ref x), .str y] [("name", .bool b)] mu fun v mu' => v = .str y ∧ mu' = mu := by
  refine fn_con T C.m150.toT ["self", "value", "name", "regex"] ["self", "value", "name"] (ab := [("self", .raw (.ref x)), ("value", .str y), ("name", .bool b)]) (fun pm => FnOk.of) (fun pm => Binds.kw1 (fun _ _ _ => rfl)) rfl (by decide +kernel) fun pm A fit L => ?_
  refine e4_1 P.p3 ?_
  rintro x3 t3 f3 u3 hp3
  refine e4_1 P.p4 ?_
  rintro x4 t4 f4 u4 hp4
  refine e0_2 hy ?_
  clear hy
  rintro hy1 hy2
  refine xs_cons ?_
  repeat tb_start
  refine ev_callT (T := "type") ?_
  repeat tb_start
  refine c_type hasT_str rfl ?_
  repeat tb_start
  refine cmp_isT ?_
  repeat tb_start
  refine ev_ifexp ?_
  refine tst_plain ?_ rfl
  repeat tb_start
  cases b with
  | true =>
    repeat tb_start
    refine tst_plain ?_ rfl
    refine m_search ?_ ⟨rfl, rfl, rfl⟩
    repeat tb_start
    refine ⟨hasT_pat hp3, ?_⟩
    repeat tb_start
    refine c_search hp3 P.w3 (by lia) (p3_search false hy2 (Nat.zero_le _)) ?_
    repeat tb_start
    exact ⟨rfl, rfl⟩
  | false =>
    repeat tb_start
    refine tst_plain ?_ rfl
    refine m_search ?_ ⟨rfl, rfl, rfl⟩
    repeat tb_start
    refine ⟨hasT_pat hp4, ?_⟩
    repeat tb_start
    refine c_search hp4 P.w4 (by lia) (p4_search false hy2 (Nat.zero_le _)) ?_
    repeat tb_start
    exact ⟨rfl, rfl⟩
end
section
variable {prog : Program} {w : World} {B : HF} {mg mb : Str → Option Value}
theorem con_init (T : TopOk B mg mb) (P : Pats B) (C : ClsOk B) {x dx l : Addr} {ox od : Obj} {ps : List (Str × Str)} (hio : InsNew x dx ox od) (hp : ∀ p ∈ ps, Plain p.1 ∧ Plain p.2) {mu : Mu} {k : Nat} (hk : mu[k]? = some (l, .list (ps.map pairT))) :
    Con prog w B 2 (.ref 143) [.raw (.ref x), .raw (.ref l)] [] ((x, .ob ox) :: (dx, .ob od) :: mu) fun v mu' => v = .none ∧ ∃ ox1 od1, InsOk x dx l ox1 od1 ∧ mu' = (x, .ob ox1) :: (dx, .ob od1) :: mu := by
  refine fn_con T C.m143.toT ["self", "headers", "k", "v"] ["self", "headers"] (ab := [("self", .raw (.ref x)), ("headers", .raw (.ref l))]) (fun pm => FnOk.of) (fun pm => Binds.dflt2 C.d136 (fun _ _ => ⟨_, rfl, rfl⟩)) rfl (by decide +kernel) fun pm A fit L => ?_
  refine xs_cons ?_
  repeat tb_start
  refine ev_ifexp ?_
  repeat tb_start
  refine cmp_isnotN True.intro ?_
  repeat tb_start
  refine ev_callT (T := "type") ?_
  repeat tb_start
  refine c_type (T := "list") (hasT_mu (List.mem_of_getElem? (i := k + 2) hk)) rfl ?_
  repeat tb_start
  refine cmp_isnotT ?_
  repeat tb_start
  refine x_asgattr C ?_ rfl
  repeat tb_start
  refine ⟨x, dx, l, ox, od, mu, rfl, rfl, rfl, hio, fun ox1 od1 io1 => ?_⟩
  repeat tb_start
  refine tst_plain ?_ rfl
  repeat tb_start
  refine x_for ?_
  repeat tb_start
  let JJ : Nat → S → Prop := fun i σ => ∃ a b : Option AV, σ = ⟨[some (.raw (.ref x)), some (.raw (.ref l)), a, b], [], (x, .ob ox1) :: (dx, .ob od1) :: mu⟩
  refine ⟨_, _, walk_mu (List.mem_of_getElem? (i := k + 2) hk), JJ, ?_, ⟨none, none, rfl⟩, ?_, ?_⟩
  · rintro i σ hz0
    refine e2_1 hz0 ?_
    clear hz0
    rintro a b rfl
    exact List.mem_of_getElem? (i := k + 2) hk
  · rintro i v σ hv hz0
    refine e2_1 hz0 ?_
    clear hz0
    rintro a b rfl
    rw [List.getElem?_map] at hv
    cases e : ps[i]? with
    | none => rw [e] at hv; cases hv
    | some p =>
      rw [e] at hv
      cases hv
      have hpp := hp p (List.mem_of_getElem? e)
      refine asg_tup ?_ rfl (fun _ => rfl)
      repeat tb_start
      refine ev_imethK C 150 rfl C.m150.isFn lk_conv (by decide) ?_ rfl rfl rfl
      repeat tb_start
      refine ⟨x, l, rfl, HdrAt.mu io1 (i := 0) (j := 1) rfl rfl, ?_⟩
      repeat tb_start
      refine Con.callW (m := 1) ((con_conv T P C hpp.1).mono ?_) (Nat.le_refl 1)
      refine q0_2 ?_
      repeat tb_start
      refine ev_imethK C 150 rfl C.m150.isFn lk_conv (by decide) ?_ rfl rfl rfl
      repeat tb_start
      refine ⟨x, l, rfl, HdrAt.mu io1 (i := 0) (j := 1) rfl rfl, ?_⟩
      repeat tb_start
      refine Con.callW (m := 1) ((con_conv T P C hpp.2).mono ?_) (Nat.le_refl 1)
      refine q0_2 ?_
      repeat tb_start
      exact ⟨_, Le.refl _, _, _, rfl⟩
  · rintro σ hz0
    refine e2_1 hz0 ?_
    clear hz0
    rintro a b rfl
    repeat tb_start
    exact ⟨rfl, ox1, od1, io1, rfl⟩
end
noncomputable def HOk (ps : List (Str × Str)) : Prop := ps.length ≤ 1000 ∧ ∀ p ∈ ps, (Txt.lower p.1).length ≤ 1000
noncomputable def hasN (low : Str) (p : Str × Str) : Bool := Txt.lower p.1 == low
noncomputable def allT (ps : List (Str × Str)) (low : Str) : List AV := sT ((ps.filter (hasN low)).map (·.2))
theorem not_long {n : Nat} (h : n ≤ 1000) : Builtin.Str.tooLong n = false := by
  unfold Builtin.Str.tooLong
  refine rwl sizeLine_eq ?_
  exact decide_eq_false (by lia)
section
variable {prog : Program} {w : World} {B : HF} {mg mb : Str → Option Value}
theorem con_getall (T : TopOk B mg mb) (P : Pats B) (C : ClsOk B) {x dx l : Addr} {ox od : Obj} {ps : List (Str × Str)} {nm : Str} (hio : InsOk x dx l ox od) (hn : Plain (Txt.lower nm)) (hps : HOk ps) {mu : Mu} {i j k : Nat}
    (hi : mu[i]? = some (x, .ob ox)) (hj : mu[j]? = some (dx, .ob od)) (hk : mu[k]? = some (l, .list (ps.map pairT))) :
    Con prog w B 2 (.ref 188) [.raw (.ref x), .str nm] [] mu fun v mu' => ∃ D, v = .raw (.ref D) ∧ mu' = (D, .list (allT ps (Txt.lower nm))) :: mu := by
  refine fn_con T C.m188.toT ["self"] ["self", "name"] (ab := [("self", .raw (.ref x)), ("name", .str nm)]) (fun pm => FnOk.of) (fun pm => Binds.two (fun _ _ => rfl)) rfl (by decide +kernel) fun pm A fit L => ?_
  refine xs_cons ?_
  repeat tb_start
  refine ev_imethK C 150 rfl C.m150.isFn lk_conv (by decide) ?_ rfl rfl rfl
  repeat tb_start
  refine i2_3 x l rfl (HdrAt.mu hio hi hj) ?_
  refine m_lower ?_ ⟨rfl, rfl, rfl⟩
  repeat tb_start
  refine ⟨hasT_str, ?_⟩
  repeat tb_start
  refine c_lower (not_long hn.1) ?_
  repeat tb_start
  refine Con.callW (m := 1) ((con_conv T P C hn).mono ?_) (Nat.le_refl 1)
  refine q0_2 ?_
  repeat tb_start
  refine ev_comp [("name", L + 1)] ?_ (fun _ => rfl) rfl rfl (by decide +kernel)
  refine ev_headers C ?_ rfl
  repeat tb_start
  refine i2_3 x l rfl (HdrAt.mu hio hi hj) ?_
  refine ⟨fun out => out = allT (ps.take (ps.map pairT).length) (Txt.lower nm), ⟨⟨_, _, ["kv"], [("name", .str (Txt.lower nm))], ⟨rfl, by decide +kernel, by decide +kernel, by decide +kernel, by decide, by simp; decide +kernel⟩, walk_mu (List.mem_of_getElem? hk), ⟨⟨0, L + 1, rfl, rfl, rfl⟩, True.intro⟩, fun D Cc => ?_⟩⟩, ?_⟩
  · refine loop1if (J := fun i out => out = allT (ps.take i) (Txt.lower nm)) (fun out => List.mem_cons_of_mem _ (List.mem_of_getElem? hk)) rfl ?_
    rintro i v out hv rfl
    rw [List.getElem?_map] at hv
    cases e : ps[i]? with
    | none => rw [e] at hv; cases hv
    | some p =>
      rw [e] at hv
      cases hv
      have hpp := hps.2 p (List.mem_of_getElem? e)
      have hl : (allT (ps.take i) (Txt.lower nm)).length ≤ sizeLine := by
        unfold allT sT
        refine rwl (List.length_map _) ?_
        refine rwl (List.length_map _) ?_
        refine rwl sizeLine_eq ?_
        have := List.length_filter_le (hasN (Txt.lower nm)) (ps.take i)
        have := hps.1
        have : (ps.take i).length ≤ ps.length := by rw [List.length_take]; lia
        lia
      have htake : ps.take (i + 1) = ps.take i ++ [p] := by rw [List.take_add_one, e]; rfl
      repeat tb_start
      refine m_lower ?_ ⟨rfl, rfl, rfl⟩
      repeat tb_start
      refine s_tup (j := 0) rfl rfl ?_
      repeat tb_start
      refine ⟨hasT_str, ?_⟩
      repeat tb_start
      refine c_lower (not_long hpp) ?_
      repeat tb_start
      refine ite_both (fun hc => ?_) fun hc => ?_
      · repeat tb_start
        refine s_tup (j := 1) rfl rfl ?_
        refine ⟨_, rfl, hl, _, Le.vars [false], ?_⟩
        refine rwl htake ?_
        unfold allT sT
        refine rwl (List.filter_append _ _) ?_
        refine rwl List.map_append ?_
        refine rwl List.map_append ?_
        have : List.filter (hasN (Txt.lower nm)) [p] = [p] := by
          rw [List.filter_cons, if_pos (show hasN (Txt.lower nm) p = true from hc)]; rfl
        rw [this]; rfl
      · refine ⟨_, Le.vars [false], ?_⟩
        refine rwl htake ?_
        unfold allT sT
        refine rwl (List.filter_append _ _) ?_
        refine rwl List.map_append ?_
        refine rwl List.map_append ?_
        have : List.filter (hasN (Txt.lower nm)) [p] = [] := by
          rw [List.filter_cons, if_neg (show ¬ hasN (Txt.lower nm) p = true from ne_true_of_eq_false hc)]; rfl
        rw [this]; simp
  · rintro D out rfl
    repeat tb_start
    refine ⟨D, rfl, ?_⟩
    refine rwl (List.length_map _) ?_
    refine rwl List.take_length ?_
    rfl
end
end

section
open PySem PySem.P PyProof.Rows PySem.MeetsSeq PySem.SeqRoads2
section
variable {K : Cx} {σ : S} {Post : AV → S → Prop} {PF : AF → S → Prop} {PP : Option Int → S → Prop}
theorem slT_listM {va sl : Expr} {a : AV} {vs : List AV} {lo hi : Option Int} (hL : LstAt K σ a vs) (hn : vs.length ≤ sizeLine)
    (h : ∀ D, Post (.raw (.ref D)) { σ with mu := (D, .list ((vs.drop (lo.elim 0 (clipAt vs.length))).take (hi.elim vs.length (clipAt vs.length) - lo.elim 0 (clipAt vs.length)))) :: σ.mu })
    (hs : ∀ o i, subscripted sl false o i = operate [i, o] (getItem o i) := by intro _ _; rfl) : SlT K va sl a lo hi σ Post := fun H s st o l u ro pl pu Q E hq => by
  refine e3_3 (hL H s st o ro) ?_
  rintro la ws n rfl e r
  have hlen : ws.size = vs.length := by have := r.length; simpa using this
  have hl : s.heap.IsList la ws := ⟨_, e, rfl, n, rfl⟩
  refine tail_any (Heap.IsList.typeIs (s := { s with heap := s.heap.push (slcO l u) }) (hl.push _)) list_getitem_lookup
    (wpAny_getItem_list_slice (hl.push _) (Heap.IsSliceOf.new ..) pl pu .none (by simp) ?_ (by lia)) (hs _ _)
  have s1 := st.kept (Kept.push s.heap (slcO l u))
  have e5 : (slicePick ws lo hi none).toList = (ws.toList.drop (lo.elim 0 (clipAt vs.length))).take (hi.elim vs.length (clipAt vs.length) - lo.elim 0 (clipAt vs.length)) := by
    rw [slicePick_plain, hlen]
  have s2 := s1.make (m := .list ((vs.drop (lo.elim 0 (clipAt vs.length))).take (hi.elim vs.length (clipAt vs.length) - lo.elim 0 (clipAt vs.length)))) { cls := .type "list", data := .seq (slicePick ws lo hi none) } (fun h' e => ⟨_, 0, e, by rw [e5]; exact (r.drop _).take _⟩)
  exact hq _ _ _ _ _ s.toks (.refl _) s2 (mk_raw _) (h _)
end
theorem join1 (s x : Str) : Txt.join s [x] = x := rfl
section
variable {prog : Program} {w : World} {B : HF} {mg mb : Str → Option Value}
theorem con_del (T : TopOk B mg mb) (P : Pats B) (C : ClsOk B) {x dx l : Addr} {ox od : Obj} {ps : List (Str × Str)} {nm : Str} (hio : InsOk x dx l ox od) (hn : Plain (Txt.lower nm)) (hps : HOk ps) {mu : Mu} {i j k : Nat}
    (hi : mu[i]? = some (x, .ob ox)) (hj : mu[j]? = some (dx, .ob od)) (hk : mu[k]? = some (l, .list (ps.map pairT))) :
    Con prog w B 2 (.ref 169) [.raw (.ref x), .str nm] [] mu fun v mu' => mu' = mu.set k (l, .list ((ps.filter fun p => !hasN (Txt.lower nm) p).map pairT)) := by
  refine fn_con T C.m169.toT ["self"] ["self", "name"] (ab := [("self", .raw (.ref x)), ("name", .str nm)]) (fun pm => FnOk.of) (fun pm => Binds.two (fun _ _ => rfl)) rfl (by decide +kernel) fun pm A fit L => ?_
  refine xs_cons ?_
  repeat tb_start
  refine ev_imethK C 150 rfl C.m150.isFn lk_conv (by decide) ?_ rfl rfl rfl
  repeat tb_start
  refine i2_3 x l rfl (HdrAt.mu hio hi hj) ?_
  refine m_lower ?_ ⟨rfl, rfl, rfl⟩
  repeat tb_start
  refine ⟨hasT_str, ?_⟩
  repeat tb_start
  refine c_lower (not_long hn.1) ?_
  repeat tb_start
  refine Con.callW (m := 1) ((con_conv T P C hn).mono ?_) (Nat.le_refl 1)
  refine q0_2 ?_
  repeat tb_start
  refine x_asgwhole ?_ rfl
  refine ev_comp [("name", L + 1)] ?_ (fun _ => rfl) rfl rfl (by decide +kernel)
  refine ev_headers C ?_ rfl
  repeat tb_start
  refine i2_3 x l rfl (HdrAt.mu hio hi hj) ?_
  have hlen : ∀ n, ((ps.take n).filter fun p => !hasN (Txt.lower nm) p).length ≤ 1000 := fun n => by
    have := List.length_filter_le (fun p => !hasN (Txt.lower nm) p) (ps.take n)
    have h1 := hps.1
    have : (ps.take n).length ≤ ps.length := by rw [List.length_take]; lia
    lia
  let JJ : List AV → Prop := fun out => out = ((ps.take (ps.map pairT).length).filter fun p => !hasN (Txt.lower nm) p).map pairT
  refine ⟨JJ, ⟨⟨_, _, ["kv"], [("name", .str (Txt.lower nm))], ⟨rfl, by decide +kernel, by decide +kernel, by decide +kernel, by decide, by simp; decide +kernel⟩, walk_mu (List.mem_of_getElem? hk), ⟨⟨0, L + 1, rfl, rfl, rfl⟩, True.intro⟩, fun D Cc => ?_⟩⟩, ?_⟩
  · refine loop1if (J := fun i out => out = ((ps.take i).filter fun p => !hasN (Txt.lower nm) p).map pairT) (fun out => List.mem_cons_of_mem _ (List.mem_of_getElem? hk)) rfl ?_
    rintro i v out hv rfl
    rw [List.getElem?_map] at hv
    cases e : ps[i]? with
    | none => rw [e] at hv; cases hv
    | some p =>
      rw [e] at hv
      cases hv
      have hpp := hps.2 p (List.mem_of_getElem? e)
      have htake : ps.take (i + 1) = ps.take i ++ [p] := by rw [List.take_add_one, e]; rfl
      repeat tb_start
      refine m_lower ?_ ⟨rfl, rfl, rfl⟩
      repeat tb_start
      refine s_tup (j := 0) rfl rfl ?_
      repeat tb_start
      refine ⟨hasT_str, ?_⟩
      repeat tb_start
      refine c_lower (not_long hpp) ?_
      repeat tb_start
      refine ite_both (fun hc => ?_) fun hc => ?_
      · repeat tb_start
        refine ⟨_, rfl, by rw [List.length_map, sizeLine_eq]; have := hlen i; lia, _, Le.vars [false], ?_⟩
        refine rwl htake ?_
        refine rwl (List.filter_append _ _) ?_
        refine rwl List.map_append ?_
        have : List.filter (fun p => !hasN (Txt.lower nm) p) [p] = [p] := by
          rw [List.filter_cons, if_pos (show (!hasN (Txt.lower nm) p) = true from hc)]; rfl
        rw [this]; rfl
      · refine ⟨_, Le.vars [false], ?_⟩
        refine rwl htake ?_
        refine rwl (List.filter_append _ _) ?_
        refine rwl List.map_append ?_
        have : List.filter (fun p => !hasN (Txt.lower nm) p) [p] = [] := by
          rw [List.filter_cons, if_neg (show ¬ (!hasN (Txt.lower nm) p) = true from ne_true_of_eq_false hc)]; rfl
        rw [this]; simp
  · rintro D out rfl
    refine ev_headers C ?_ rfl
    repeat tb_start
    refine i2_3 x l rfl (HdrAt.mu (i := i + 1) (j := j + 1) hio hi hj) ?_
    refine i4_5 (k + 1) l _ _ rfl hk (LstAt.mu (i := 0) rfl) ?_ ?_
    · simp only [List.length_map, sizeLine_eq]
      have := hlen ps.length
      have := hps.1
      lia
    refine then_next (Tri.le (Le.skip 1) ?_)
    repeat tb_start
    refine rwl (List.length_map _) ?_
    refine rwl List.take_length ?_
    rfl

theorem con_get (T : TopOk B mg mb) (P : Pats B) (C : ClsOk B) {x dx l : Addr} {ox od : Obj} {ps : List (Str × Str)} {nm : Str} (hio : InsOk x dx l ox od) (hn : Plain (Txt.lower nm)) (hps : HOk ps) {mu : Mu} {i j k : Nat}
    (hi : mu[i]? = some (x, .ob ox)) (hj : mu[j]? = some (dx, .ob od)) (hk : mu[k]? = some (l, .list (ps.map pairT))) :
    Con prog w B 2 (.ref 196) [.raw (.ref x), .str nm] [] mu fun v mu' => v = (match ps.find? (hasN (Txt.lower nm)) with | some p => .str p.2 | none => .none) ∧ mu' = mu := by
  refine fn_con T C.m196.toT ["self", "name", "default", "k", "v"] ["self", "name", "default"] (ab := [("self", .raw (.ref x)), ("name", .str nm), ("default", .none)]) (fun pm => FnOk.of) (fun pm => Binds.dflt3 C.d189 (fun _ _ => ⟨_, rfl, rfl⟩)) rfl (by decide +kernel) fun pm A fit L => ?_
  refine xs_cons ?_
  repeat tb_start
  refine ev_imethK C 150 rfl C.m150.isFn lk_conv (by decide) ?_ rfl rfl rfl
  repeat tb_start
  refine i2_3 x l rfl (HdrAt.mu hio hi hj) ?_
  refine m_lower ?_ ⟨rfl, rfl, rfl⟩
  repeat tb_start
  refine ⟨hasT_str, ?_⟩
  repeat tb_start
  refine c_lower (not_long hn.1) ?_
  repeat tb_start
  refine Con.callW (m := 1) ((con_conv T P C hn).mono ?_) (Nat.le_refl 1)
  rintro v m ⟨rfl, rfl⟩
  repeat tb_start
  refine x_for ?_
  refine ev_headers C ?_ rfl
  repeat tb_start
  refine i2_3 x l rfl (HdrAt.mu hio hi hj) ?_
  let JJ : Nat → S → Prop := fun i σ => (ps.take i).find? (hasN (Txt.lower nm)) = none ∧ ∃ a b : Option AV, σ = ⟨[some (.raw (.ref x)), some (.str (Txt.lower nm)), some .none, a, b], [], m⟩
  refine ⟨_, _, walk_mu (List.mem_of_getElem? hk), JJ, ?_, ⟨by simp, none, none, rfl⟩, ?_, ?_⟩
  · rintro i σ ⟨_, a, b, rfl⟩
    exact List.mem_of_getElem? hk
  · rintro i v σ hv ⟨hno, a, b, rfl⟩
    rw [List.getElem?_map] at hv
    cases e : ps[i]? with
    | none => rw [e] at hv; cases hv
    | some p =>
      rw [e] at hv
      cases hv
      have hpp := hps.2 p (List.mem_of_getElem? e)
      have htake : ps.take (i + 1) = ps.take i ++ [p] := by rw [List.take_add_one, e]; rfl
      refine asg_tup ?_ rfl (fun _ => rfl)
      repeat tb_start
      refine m_lower ?_ ⟨rfl, rfl, rfl⟩
      repeat tb_start
      refine ⟨hasT_str, ?_⟩
      repeat tb_start
      refine c_lower (not_long hpp) ?_
      repeat tb_start
      refine ite_both (fun hc => ?_) fun hc => ?_
      · repeat tb_start
        refine ⟨?_, rfl⟩
        have : ps.find? (hasN (Txt.lower nm)) = some p := by
          have e1 : ps = ps.take (i + 1) ++ ps.drop (i + 1) := (List.take_append_drop _ _).symm
          refine rwl e1 ?_
          refine rwl htake ?_
          refine rwl List.find?_append ?_
          refine rwl List.find?_append ?_
          refine rwl hno ?_
          refine rwl (List.find?_cons_of_pos (show hasN (Txt.lower nm) p = true from hc)) ?_
          rfl
        rw [this]; rfl
      · repeat tb_start
        refine ⟨_, Le.refl _, ?_, _, _, rfl⟩
        refine rwl htake ?_
        refine rwl List.find?_append ?_
        refine rwl hno ?_
        refine rwl (List.find?_cons_of_neg (show ¬ hasN (Txt.lower nm) p = true from ne_true_of_eq_false hc)) ?_
        rfl
  · rintro σ ⟨hno, a, b, rfl⟩
    rw [List.length_map, List.take_length] at hno
    repeat tb_start
    refine rwl hno ?_
    exact ⟨rfl, rfl⟩

theorem con_items (T : TopOk B mg mb) (P : Pats B) (C : ClsOk B) {x dx l : Addr} {ox od : Obj} {ps : List (Str × Str)} (hio : InsOk x dx l ox od) (hps : HOk ps) {mu : Mu} {i j k : Nat}
    (hi : mu[i]? = some (x, .ob ox)) (hj : mu[j]? = some (dx, .ob od)) (hk : mu[k]? = some (l, .list (ps.map pairT))) :
    Con prog w B 1 (.ref 213) [.raw (.ref x)] [] mu fun v mu' => ∃ D, v = .raw (.ref D) ∧ mu' = (D, .list (ps.map pairT)) :: mu := by
  refine fn_con T C.m213.toT ["self"] ["self"] (ab := [("self", .raw (.ref x))]) (fun pm => FnOk.of) (fun pm => Binds.one (fun _ => rfl)) rfl (by decide +kernel) fun pm A fit L => ?_
  refine xs_cons ?_
  refine x_ret ?_
  refine ev_subsl ?_
  refine ev_headers C ?_ rfl
  repeat tb_start
  refine i2_3 x l rfl (HdrAt.mu hio hi hj) ?_
  repeat tb_start
  refine slT_listM (LstAt.mu hk) (by rw [List.length_map, sizeLine_eq]; have := hps.1; lia) fun D => ?_
  repeat tb_start
  refine ⟨D, rfl, ?_⟩
  show (D, MO.list (((ps.map pairT).drop 0).take ((ps.map pairT).length - 0))) :: mu = _
  rw [List.drop_zero, Nat.sub_zero, List.take_length]
end
section
variable {prog : Program} {w : World} {B : HF} {mg mb : Str → Option Value}
theorem con_add (T : TopOk B mg mb) (P : Pats B) (C : ClsOk B) {x dx l : Addr} {ox od : Obj} {ps : List (Str × Str)} {nm vl : Str} (hio : InsOk x dx l ox od) (hn : Plain nm) (hv : Plain vl) (hps : HOk ps) {mu : Mu} {i j k : Nat}
    (hi : mu[i]? = some (x, .ob ox)) (hj : mu[j]? = some (dx, .ob od)) (hk : mu[k]? = some (l, .list (ps.map pairT))) :
    Con prog w B 2 (.ref 246) [.raw (.ref x), .str nm, .str vl] [] mu fun v mu' => v = .none ∧ mu' = mu.set k (l, .list ((ps ++ [(nm, vl)]).map pairT)) := by
  refine fn_conD T C.m246.toT ["self", "_name", "_value", "_params", "parts", "k", "v"] ["self", "_name", "_value", "_params"] (ab := fun d => [("self", .raw (.ref x)), ("_name", .str nm), ("_value", .str vl), ("_params", .raw (.ref d))]) (fun pm => FnOk.of) (fun pm => Binds.kwarg (fun _ _ _ => rfl)) (fun _ => rfl) (by decide +kernel) fun d pm A fit L => ?_
  refine xs_cons ?_
  repeat tb_start
  refine ev_list ?_
  repeat tb_start
  refine ⟨by decide, fun a => ?_⟩
  repeat tb_start
  refine cmp_isnotN True.intro ?_
  repeat tb_start
  refine ev_imethK C 150 rfl C.m150.isFn lk_conv (by decide) ?_ rfl rfl rfl
  repeat tb_start
  refine i2_3 x l rfl (HdrAt.mu (i := i + 2) (j := j + 2) hio hi hj) ?_
  repeat tb_start
  refine Con.callW (m := 1) ((con_conv T P C hv).mono ?_) (Nat.le_refl 1)
  refine q0_2 ?_
  repeat tb_start
  refine m_append ?_ ⟨rfl, rfl, rfl⟩
  repeat tb_start
  refine ⟨hasT_mu (List.mem_of_getElem? (i := 0) rfl), ?_⟩
  repeat tb_start
  refine c_append 0 rfl (by decide) ?_
  repeat tb_start
  refine x_for ?_
  refine m_items ?_ ⟨rfl, rfl, rfl⟩
  repeat tb_start
  refine ⟨?_, ?_⟩
  · intro H s st u hu
    cases vr_raw hu
    have e : s.heap.get? d = some dict0 := (st.m.own (d, .ob dict0) (List.mem_of_getElem? (i := 1) rfl)).2
    exact ⟨⟨_, e, rfl⟩, fun b q => by cases q; exact ⟨_, e, rfl⟩⟩
  repeat tb_start
  refine c_items0 (i := 1) rfl C.sm ?_
  let JJ : Nat → S → Prop := fun i σ => σ = ⟨[some (.raw (.ref x)), some (.str nm), some (.str vl), some (.raw (.ref d)), some (.raw (.ref a)), none, none], [], (a, .list [.str vl]) :: (d, .ob dict0) :: mu⟩
  refine ⟨[], _, walk_items0 (List.mem_of_getElem? (i := 1) rfl), JJ, ?_, rfl, ?_, ?_⟩
  · rintro i σ rfl
    exact List.mem_of_getElem? (i := 1) rfl
  · intro i v σ hv; cases hv
  · rintro σ rfl
    repeat tb_start
    refine m_append ?_ ⟨rfl, rfl, rfl⟩
    refine ev_headers C ?_ rfl
    repeat tb_start
    refine i2_3 x l rfl (HdrAt.mu (i := i + 2) (j := j + 2) hio hi hj) ?_
    refine ⟨hasT_mu (List.mem_of_getElem? (i := k + 2) hk), ?_⟩
    refine evl_cons ?_ rfl
    refine ev_tuple ?_
    refine evl_cons ?_ rfl
    refine ev_imethK C 150 rfl C.m150.isFn lk_conv (by decide) ?_ rfl rfl rfl
    repeat tb_start
    refine i2_3 x l rfl (HdrAt.mu (i := i + 2) (j := j + 2) hio hi hj) ?_
    repeat tb_start
    refine Con.callW (m := 1) ((con_conv T P C hn).mono ?_) (Nat.le_refl 1)
    refine q0_2 ?_
    refine evl_cons ?_ rfl
    refine m_join ?_ ⟨rfl, rfl, rfl⟩
    repeat tb_start
    refine ⟨hasT_str, ?_⟩
    repeat tb_start
    refine c_join (ys := [vl]) (LstAt.mu (i := 0) rfl) ?_ ?_
    · have h1 : vl.length ≤ 1000 := hv.1
      have h2 : ("; " : Str).length = 2 := by decide
      refine rwl h2 ?_
      simp
      lia
    refine rwl (join1 _ _) ?_
    repeat tb_start
    refine ⟨by rw [sizeLine_eq]; exact Nat.le_of_ble_eq_true rfl, ?_⟩
    repeat tb_start
    refine c_append (k + 2) hk (by rw [List.length_map, sizeLine_eq]; have := hps.1; lia) ?_
    refine then_next (Tri.le (Le.skip 2) ?_)
    repeat tb_start
    refine ⟨rfl, ?_⟩
    refine rwl List.map_append ?_
    rfl
end
end

section
open PySem PySem.P PyProof.Rows
theorem St.table {B H : HF} {F : Frm} {σ : S} {h h' : Heap} {i : Nat} {P c' : Addr} {oc : Obj} {m m' : MO} (x : St B H F σ h) (hi : σ.mu[i]? = some (P, m)) (hs : Heap.ExtBut P h h') (hc : h.objs.size ≤ c') (hoc : h'.get? c' = some oc)
    (hm : m'.sat (H.put c' oc) P h') : HF.le H (H.put c' oc) ∧ St B (H.put c' oc) F (σ.putM i P m') h' := by
  have hPm : (P, m) ∈ σ.mu := List.mem_of_getElem? hi
  have hPn := (x.m.own _ hPm).1
  have hPlt : P < h.objs.size := x.m.lt _ hPm
  have hcn : H c' = none := by
    cases e : H c' with
    | none => rfl
    | some o => exact absurd (Heap.lt_size (x.m.keep _ _ e)) (Nat.not_lt.mpr hc)
  have le : HF.le H (H.put c' oc) := HF.le_put hcn
  have non : ∀ b, b < h.objs.size → H b = none → H.put c' oc b = none := fun b hb e => by
    rw [HF.put_ne H oc (Nat.ne_of_lt (Nat.lt_of_lt_of_le hb hc))]; exact e
  have ownk : ∀ b ∈ F.own, ∀ o, h.get? b = some o → h'.get? b = some o := fun b hb o e => hs b o (x.own_mu b hb _ hPm).symm e
  have emap : (σ.putM i P m').mu.map (·.1) = σ.mu.map (·.1) := by
    show (σ.mu.set i (P, m')).map (·.1) = _
    refine rwl List.map_set ?_
    apply List.ext_getElem?
    intro j
    by_cases e : j = i
    · subst e
      have hl := (List.getElem?_eq_some_iff.mp hi).1
      rw [List.getElem?_set_self (by simpa using hl), List.getElem?_map, hi]; rfl
    · rw [List.getElem?_set_ne (fun z => e z.symm)]
  refine ⟨le, ⟨⟨x.m.base.trans le, fun b o e => ?_, fun p hp => ?_, by rw [emap]; exact x.m.nd⟩, non _ (x.own_lt _ (.head _)) x.new, ?_, ?_, by rw [emap]; exact x.nd, ?_, x.lenv, x.lenc⟩⟩
  · by_cases z : b = c'
    · subst z; rw [HF.put_at] at e; cases e; exact hoc
    · rw [HF.put_ne H oc z] at e
      exact hs b o (fun q => by rw [q, hPn] at e; cases e) (x.m.keep b o e)
  · refine e1_1 (List.getElem?_of_mem hp) ?_
    rintro j hj
    have hj' : (σ.mu.set i (P, m'))[j]? = some p := hj
    by_cases e : j = i
    · subst e
      rw [List.getElem?_set_self (List.getElem?_eq_some_iff.mp hi).1] at hj'
      cases hj'
      exact ⟨non _ hPlt hPn, hm⟩
    · rw [List.getElem?_set_ne (fun z => e z.symm)] at hj'
      have hpm := List.mem_of_getElem? hj'
      refine e0_2 (x.m.own p hpm) ?_
      rintro q r
      refine e1_1 r.get ?_
      rintro o eo
      have hne : p.1 ≠ P := fun z => e (nodup_idx (l := σ.mu.map (·.1)) x.m.nd (x := P) (by rw [List.getElem?_map, hj']; simp [z]) (by rw [List.getElem?_map, hi]; rfl))
      exact ⟨non _ (x.m.lt p hpm) q, (r.mono le).at ((hs _ _ hne eo).trans eo.symm)⟩
  · refine e1_2 x.ns ?_
    rintro mm ⟨o, es, ep, e, r⟩ hv
    refine ⟨mm, ⟨o, es, ep, ownk _ (.head _) _ e, r⟩, fun i y v h1 h2 => ?_⟩
    refine e1_2 (hv i y v h1 h2) ?_
    rintro u e1 e2
    exact ⟨u, e1, e2.mono le⟩
  · intro i y c v h1 h2
    obtain ⟨q, u, ⟨o, e, r⟩, t⟩ := x.cell i y c v h1 h2
    have hm : c ∈ F.own := List.mem_cons_of_mem _ (List.mem_map.mpr ⟨(y, c), List.mem_of_getElem? h1, rfl⟩)
    refine ⟨non _ (x.own_lt _ hm) q, u, ⟨o, ownk c hm _ e, r⟩, fun a ea => ?_⟩
    refine e1_2 (t a ea) ?_
    rintro b e1 e2
    exact ⟨b, e1, e2.mono le⟩
  · intro p hp
    refine e3_4 (x.fr p hp) ?_
    rintro c o' u h1 h2 h3 h4
    exact i3_4 c o' u h1 (le _ _ h2) h3 (h4.mono le)

theorem putM_same {σ : S} {i : Nat} {a : Addr} {m : MO} (hi : σ.mu[i]? = some (a, m)) : σ.putM i a m = σ := by
  have : σ.mu.set i (a, m) = σ.mu := by
    apply List.ext_getElem?
    intro j
    by_cases e : j = i
    · subst e
      rw [List.getElem?_set_self (List.getElem?_eq_some_iff.mp hi).1, hi]
    · rw [List.getElem?_set_ne (fun z => e z.symm)]
  unfold S.putM
  rw [this]

section
variable {K : Cx} {σ : S} {Post : AV → S → Prop} {PF : AF → S → Prop} {PB : Bool → S → Prop} {PU : Unit → S → Prop}
theorem x_def (T : TopOk K.B K.mg K.mb) {name q : Str} {params : Arguments} {body : List Stmt} {scope : Scope} {pos : Pos} {c P : Addr} {i : Nat} {clos : List (Str × Addr)} (hc : K.F.env.code = .ref c) (hcd : ∀ h : Heap, Sub K.B h → PySem.W.CodeHd h c P)
    (hi : σ.mu[i]? = some (P, .tab pos.line pos.col q)) (hq : qualnameIn K.F.env name name = q) (hcl : closureFor scope K.F.env = pure clos) (hd0 : params.defaults = []) (hk0 : params.kw_defaults = []) (ha : annTrees params none K.F.env = [])
    (h : ∀ doc pm c' ctv, Sto K name (.fix (PySem.W.fnMade name q params body scope clos doc pm c' ctv)) σ fun _ σ1 => PF .next σ1) : X K (.FunctionDef name params body [] none [] scope none name pos) σ PF := fun H s st Q E hQ => by
  refine PySem.W.nestDef_K hd0 hk0 ha ?_
  refine rwl hq ?_
  have sub := K.sub st
  have hPm := List.mem_of_getElem? hi
  have hPn := (st.m.own _ hPm).1
  refine e2_7 T.bt ?_
  rintro bm ob b1 b2 b3 b4 b5 b6 b7
  have hbP : bm ≠ P := fun z => by
    have := st.m.base _ _ b4
    rw [z, hPn] at this; cases this
  have hgs := K.gr.g _ sub
  have hgP : mainGlobals ≠ P := fun z => by
    refine e3_3 hgs ?_
    clear hgs
    rintro o es ep e hd _
    rcases (st.m.own _ hPm).2 with e2 | ⟨_, _, e2, _⟩ <;> (rw [z, e2] at e; cases e; cases hd)
  have hb : s.heap.BuiltinsAt K.mg P := ⟨bm, ob, b1, b2, b3, hbP, sub _ _ b4, b5, b6, b7⟩
  rcases (st.m.own _ hPm).2 with e | ⟨c', oc, e, h1, h2⟩
  · refine PySem.W.makeFunction_K (mg := K.mg) hcl K.ok.glob hgs hc (hcd _ sub) e (ps := #[]) True.intro rfl hgP hb fun c' ctv doc h' tk hx hge hlt hrec htb => ?_
    refine e4_4 hrec ?_
    clear hrec
    rintro c2 oc vs t e2 hoc hd hv
    cases e2
    refine e0_2 (st.table (m' := .tab pos.line pos.col q) hi hx hge hoc (.inr ⟨c', oc, htb, HF.put_at _ _ _, vs, t, hd, hv⟩)) ?_
    rintro le1 st1
    rw [putM_same hi] at st1
    refine e0_2 (st1.alloc (PySem.W.fnMade name q params body scope clos doc ((K.mg "__name__").getD .none) c' ctv)) ?_
    rintro le2 st2
    refine (h doc _ c' ctv).at (vs := [.ref h'.objs.size]) (s := { s with heap := h'.push _, toks := tk }) st2 (VRs.cons (mk_fixF (HF.put_at _ _ _) (.inr ⟨_, rfl⟩) fun fd c e1 e2 => ?_) VRs.nil) fun _ _ H3 σ3 h3 t3 le3 s3 _ hp => hQ .next .next H3 σ3 h3 t3 (le1.trans (le2.trans le3)) s3 rfl hp
    cases e1
    cases e2
    exact ⟨oc, le2 _ _ (HF.put_at _ _ _), vs, t, hd, hv⟩
  · refine PySem.W.makeFunction_hit (mg := K.mg) (cv := .ref c') hcl K.ok.glob hgs hc (hcd _ sub) e ?_ ?_ hb fun ctv doc h' tk hk hsz => ?_
    · exact True.intro
    · simp [codeAmong, rawInt]
    have st1 := st.kept hk
    refine e0_2 (st1.alloc (PySem.W.fnMade name q params body scope clos doc ((K.mg "__name__").getD .none) c' ctv)) ?_
    rintro le2 st2
    refine (h doc _ c' ctv).at (vs := [.ref h'.objs.size]) (s := { s with heap := h'.push _, toks := tk }) st2 (VRs.cons (mk_fixF (HF.put_at _ _ _) (.inr ⟨_, rfl⟩) fun fd c e1 e2 => ?_) VRs.nil) fun _ _ H3 σ3 h3 t3 le3 s3 _ hp => hQ .next .next H3 σ3 h3 t3 (le2.trans le3) s3 rfl hp
    cases e1
    cases e2
    exact ⟨oc, le2 _ _ h1, h2⟩
end

structure InOk (fd : FuncData) (ns : List Str) (frs : List (Str × AV)) : Prop where
  co : fd.scope.isCoroutine = false
  gen : fd.scope.isGenerator = false
  kind : fd.scope.kind = .function
  nocell : ∀ x ∈ fd.scope.names, x.2 ≠ .cell
  loc : ∀ x ∈ ns, fd.scope.names.lookup x = some .local
  ns : ns.Nodup
  free : ∀ x ∈ frs.map (·.1), fd.scope.names.lookup x = some .free ∧ (x == ("__classdict__" : Str)) = false
  glob : fd.globals = mainGlobals
  blt : fd.builtins = builtinsNs
noncomputable def innF (fd : FuncData) (ns : List Str) (frs : List (Str × AV)) (a L : Addr) : Frm := { env := callEnv fd L a, ns := ns, cs := [], fr := frs }
theorem InOk.frm {fd : FuncData} {ns : List Str} {frs : List (Str × AV)} (x : InOk fd ns frs) (a L : Addr) : (innF fd ns frs a L).Ok :=
  ⟨x.kind, fun y hy => x.loc y hy, x.ns, fun p hp => (by cases hp), List.nodup_nil, fun p hp => by
    have := x.free p.1 (List.mem_map.mpr ⟨p, hp, rfl⟩)
    exact ⟨.inl this.1, this.2⟩, x.glob, x.blt⟩

theorem Con.of_inner {prog : Program} {w : World} {B : HF} {mg mb : Str → Option Value} (gr : Gr B mg mb) {n : Nat} {a : Addr} {o : Obj} {fd : FuncData} {body : List Stmt} {ns : List Str} {frs : List (Str × AV)} {as : List AV} {kw : List (Str × AV)} {mu mu1 : Mu} {ab : List (Str × AV)} {Post : AV → Mu → Prop}
    (ho : B a = some o) (hd : o.data = .func fd) (hcd : HasCode B fd.code fd.qualname) (hbody : fd.body = .stmts body) (ok : InOk fd ns frs)
    (hbind : Binds prog w B fd as kw mu ab mu1) (hnd : (ab.map (·.1)).Nodup) (hk : ∀ p ∈ ab, fd.scope.names.lookup p.1 = some .local)
    (hfr : ∀ p ∈ frs, ∃ c oc u, fd.closure.lookup p.1 = some c ∧ B c = some oc ∧ oc.data = .cell (some u) ∧ VR B p.2 u)
    (h : ∀ A (fit : Fit A n) L, Xs { prog := prog, w := w, A := A, B := B, F := innF fd ns frs a L, ok := ok.frm a L, mg := mg, mb := mb, gr := gr, n := n, fit := fit } body ⟨ns.map (fun x => ab.lookup x), [], mu1⟩ fun f σ => Post f.val σ.mu) :
    Con prog w B (n + 1) (.ref a) as kw mu Post := by
  intro A fit H s hs vs hv ks hks Q E hq
  have sub : Sub B s.heap := fun b o e => hs.keep b o (hs.base b o e)
  refine wpAny_call ?_
  refine codeAny_call_function (by have := fit.dp; lia) (sub a o ho) hd ok.co ok.gen hbody (hcd _ sub) ?_
  refine hbind _ H s hs vs hv ks hks _ _ fun bs H1 h1 t1 le1 s1 rb => ?_
  have sub1 : Sub B h1 := fun b o e => s1.keep b o (s1.base b o e)
  have names := rb.names
  refine wpAny_newFunctionEnv ok.nocell (fun x hx => ?_) (fun h₀ hns₀ hsb₀ => ?_) ok.kind
  · have : x.1 ∈ bs.map (·.1) := List.mem_map_of_mem hx
    rw [names] at this
    refine e1_2 (List.mem_map.mp this) ?_
    rintro p hp e
    rw [← e]; exact hk p hp
  dsimp only at hns₀ hsb₀ ⊢
  have keep : Kept h1 h₀ := fun b o e => hsb₀.extBut b o (Nat.ne_of_lt (Heap.lt_size e)) (Heap.get?_push_of_some _ e)
  have sub0 : Sub B h₀ := fun b o e => keep b o (sub1 b o e)
  refine ⟨gr.lim _ sub0, codeAny_func ?_⟩
  have s0 := s1.kept keep
  have hLn : H1 h1.objs.size = none := s1.none_size
  have bnd : (bs.reverse.map (·.1)).Nodup := by
    refine rwl List.map_reverse ?_
    refine rwl names ?_
    exact (List.pairwise_reverse.mpr (hnd.imp fun h => h.symm))
  have st : St B H1 (innF fd ns frs a h1.objs.size) ⟨ns.map (fun x => ab.lookup x), [], mu1⟩ h₀ := by
    refine ⟨s0, hLn, ⟨_, hns₀, fun i x v e1 e2 => ?_⟩, fun i y c v e1 e2 => ?_, ?_, fun p hp => ?_, by simp [innF], rfl⟩
    · have e2' : (ns.map fun x => ab.lookup x)[i]? = some (some v) := e2
      have e1' : ns[i]? = some x := e1
      rw [List.getElem?_map, e1'] at e2'
      have e3 : ab.lookup x = some v := by simpa using e2'
      refine e1_2 (rb.mem e3) ?_
      rintro u hm k
      exact ⟨u, lookup_mem (p := (x, u)) bnd (List.mem_reverse.mpr hm), k⟩
    · have : ([] : List (Str × Addr))[i]? = some (y, c) := e1
      simp at this
    · show (([h1.objs.size] : List Addr) ++ mu1.map (·.1)).Nodup
      refine List.nodup_cons.mpr ⟨fun hm => ?_, s1.nd⟩
      refine e1_2 (List.mem_map.mp hm) ?_
      rintro p hp e
      have := s1.lt p hp
      rw [e] at this; exact Nat.lt_irrefl _ this
    · refine e3_4 (hfr p hp) ?_
      rintro c oc u e1 e2 e3 e4
      exact i3_4 c oc u e1 (s1.base _ _ e2) e3 (e4.mono s1.base)
  refine (h (A.deeper _) (fit.deeper _) h1.objs.size).run st fun f g H3 σ3 h3 t3 le3 s3 rf hp => ?_
  cases f with
  | ret v =>
    refine e1_2 (show ∃ u, g = .ret u ∧ VR H3 v u from rf) ?_
    rintro u rfl k
    exact hq v u H3 σ3.mu h3 t3 (le1.trans le3) s3.m k hp
  | next => cases (show g = .next from rf); exact hq .none .none H3 σ3.mu h3 t3 (le1.trans le3) s3.m mk_none hp
  | brk => cases (show g = .brk from rf); exact hq .none .none H3 σ3.mu h3 t3 (le1.trans le3) s3.m mk_none hp
  | cont => cases (show g = .cont from rf); exact hq .none .none H3 σ3.mu h3 t3 (le1.trans le3) s3.m mk_none hp

section
variable {K : Cx} {σ : S} {Post : AV → S → Prop} {PF : AF → S → Prop} {PB : Bool → S → Prop} {PU : Unit → S → Prop}
noncomputable def CallI (K : Cx) (oF : Obj) (vs : List AV) (σ : S) (Post : AV → S → Prop) : Prop :=
  ∀ (H : HF) (s : Shared), K.St H K.F σ s.heap → ∀ f, VR H (.fix oF) (.ref f) → ∃ m, m ≤ K.n ∧ Con K.prog K.w (H.plus K.F.own s.heap) m (.ref f) vs [] σ.mu fun v mu' => Post v { σ with mu := mu' }
theorem ev_callI {f : Str} {pf pos : Pos} {args : List Expr}
    (h : Ev K (.Name f pf) σ fun fv σ1 => ∃ oF fd, fv = .fix oF ∧ oF.data = .func fd ∧ EvL K args pos σ1 fun vs σ2 => CallI K oF vs σ2 Post) (hl : (backTo pos (starEach args K.F.env)).all (fun x => !x.1) = true := by rfl) :
    Ev K (.Call (.Name f pf) args [] pos) σ Post :=
  fun H s hs Q E hq => wpAny_Call_Name_kw (h.run hs fun fv u H1 σ1 h1 t1 le1 s1 ra hb => by
    refine e2_3 hb ?_
    clear hb
    rintro oF fd rfl hd hb
    refine e1_3 (vr_fix ra) ?_
    rintro a rfl ha _
    refine Calls.callWith_function (o := oF) (fd := fd) (evalArgs_any hl (hb.run (s := { s with heap := h1, toks := t1 }) s1 fun vs us H2 σ2 h2 t2 le2 s2 rv ho' => ⟨⟨s2.m.keep a oF (le2 _ _ ha), hd⟩, ?_⟩))
    refine e1_2 (ho' H2 { s with heap := h2, toks := t2 } s2 a (ra.mono le2)) ?_
    rintro m hm hc
    have hs' := St.hide s2
    refine hc K.A (K.fit.mono hm) _ { s with heap := h2, toks := t2 } ⟨.refl _, hs'.keep, hs'.own, hs'.nd⟩ us (rv.mono (HF.le_plus s2.own_none)) [] VRs.nil Q E fun b v H' mu' h' tk le x r p => ?_
    refine e0_4 (St.back s2 le ⟨hs'.base.trans le, x.keep, x.own, x.nd⟩) ?_
    rintro l1 s3 v1 _
    exact hq b v _ _ h' tk (le1.trans (le2.trans l1)) s3 (v1 _ _ r) p)
end
section
variable {K : Cx} {σ : S} {Post : AV → S → Prop} {PF : AF → S → Prop} {PB : Bool → S → Prop} {PU : Unit → S → Prop}
theorem c_divmod {a b : Int} (hb : b ≠ 0) (hs : b.natAbs.log2 < 9000) (h : Post (.tup [.int (a.fdiv b), .int (a.fmod b)]) σ) : CallK K (.builtin "divmod") [.int a, .int b] σ Post := fun H s st us hu Q E hq => by
  refine e2_3 hu.two ?_
  rintro u v rfl r1 r2
  refine e1_1 (vr_int r1) ?_
  rintro t rfl
  refine e1_1 (vr_int r2) ?_
  rintro t2 rfl
  refine divmod_int hb ?_ (.inl (PyProof.noPylong_of_log2 hs))
  refine e0_2 (st.alloc (tupO #[.int (a.fdiv b) s.toks, .int (a.fmod b) (s.toks + 1)])) ?_
  rintro le s2
  exact hq _ _ _ σ _ _ le s2 (mk_tup (HF.put_at _ _ _) (VRs.cons (mk_int _ _) (VRs.cons (mk_int _ _) VRs.nil))) h
theorem c_bits {a : Int} (h : Post (.int (Builtin.Int.intBits a : Nat)) σ) : CallK K (.builtin "int.bit_length") [.int a] σ Post :=
  callK_leaf (fun H s st us hu Q E hq => by
    refine e1_2 hu.one ?_
    rintro u rfl r
    refine e1_1 (vr_int r) ?_
    rintro t rfl
    exact call_int_bit_length (hq _ _ (mk_int _ _))) h

theorem x_while {test : Expr} {body orelse : List Stmt} {pos : Pos} (I : Nat → S → Prop) (n : Nat) (h0 : I n σ)
    (turn : ∀ n σ, I n σ → Tst K test σ fun b σ1 => if b = true then Xs K body σ1 (turn_ PF fun σ2 => ∃ m, m < n ∧ I m σ2) else Xs K orelse σ1 PF) : X K (.While test body orelse pos) σ PF := by
  intro H s hs Q E hq
  refine wpAny_While ?_
  refine codeAny_whileLoop (fun n s' => ∃ σ' H' h' tk, s' = { s with heap := h', toks := tk } ∧ K.St H' K.F σ' h' ∧ HF.le H H' ∧ I n σ') ?_ n ⟨σ, H, s.heap, s.toks, rfl, hs, .refl _, h0⟩
  rintro n s' hz0
  refine e4_4 hz0 ?_
  clear hz0
  rintro σ' H' h' tk rfl st le hI
  refine (turn n σ' hI).run (s := { s with heap := h', toks := tk }) st fun b b' H1 σ1 h1 t1 le1 s1 rb hb => ?_
  cases rb
  cases b with
  | false =>
    refine rwl (if_neg (by decide)) ?_
    exact (show Xs K orelse σ1 PF from hb).run (s := { s with heap := h1, toks := t1 }) s1 fun f g H2 σ2 h2 t2 le2 s2 rf hp => hq f g H2 σ2 h2 t2 (le.trans (le1.trans le2)) s2 rf hp
  | true =>
    refine rwl (if_pos rfl) ?_
    refine (show Xs K body σ1 _ from hb).run (s := { s with heap := h1, toks := t1 }) s1 fun f g H2 σ2 h2 t2 le2 s2 rf hp => ?_
    have again : (∃ m, m < n ∧ I m σ2) → ∃ m, m < n ∧ ∃ σ' H' h' tk, ({ s with heap := h2, toks := t2 } : Shared) = { s with heap := h', toks := tk } ∧ K.St H' K.F σ' h' ∧ HF.le H H' ∧ I m σ' := fun ⟨m, h1', h2'⟩ => ⟨m, h1', σ2, H2, h2, t2, rfl, s2, le.trans (le1.trans le2), h2'⟩
    cases f with
    | next => cases (show g = .next from rf); exact again hp
    | cont => cases (show g = .cont from rf); exact again hp
    | brk => cases (show g = .brk from rf); exact hq .next .next H2 σ2 h2 t2 (le.trans (le1.trans le2)) s2 rfl hp
    | ret v => obtain ⟨u, rfl, k⟩ := (show ∃ u, g = .ret u ∧ VR H2 v u from rf); exact hq (.ret v) (.ret u) H2 σ2 h2 t2 (le.trans (le1.trans le2)) s2 ⟨u, rfl, k⟩ hp

/- a list walked from its end -/
noncomputable def PRev (l : Addr) (n : Nat) (i : Nat) (o : Obj) : Prop := o.cls = .type "list_reverseiterator" ∧ o.data = .fields #[.ref l, rawInt ((n : Int) - 1 - i)]
theorem prev_ours {l : Addr} {n i : Nat} {o : Obj} (h : PRev l n i o) : NotOurs o :=
  ⟨⟨fun ws n e => (by rw [h.2] at e; cases e), (fun z => by
    rcases z with ⟨_, e⟩ | ⟨fd, e⟩
    · rcases e with e | e <;> (rw [h.1] at e; exact absurd (Value.type.inj e) (by decide))
    · rw [h.2] at e; cases e), fun q z => by obtain ⟨vs, t, e, e2⟩ := z; rw [h.2] at e; cases e; cases e2⟩, fun u e => by rw [h.2] at e; cases e⟩
theorem itr_rev {prog : Program} {w : World} {A : Around} {B H0 : HF} {items : List AV} (hh : A.handled = none) {l : Addr} {ok : Mu → Prop}
    (hl : ∀ (H : HF) (h : Heap) mu, ok mu → HF.le H0 H → StM B H mu h → ∃ ws n, h.get? l = some (lstO ws n) ∧ VRs H items ws.toList) : Itr prog w A B H0 (PRev l items.length) items.reverse ok where
  ours _ _ h := prev_ours h
  quiet _ _ h := ⟨_, h.1, by decide⟩
  next := fun i v a o H s mu hok le st ho hP hv Q E hq => by
    refine e2_2 (hl H s.heap mu hok le st) ?_
    rintro ws n e r
    have hi : i < items.length := by have := (List.getElem?_eq_some_iff.mp hv).1; simpa using this
    rw [List.getElem?_reverse hi] at hv
    refine e1_2 (r.get hv) ?_
    rintro u hu ru
    have hla : l ≠ a := fun z => by rw [z, ho] at e; cases e; have := hP.2; cases this
    have ei : ((items.length : Int) - 1 - i) = ((items.length - 1 - i : Nat) : Int) := by omega
    refine wpAny_pyNext_rev_item (l := l) (i := items.length - 1 - i) (items := ws) (x := u) ⟨o, ho, hP.1, by rw [hP.2, ei]⟩ ⟨_, e, rfl, n, rfl⟩ (by simpa using hu) fun h' hi' hs => ?_
    refine e1_3 hi' ?_
    clear hi'
    rintro o' ho' hc' hd'
    exact hq u h' s.toks o' ho' ⟨hc', by rw [hd', show ((items.length - 1 - i : Nat) : Int) - 1 = (items.length : Int) - 1 - ((i + 1 : Nat) : Int) by lia]⟩ hs ru
  self := fun i a o s ho hP Q E hq => by
    have hT : s.TypeIs (.ref a) "list_reverseiterator" := ⟨_, ho, hP.1⟩
    refine wpAny_pyIter_slot hT F.slot_lri_iter (wpAny_call_entry F.slot_lri_iter hT F.entry_lri_iter ?_ (F.args_lri_iter_1 _))
    show wpAny _ _ (ret (.ref a)) _ _ s
    exact wpAny_pure ⟨_, rfl, "list_reverseiterator", _, hT, F.slot_lri_next.lookup, hq⟩
  fin := fun a o H s mu hok le st ho hP Q E hq => by
    refine wpAny_pyNext_rev_end (l := l) hh ⟨o, ho, hP.1, ?_⟩ fun h' hs => hq h' s.toks hs
    rw [hP.2, List.length_reverse, show (items.length : Int) - 1 - (items.length : Int) = -1 by lia]

theorem x_forRev {target e : Expr} {body orelse : List Stmt} {p1 p2 pos : Pos} {f : Str} (h : Ev K (.Name f p1) σ fun fv σ1 => fv = .raw (.type "reversed") ∧ Ev K e σ1 fun v σ2 => ∃ (l : Addr) (i : Nat) (items : List AV), v = .raw (.ref l) ∧ σ2.mu[i]? = some (l, MO.list items) ∧
      ∃ I : Nat → S → Prop, (∀ i σ, I i σ → (l, MO.list items) ∈ σ.mu) ∧ I 0 σ2 ∧
      (∀ i v σ, items.reverse[i]? = some v → I i σ → Asg K target v σ fun _ σ3 => Xs K body σ3 (turn_ PF fun σ4 => ∃ σ5, Le σ4 σ5 ∧ I (i + 1) σ5)) ∧ ∀ σ, I items.length σ → Xs K orelse σ PF)
    (hst : starEach [e] K.F.env = [(false, eval e K.F.env)]) (hf : ∀ x, foldedSetIterable (.Call (.Name f p1) [e] [] p2) K.F.env x = pure x) : X K (.For target (.Call (.Name f p1) [e] [] p2) body orelse pos) σ PF := by
  intro H s hs Q E hq
  have hl : (backTo p2 (starEach [e] K.F.env)).all (fun x => !x.1) = true := by rw [hst]; rfl
  refine wpAny_For (wpAny_Call_Name_kw (h.run hs fun fv u H1 σ1 h1 t1 le1 s1 ra hb => ?_)) hf
  refine e0_2 hb ?_
  clear hb
  rintro rfl hb
  cases vr_raw ra
  refine PyProof.Rows.callWith_type (all_any hl) (evalArgs_any hl (PyProof.Rows.spliced_more (hb.run (s := { s with heap := h1, toks := t1 }) s1 fun v u H2 σ2 h2 t2 le2 s2 rv hp => PyProof.Rows.spliced_none ?_) hst))
  obtain ⟨l, i, items, rfl, hi, I, hok, h0, hturn, hend⟩ := hp
  cases vr_raw rv
  refine e2_2 (mu_get s2 hi) ?_
  rintro ws n el r
  have hsz : ws.size = items.length := by have := r.length; simpa using this
  show wpAny _ _ (PySem.call (.type "reversed") [.ref l]) _ _ _
  refine call_reversed_list (s := { s with heap := h2, toks := t2 }) (l := l) (items := ws) ⟨_, el, rfl, n, rfl⟩ ?_
  have s3 := s2.kept (Kept.push h2 (revObj l ((ws.size : Int) - 1)))
  have it : Itr K.prog K.w K.A K.B H2 (PRev l items.length) items.reverse (fun mu => (l, MO.list items) ∈ mu) := itr_rev K.fit.hd fun H' h' mu hmu le st' => by
    refine e2_2 ((st'.own _ hmu).2) ?_
    rintro ws n e r
    exact i2_2 ws n e r
  have hP0 : PRev l items.length 0 (revObj l ((ws.size : Int) - 1)) := ⟨rfl, by
    have e0 : (items.length : Int) - 1 = (items.length : Int) - 1 - ((0 : Nat) : Int) := by lia
    refine rwl hsz ?_
    exact congrArg (fun z => Data.fields #[.ref l, rawInt z]) e0⟩
  have hg : (h2.push (revObj l ((ws.size : Int) - 1))).get? h2.objs.size = some (revObj l ((ws.size : Int) - 1)) := Heap.get?_push_size _ rfl
  refine it.self 0 _ _ { s with heap := h2.push (revObj l ((ws.size : Int) - 1)), toks := t2 } hg hP0 _ _ ?_
  refine for_core (s := { s with heap := h2.push (revObj l ((ws.size : Int) - 1)), toks := t2 }) (I := I) it hok hturn (by rw [List.length_reverse]; exact hend) s3 s2.m.none_size (fun z => Nat.lt_irrefl _ (s2.own_lt _ z)) (fun p hp => Nat.ne_of_lt (s2.m.lt p hp)) hg hP0 h0 fun f g H5 σ5 h5 tk5 le5 st5 rf hp => ?_
  exact hq f g H5 σ5 h5 tk5 (le1.trans (le2.trans le5)) st5 rf hp

theorem x_asgsub {o i value : Expr} {pos' pos : Pos} (h : Ev K value σ fun v σ1 => Ev K o σ1 fun a σ2 => Ev K i σ2 fun b σ3 => SetI K a b v σ3 fun _ σ4 => PF .next σ4)
    (hs : swapsWith value (some (.Subscript o i pos')) pos.line K.F.env = pure false) : X K (.Assign [.Subscript o i pos'] value pos) σ PF := fun H s st Q E hq =>
  wpAny_Assign_Subscript (h.run st fun v u H1 σ1 h1 t1 le1 s1 rv hb => hb.run (s := { s with heap := h1, toks := t1 }) s1 fun a ua H2 σ2 h2 t2 le2 s2 ra hc => hc.run (s := { s with heap := h2, toks := t2 }) s2 fun b ub H3 σ3 h3 t3 le3 s3 rb hd =>
    hd.at (vs := [ua, ub, u]) (s := { s with heap := h3, toks := t3 }) s3 (VRs.cons (ra.mono le3) (VRs.cons rb (VRs.cons (rv.mono (le2.trans le3)) VRs.nil)) ) fun _ _ H4 σ4 h4 t4 le4 s4 _ hp => hq .next .next H4 σ4 h4 t4 (le1.trans (le2.trans (le3.trans le4))) s4 rfl hp) hs

theorem tru_list {a : AV} {vs : List AV} (hL : LstAt K σ a vs) (hn : vs.length < 2 ^ 62) (h : PB (!vs.isEmpty) σ) : Tru K a σ PB := fun H s st us hu Q E hq => by
  refine e1_2 hu.one ?_
  rintro u rfl r
  refine e3_3 (hL H s st u r) ?_
  rintro l ws n rfl e rv
  have hsz : ws.size = vs.length := by have := rv.length; simpa using this
  refine wpAny_truthy_list ⟨_, e, rfl, n, rfl⟩ (by rw [hsz]; lia) ?_
  have e2 : (!ws.isEmpty) = (!vs.isEmpty) := by
    rw [Bool.eq_iff_iff]
    cases vs with
    | nil => have : ws = #[] := Array.eq_empty_of_size_eq_zero hsz; subst this; simp
    | cons v r => simp; intro z; subst z; simp at hsz
  refine rwl e2 ?_
  exact hq _ _ H σ s.heap (s.toks + 1 + 1) (.refl _) st rfl h

theorem fold_rep1 (v : Value) : ∀ (n : Nat) (acc : Array Value), ((List.replicate n (#[v] : Array Value)).foldl (fun x1 x2 => x1 ++ x2) acc).toList = acc.toList ++ List.replicate n v
  | 0, acc => by simp
  | n + 1, acc => by
    refine rwl List.replicate_succ ?_
    refine rwl List.foldl_cons ?_
    refine rwl (fold_rep1 v n _) ?_
    simp [List.replicate_succ]
theorem vrs_rep {H : HF} {a : AV} {v : Value} (h : VR H a v) : ∀ n, VRs H (List.replicate n a) (List.replicate n v)
  | 0 => VRs.nil
  | n + 1 => by rw [List.replicate_succ, List.replicate_succ]; exact VRs.cons h (vrs_rep h n)
theorem mul_list0 {prog : Program} {w : World} {A : Around} {E : Value → Shared → Prop} {s : Shared} {l : Addr} {items : Array Value} {k : Nat} {x : Int} {u : Tok} {Q : Value → Shared → Prop}
    (hl : s.heap.get? l = some { cls := .type "list", dict := none, data := .seq items k, slots := #[] }) (hlo : -(2 ^ 63 : Int) ≤ x) (hhi : x < 2 ^ 63) (hsz : items.size * x.toNat ≤ 2 ^ 24)
    (h : Q (.ref s.heap.objs.size) { s with heap := s.heap.push { cls := .type "list", data := .seq (List.foldl (fun x1 x2 => x1 ++ x2) #[] (List.replicate (if items.isEmpty = true then 0 else x.toNat) items)) } }) :
    wpAny (model prog w) A (binaryOp .Mult (.ref l) (.int x u)) Q E s :=
  wpAny_binaryOp_repeat_ref (T := "list") (U := "int") (by decide) ⟨_, hl, rfl⟩ (fun s' => typeIs_int s' x u) noFill_list_mul F.fills_int_mul F.slot_int_rmul repeat_list F.slot_int_index.lookup
    (call_meets F.slot_int_rmul (typeIs_int s x u) F.entry_int_rmul (F.args_int_rmul_2 _ _) (int___rmul___int_list x u l items k)
      ⟨hl, rfl, ⟨_, hl, rfl⟩, call_meets F.slot_list_mul ⟨_, hl, rfl⟩ F.entry_list_mul (F.args_list_mul_2 _ _)
        (AutoListH.list___mul___list_int_3 l items k x u (by simp [Builtin.List.listFitsIndex]; lia) (by lia) (by simp [Builtin.List.listTooLong, sizeLine]; omega))
        ⟨hl, h⟩⟩)
theorem b_listrep {v : AV} {k : Nat} (hk : k ≤ 1000) (h : ∀ D, Post (.raw (.ref D)) { σ with mu := (D, .list (List.replicate k v)) :: σ.mu }) : Bin K .Mult (.lst [v]) (.int (k : Int)) σ Post := fun H s st us hu Q E hq => by
  refine e2_3 (VRs.two hu) ?_
  rintro x y rfl rx ry
  refine e3_3 (vr_lst rx) ?_
  rintro a ws n rfl ha rv
  refine e1_1 (vr_int ry) ?_
  rintro t rfl
  refine e2_3 rv.cons_inv ?_
  rintro u us' e1 r1 r2
  cases r2.nil_inv
  have hsz : ws.size = 1 := by rw [← Array.length_toList, e1]; rfl
  have hl := st.m.keep _ _ ha
  refine mul_list0 hl (by lia) (by lia) (by rw [hsz, Int.toNat_natCast]; lia) ?_
  have e3 : (List.foldl (fun x1 x2 => x1 ++ x2) #[] (List.replicate (if ws.isEmpty = true then 0 else (k : Int).toNat) ws)).toList = List.replicate k u := by
    have hw : ws = #[u] := by apply Array.toList_inj.mp; rw [e1]
    subst hw
    rw [fold_rep1]; simp
  generalize hL : (List.foldl (fun x1 x2 => x1 ++ x2) #[] (List.replicate (if ws.isEmpty = true then 0 else (k : Int).toNat) ws)) = L at e3 ⊢
  have s2 := st.make (m := .list (List.replicate k v)) { cls := .type "list", data := .seq L } (fun h' e => ⟨_, 0, e, by rw [e3]; exact vrs_rep r1 k⟩)
  exact hq _ _ _ _ _ s.toks (.refl _) s2 (mk_raw _) (h _)
end
/- bits -/
noncomputable def nb (n : Nat) : Nat := if n = 0 then 0 else n.log2 + 1
theorem nb_int (n : Nat) : Builtin.Int.intBits (n : Int) = nb n := by
  unfold Builtin.Int.intBits nb
  by_cases h : n = 0
  · subst h; rfl
  · rw [if_neg h, if_neg (by simpa using h)]; rfl
theorem nb_neg (n : Nat) : Builtin.Int.intBits (-(n : Int)) = nb n := by
  unfold Builtin.Int.intBits nb
  by_cases h : n = 0
  · subst h; rfl
  · rw [if_neg h, if_neg (by simpa using h), Int.natAbs_neg]; rfl
theorem nb_le {n k : Nat} (h : n < 2 ^ k) : nb n ≤ k := by
  unfold nb
  by_cases h0 : n = 0
  · rw [if_pos h0]; lia
  · rw [if_neg h0]
    have := (Nat.log2_lt h0).mpr h
    lia
theorem lt_nb (n : Nat) : n < 2 ^ nb n := by
  unfold nb
  by_cases h0 : n = 0
  · subst h0; simp
  · rw [if_neg h0]; exact Nat.lt_log2_self
theorem nb_pos {n : Nat} (h : 0 < n) : 0 < nb n ∧ 2 ^ (nb n - 1) ≤ n := by
  unfold nb
  rw [if_neg (by lia)]
  exact ⟨by lia, by rw [Nat.add_sub_cancel]; exact Nat.log2_self_le (by lia)⟩
theorem lt_of_nb {n k : Nat} (h : nb n ≤ k) : n < 2 ^ k := Nat.lt_of_lt_of_le (lt_nb n) (Nat.pow_le_pow_right (by decide) h)
theorem log2_of {n k : Nat} (h : n < 2 ^ k) (hk : 0 < k) : n.log2 < k := by
  by_cases h0 : n = 0
  · subst h0; simpa using hk
  · exact (Nat.log2_lt h0).mpr h
theorem or_high (x s : Nat) : x ||| (x / 2 ^ s * 2 ^ s) = x := by
  apply Nat.eq_of_testBit_eq
  intro j
  refine rwl (Nat.testBit_or _ _ _) ?_
  refine rwl (Nat.testBit_mul_two_pow _ _ _) ?_
  refine rwl (Nat.testBit_div_two_pow _ _) ?_
  by_cases h : s ≤ j
  · rw [decide_eq_true h, Nat.sub_add_cancel h]; simp
  · rw [decide_eq_false h]; simp
theorem and_high (x s : Nat) : x &&& (x / 2 ^ s * 2 ^ s) = x / 2 ^ s * 2 ^ s := by
  apply Nat.eq_of_testBit_eq
  intro j
  refine rwl (Nat.testBit_and _ _ _) ?_
  refine rwl (Nat.testBit_mul_two_pow _ _ _) ?_
  refine rwl (Nat.testBit_div_two_pow _ _) ?_
  by_cases h : s ≤ j
  · rw [decide_eq_true h, Nat.sub_add_cancel h]; simp
  · rw [decide_eq_false h]; simp
theorem or_low {a b i : Nat} (h : b < 2 ^ i) : a * 2 ^ i ||| b = a * 2 ^ i + b := by
  rw [Nat.mul_comm, ← Nat.two_pow_add_eq_or_of_lt h]

section
variable {K : Cx} {σ : S} {P : AV → S → Prop} {PB : Bool → S → Prop} {a b : Nat}
theorem bN_add (p : P (.int ((a + b : Nat) : Int)) σ) : Bin K .Add (.int (a : Int)) (.int (b : Int)) σ P := bin_add (by rw [Int.natCast_add] at p; exact p)
theorem bN_sub (h : b ≤ a) (p : P (.int ((a - b : Nat) : Int)) σ) : Bin K .Sub (.int (a : Int)) (.int (b : Int)) σ P := bin_sub (by rw [Int.natCast_sub h] at p; exact p)
theorem bN_shl (h : nb a + b ≤ 2 ^ 27) (p : P (.int ((a * 2 ^ b : Nat) : Int)) σ) : Bin K .LShift (.int (a : Int)) (.int (b : Int)) σ P := bin_shl (Int.natCast_nonneg _) (by rw [nb_int]; lia) (by
  rw [Int.natCast_mul, Int.natCast_pow] at p; rw [Int.toNat_natCast]; exact p)
theorem bN_shl1 (h : b ≤ 10000) (p : P (.int ((2 ^ b : Nat) : Int)) σ) : Bin K .LShift (.int 1) (.int (b : Int)) σ P := bin_shl (Int.natCast_nonneg _) (by
  have : Builtin.Int.intBits (1 : Int) = 1 := by decide
  rw [this]; lia) (by rw [Int.natCast_pow] at p; rw [Int.toNat_natCast, Int.one_mul]; exact p)
theorem fdivN (a b : Nat) : (a : Int).fdiv (b : Int) = ((a / b : Nat) : Int) := by rw [Int.fdiv_eq_ediv_of_nonneg _ (Int.natCast_nonneg _)]; rfl
theorem fmodN (a b : Nat) : (a : Int).fmod (b : Int) = ((a % b : Nat) : Int) := by rw [Int.fmod_eq_emod_of_nonneg _ (Int.natCast_nonneg _)]; rfl
theorem bN_shr (p : P (.int ((a / 2 ^ b : Nat) : Int)) σ) : Bin K .RShift (.int (a : Int)) (.int (b : Int)) σ P := bin_shr (Int.natCast_nonneg _) (by
  rw [Int.toNat_natCast, show (2 : Int) ^ b = ((2 ^ b : Nat) : Int) from by rw [Int.natCast_pow]; rfl, fdivN]; exact p)
theorem bN_shr1 (p : P (.int ((a / 2 : Nat) : Int)) σ) : Bin K .RShift (.int (a : Int)) (.int 1) σ P := bN_shr (b := 1) p
theorem bN_and (p : P (.int ((a &&& b : Nat) : Int)) σ) : Bin K .BitAnd (.int (a : Int)) (.int (b : Int)) σ P := bin_and (by
  rw [bitAnd_pp (Int.natCast_nonneg _) (Int.natCast_nonneg _), Int.toNat_natCast, Int.toNat_natCast]; exact p)
theorem bN_and1 (p : P (.int ((a % 2 : Nat) : Int)) σ) : Bin K .BitAnd (.int (a : Int)) (.int 1) σ P := bN_and (b := 1) (by rw [Nat.and_one_is_mod]; exact p)
theorem bN_mask {n : Nat} (p : P (.int ((a % 2 ^ n : Nat) : Int)) σ) : Bin K .BitAnd (.int (a : Int)) (.int ((2 ^ n - 1 : Nat) : Int)) σ P := bN_and (by rw [Nat.and_two_pow_sub_one_eq_mod]; exact p)
theorem orN (a b : Nat) : Builtin.bitOr (a : Int) (b : Int) = ((a ||| b : Nat) : Int) := by
  refine rwl (bitOr_and _ _) ?_
  refine rwl (bitAnd_pp (Int.natCast_nonneg _) (Int.natCast_nonneg _)) ?_
  refine rwl (Int.toNat_natCast _) ?_
  refine rwl (Int.toNat_natCast _) ?_
  have := nat_or_add_and a b
  lia
theorem bN_xor {n : Nat} (p : P (.int ((a % 2 ^ n : Nat) : Int)) σ) : Bin K .BitXor (.int (a : Int)) (.int ((a / 2 ^ n * 2 ^ n : Nat) : Int)) σ P := bin_xor (by
  have e : Builtin.bitXor (a : Int) ((a / 2 ^ n * 2 ^ n : Nat) : Int) = Builtin.bitOr (a : Int) ((a / 2 ^ n * 2 ^ n : Nat) : Int) - Builtin.bitAnd (a : Int) ((a / 2 ^ n * 2 ^ n : Nat) : Int) := rfl
  refine rwl e ?_
  refine rwl (orN _ _) ?_
  refine rwl (bitAnd_pp (Int.natCast_nonneg _) (Int.natCast_nonneg _)) ?_
  refine rwl (Int.toNat_natCast _) ?_
  refine rwl (Int.toNat_natCast _) ?_
  have := Nat.div_add_mod a (2 ^ n)
  refine rwl (or_high _ _) ?_
  refine rwl (and_high _ _) ?_
  refine rwl (show ((a : Nat) : Int) - ((a / 2 ^ n * 2 ^ n : Nat) : Int) = ((a % 2 ^ n : Nat) : Int) from by rw [Nat.mul_comm] at this; lia) ?_
  exact p)
theorem bN_fdiv (hb : 0 < b) (hs : b < 2 ^ 9000) (p : P (.int ((a / b : Nat) : Int)) σ) : Bin K .FloorDiv (.int (a : Int)) (.int (b : Int)) σ P := bin_fdiv (by lia) (PyProof.noPylong_of_log2 (by
  rw [Int.natAbs_natCast]; exact log2_of hs (by decide))) (by rw [fdivN]; exact p)
theorem iN_shl (h : nb a + b ≤ 2 ^ 27) (p : P (.int ((a * 2 ^ b : Nat) : Int)) σ) : IBin K .LShift (.int (a : Int)) (.int (b : Int)) σ P := ibin_shl (Int.natCast_nonneg _) (by rw [nb_int]; lia) (by
  rw [Int.natCast_mul, Int.natCast_pow] at p; rw [Int.toNat_natCast]; exact p)
theorem iN_shl1 (h : nb a ≤ 100000) (p : P (.int ((a * 2 : Nat) : Int)) σ) : IBin K .LShift (.int (a : Int)) (.int 1) σ P := iN_shl (b := 1) (by lia) p
theorem iN_shr1 (p : P (.int ((a / 2 : Nat) : Int)) σ) : IBin K .RShift (.int (a : Int)) (.int 1) σ P := ibin_shr (by decide) (by
  rw [show ((2 : Int) ^ (1 : Int).toNat) = ((2 : Nat) : Int) from rfl, fdivN]; exact p)
theorem iN_add1 (p : P (.int ((a + 1 : Nat) : Int)) σ) : IBin K .Add (.int (a : Int)) (.int 1) σ P := ibin_add p
theorem bN_add1 (p : P (.int ((a + 1 : Nat) : Int)) σ) : Bin K .Add (.int (a : Int)) (.int 1) σ P := bin_add p
theorem bN_sub1 (h : 0 < a) (p : P (.int ((a - 1 : Nat) : Int)) σ) : Bin K .Sub (.int (a : Int)) (.int 1) σ P := bN_sub (b := 1) h p
theorem cN_eq (p : P (.bool (decide (a = b))) σ) : Cmp K .Eq (.int (a : Int)) (.int (b : Int)) σ P := cmp_eqi (by
  have : ((a : Int) == (b : Int)) = decide (a = b) := by
    rw [Bool.eq_iff_iff, beq_iff_eq, decide_eq_true_iff]; lia
  rw [this]; exact p)
theorem tN_int (p : PB (decide (a ≠ 0)) σ) : Tru K (.int (a : Int)) σ PB := tru_int (by
  have : ((a : Int) != 0) = decide (a ≠ 0) := by
    rw [Bool.eq_iff_iff]; simp
  rw [this]; exact p)
theorem cN_bits (p : P (.int ((nb a : Nat) : Int)) σ) : CallK K (.builtin "int.bit_length") [.int (a : Int)] σ P := c_bits (by rw [nb_int]; exact p)
theorem cN_divmod (hb : 0 < b) (hs : b < 2 ^ 9000) (p : P (.tup [.int ((a / b : Nat) : Int), .int ((a % b : Nat) : Int)]) σ) : CallK K (.builtin "divmod") [.int (a : Int), .int (b : Int)] σ P := c_divmod (by lia) (by
  rw [Int.natAbs_natCast]; exact log2_of hs (by decide)) (by rw [fdivN, fmodN]; exact p)
theorem mulOkN {x y : Int} (hx : Builtin.Int.intBits x ≤ 2 ^ 20) (hy : Builtin.Int.intBits y ≤ 2 ^ 20) : IntMulOk x y := IntMulOk.of_bits hx hy
end

noncomputable def NatArgs (l : List Nat) : List AV := l.map fun n : Nat => AV.int (n : Int)
section
variable {prog : Program} {w : World} {B : HF} {mg mb : Str → Option Value}
theorem con_d2s (T : TopOk B mg mb) {a b n : Nat} (hb : 0 < b) (hbs : b < 2 ^ 9000) (hn : nb a ≤ n + 4000) {mu : Mu} : Con prog w B 1 (.ref 45) [.int (a : Int), .int (b : Int), .int (n : Int)] [] mu fun v mu' => v = .tup [.int ((a / b : Nat) : Int), .int ((a % b : Nat) : Int)] ∧ mu' = mu := by
  refine fn_con T T.f45 ["a", "b", "n"] ["a", "b", "n"] (ab := [("a", .int (a : Int)), ("b", .int (b : Int)), ("n", .int (n : Int))]) (fun pm => FnOk.of) (fun pm => Binds.three (fun _ _ _ => rfl)) rfl (by decide +kernel) fun pm A fit L => ?_
  refine xs_cons ?_
  repeat tb_start
  refine m_bit_length ?_ ⟨rfl, rfl, rfl⟩
  repeat tb_start
  refine ⟨hasT_int, ?_⟩
  repeat tb_start
  refine cN_bits ?_
  repeat tb_start
  refine n_divlim T rfl ?_
  repeat tb_start
  refine ite_t (decide_eq_true (by lia)) ?_
  repeat tb_start
  refine ev_callB (id := "divmod") ?_
  repeat tb_start
  refine cN_divmod hb hbs ?_
  repeat tb_start
  exact ⟨rfl, rfl⟩
end
end

section
open PySem PySem.P PyProof.Rows
local macro_rules | `(tactic| tb_start) => pure (sxMore "bN_add bN_shr bN_mask cN_eq")

section
variable {prog : Program} {w : World} {B : HF} {mg mb : Str → Option Value}
theorem con_d3 (T : TopOk B mg mb) {a12 a3 b b1 b2 n : Nat} (hb : b = b1 * 2 ^ n + b2) (h1 : 0 < b1) (h2 : b2 < 2 ^ n) (h3 : a3 < 2 ^ n) (hA : a12 * 2 ^ n + a3 < b * 2 ^ n) (hbits : nb a12 ≤ n + 4000) (hn : n ≤ 5000) (hbs : b < 2 ^ 9000) {mu : Mu} :
    Con prog w B 2 (.ref 52) (NatArgs [a12, a3, b, b1, b2, n]) [] mu fun v mu' => v = .tup [.int (((a12 * 2 ^ n + a3) / b : Nat) : Int), .int (((a12 * 2 ^ n + a3) % b : Nat) : Int)] ∧ mu' = mu := by
  refine fn_con T T.f52 ["a12", "a3", "b", "b1", "b2", "n", "q", "r"] ["a12", "a3", "b", "b1", "b2", "n"] (ab := [("a12", .int (a12 : Int)), ("a3", .int (a3 : Int)), ("b", .int (b : Int)), ("b1", .int (b1 : Int)), ("b2", .int (b2 : Int)), ("n", .int (n : Int))]) (fun pm => FnOk.of) (fun pm => Binds.six (fun _ _ _ _ _ _ => rfl)) rfl (by decide +kernel) fun pm A fit L => ?_
  have hp2 : 0 < 2 ^ n := Nat.two_pow_pos n
  have hb0 : 0 < b := by rw [hb]; exact Nat.lt_of_lt_of_le (Nat.mul_pos h1 hp2) (Nat.le_add_right _ _)
  have hb1b : b1 ≤ b := by rw [hb]; exact Nat.le_trans (Nat.le_mul_of_pos_right _ hp2) (Nat.le_add_right _ _)
  have hnb1 : nb b1 ≤ 9000 := nb_le (Nat.lt_of_le_of_lt hb1b hbs)
  have hb2b : b2 ≤ b := by rw [hb]; exact Nat.le_add_left _ _
  have ha12 : a12 < b := by
    have : a12 * 2 ^ n < b * 2 ^ n := Nat.lt_of_le_of_lt (Nat.le_add_right _ _) hA
    exact Nat.lt_of_mul_lt_mul_right this
  -- the rest, once q and r stand
  have rest : ∀ (q r : Nat), q * b1 + r = a12 → (r < b1 ∨ q + 1 = 2 ^ n) → q < 2 ^ 20000 → r < 2 ^ 20000 →
      Xs (cxOf prog w B T A fit (fdOf (topSt 5) "_div3n2n" .none pm (.ref (52 - 1))) ["a12", "a3", "b", "b1", "b2", "n", "q", "r"] (FnOk.of) 52 L) ((fbody (topSt 5)).drop 1)
        ⟨[some (.int (a12 : Int)), some (.int (a3 : Int)), some (.int (b : Int)), some (.int (b1 : Int)), some (.int (b2 : Int)), some (.int (n : Int)), some (.int (q : Int)), some (.int (r : Int))], [], mu⟩
        fun f σ => f.val = .tup [.int (((a12 * 2 ^ n + a3) / b : Nat) : Int), .int (((a12 * 2 ^ n + a3) % b : Nat) : Int)] ∧ σ.mu = mu := by
    intro q r hqr hor hq hr
    refine xs_cons ?_
    repeat tb_start
    refine bN_shl (by have := nb_le hr; lia) ?_
    repeat tb_start
    refine rwl (orN _ _) ?_
    refine rwl (or_low h3) ?_
    refine bin_mul (mulOkN (by rw [nb_int]; have := nb_le hq; lia) (by rw [nb_int]; have := nb_le (Nat.lt_of_le_of_lt hb2b hbs); lia)) ?_
    repeat tb_start
    have key : (q : Int) * b + (((r * 2 ^ n + a3 : Nat) : Int) - (q : Int) * b2) = ((a12 * 2 ^ n + a3 : Nat) : Int) := by
      have e1 : a12 * 2 ^ n + a3 = q * (b1 * 2 ^ n) + (r * 2 ^ n + a3) := by rw [← hqr, Nat.add_mul, Nat.mul_assoc]; lia
      refine rwl e1 ?_
      refine rwl hb ?_
      push_cast
      refine rwl (Int.mul_add _ _ _) ?_
      lia
    have hlt : ((r * 2 ^ n + a3 : Nat) : Int) - (q : Int) * b2 < b := by
      rcases hor with h | h
      · have : r * 2 ^ n + a3 < b := by
          have : (r + 1) * 2 ^ n ≤ b1 * 2 ^ n := Nat.mul_le_mul_right _ h
          rw [Nat.add_mul, Nat.one_mul] at this
          rw [hb]; lia
        have : (0 : Int) ≤ (q : Int) * b2 := Int.mul_nonneg (by lia) (by lia)
        omega
      · have e : (q : Int) * b = ((2 ^ n : Nat) : Int) * b - b := by
          have : (q : Int) = ((2 ^ n : Nat) : Int) - 1 := by lia
          rw [this, Int.sub_mul, Int.one_mul]
        have : ((a12 * 2 ^ n + a3 : Nat) : Int) < ((b * 2 ^ n : Nat) : Int) := by exact_mod_cast hA
        rw [Int.natCast_mul, Int.mul_comm] at this
        lia
    generalize ((r * 2 ^ n + a3 : Nat) : Int) - (q : Int) * b2 = R at key hlt ⊢
    refine x_while (fun m σ => ∃ (Q R : Int), Q * b + R = ((a12 * 2 ^ n + a3 : Nat) : Int) ∧ R < b ∧ m = (-R).toNat ∧ σ = ⟨[some (.int (a12 : Int)), some (.int (a3 : Int)), some (.int (b : Int)), some (.int (b1 : Int)), some (.int (b2 : Int)), some (.int (n : Int)), some (.int Q), some (.int R)], [], mu⟩) (-R).toNat ⟨q, R, key, hlt, rfl, rfl⟩ ?_
    rintro m σ hz0
    refine e2_4 hz0 ?_
    clear hz0
    rintro Q R hk hl rfl rfl
    repeat tb_start
    refine ite_both (fun hc => ?_) fun hc => ?_
    · have hneg : R < 0 := by simpa using hc
      repeat tb_start
      refine ⟨(-(R + b)).toNat, by lia, Q - 1, R + b, ?_, by lia, rfl, rfl⟩
      rw [Int.sub_mul, Int.one_mul]; lia
    · have hpos : 0 ≤ R := by simpa using hc
      repeat tb_start
      refine ev_tuple ?_
      repeat tb_start
      refine ⟨by rw [sizeLine_eq]; exact Nat.le_of_ble_eq_true rfl, ?_⟩
      repeat tb_start
      refine ⟨?_, rfl⟩
      have hu := (Int.ediv_emod_unique (a := ((a12 * 2 ^ n + a3 : Nat) : Int)) (b := (b : Int)) (r := R) (q := Q) (by lia)).mpr ⟨by rw [← hk, Int.mul_comm]; lia, hpos, hl⟩
      refine rwl (Int.natCast_ediv _ _) ?_
      refine rwl (Int.natCast_emod _ _) ?_
      refine rwl hu.1 ?_
      refine rwl hu.2 ?_
      rfl
  refine xs_cons ?_
  repeat tb_start
  refine ite_both (fun hc => ?_) fun hc => ?_
  · have he : a12 / 2 ^ n = b1 := of_decide_eq_true hc
    have hle : b1 * 2 ^ n ≤ a12 := by rw [← he]; exact Nat.div_mul_le_self _ _
    refine xs_cons ?_
    refine x_swap ["q", "r"] ?_ rfl rfl
    refine ev_tuple ?_
    refine evl_cons ?_ rfl
    repeat tb_start
    refine bN_shl1 (by lia) ?_
    repeat tb_start
    refine bN_shl (by lia) ?_
    repeat tb_start
    refine ⟨by rw [sizeLine_eq]; exact Nat.le_of_ble_eq_true rfl, _, rfl, rfl, ?_⟩
    refine rwl (show ((2 ^ n : Nat) : Int) - 1 = ((2 ^ n - 1 : Nat) : Int) by lia) ?_
    refine rwl (show (a12 : Int) - ((b1 * 2 ^ n : Nat) : Int) + (b1 : Int) = ((a12 - b1 * 2 ^ n + b1 : Nat) : Int) by lia) ?_
    refine stol_cons (e := "r") ?_
    tb_start
    refine stol_cons (e := "q") ?_
    tb_start
    refine stol_nil ?_
    refine then_next (xs_nil (then_next ?_))
    refine rest (2 ^ n - 1) (a12 - b1 * 2 ^ n + b1) ?_ (.inr (by lia)) ?_ ?_
    · have : (2 ^ n - 1) * b1 + b1 = b1 * 2 ^ n := by
        rw [← Nat.succ_mul, Nat.succ_eq_add_one, Nat.sub_add_cancel hp2, Nat.mul_comm]
      lia
    · exact Nat.lt_of_le_of_lt (Nat.sub_le _ _) (Nat.pow_lt_pow_right (by decide) (by lia))
    · have : a12 - b1 * 2 ^ n + b1 ≤ a12 := by
        have : b1 ≤ b1 * 2 ^ n := Nat.le_mul_of_pos_right _ hp2
        lia
      exact Nat.lt_of_le_of_lt this (Nat.lt_of_lt_of_le (Nat.lt_trans ha12 hbs) (Nat.pow_le_pow_right (by decide) (by decide)))
  · refine xs_cons ?_
    refine x_tup ?_ (fun _ => rfl) rfl rfl
    refine e2_3 T.f45 ?_
    rintro o pm2 ho hd _
    refine ev_callF (a := 45) ho hd ?_ rfl
    repeat tb_start
    refine Con.callK ((con_d2s T h1 (Nat.lt_of_le_of_lt hb1b hbs) hbits).mono ?_) (Nat.le_refl 1)
    refine q0_2 ?_
    refine i1_3 _ rfl rfl ?_
    refine asgl_cons (asg_name ?_)
    tb_start
    refine asgl_cons (asg_name ?_)
    tb_start
    refine asgl_nil ?_
    refine then_next (xs_nil (then_next ?_))
    refine rest (a12 / b1) (a12 % b1) (by rw [Nat.mul_comm]; exact Nat.div_add_mod _ _) (.inl (Nat.mod_lt _ h1)) ?_ ?_
    · exact Nat.lt_of_le_of_lt (Nat.div_le_self _ _) (Nat.lt_of_lt_of_le (Nat.lt_trans ha12 hbs) (Nat.pow_le_pow_right (by decide) (by decide)))
    · exact Nat.lt_of_le_of_lt (Nat.mod_le _ _) (Nat.lt_of_lt_of_le (Nat.lt_trans ha12 hbs) (Nat.pow_le_pow_right (by decide) (by decide)))
end
end

section
open PySem PySem.P PyProof.Rows
set_option exponentiation.threshold 100000
local macro_rules | `(tactic| tb_start) => pure (sxMore "bN_add bN_shr bN_and1 bN_mask bN_shr1 iN_shr1 iN_add1 tN_int cN_eq")

theorem split_hi (a h : Nat) : a / 2 ^ (2 * h) * 2 ^ h + a / 2 ^ h % 2 ^ h = a / 2 ^ h := by
  refine rwl (show 2 * h = h + h by lia) ?_
  refine rwl (Nat.pow_add _ _ _) ?_
  refine rwr (Nat.div_div_eq_div_mul _ _ _) ?_
  refine rwl (Nat.mul_comm _ _) ?_
  exact Nat.div_add_mod _ _
theorem two_step {a b h : Nat} (hb : 0 < b) (ha : a < b * 2 ^ (2 * h)) : a / 2 ^ h < b * 2 ^ h ∧ (a / 2 ^ h % b) * 2 ^ h + a % 2 ^ h < b * 2 ^ h ∧
    (a / 2 ^ h / b) * 2 ^ h + ((a / 2 ^ h % b) * 2 ^ h + a % 2 ^ h) / b = a / b ∧ ((a / 2 ^ h % b) * 2 ^ h + a % 2 ^ h) % b = a % b ∧ ((a / 2 ^ h % b) * 2 ^ h + a % 2 ^ h) / b < 2 ^ h := by
  have hp := Nat.two_pow_pos h
  have h1 : a / 2 ^ h < b * 2 ^ h := (Nat.div_lt_iff_lt_mul hp).mpr (by rw [Nat.mul_assoc, ← Nat.pow_add, show h + h = 2 * h by lia]; exact ha)
  have h2 : (a / 2 ^ h % b) * 2 ^ h + a % 2 ^ h < b * 2 ^ h := by
    have e1 := Nat.mod_lt (a / 2 ^ h) hb
    have e2 := Nat.mod_lt a hp
    have : (a / 2 ^ h % b + 1) * 2 ^ h ≤ b * 2 ^ h := Nat.mul_le_mul_right _ e1
    rw [Nat.add_mul, Nat.one_mul] at this
    lia
  have e : a = b * ((a / 2 ^ h / b) * 2 ^ h) + ((a / 2 ^ h % b) * 2 ^ h + a % 2 ^ h) := by
    have e1 := Nat.div_add_mod (a / 2 ^ h) b
    have e2 := Nat.div_add_mod a (2 ^ h)
    have e3 : 2 ^ h * (a / 2 ^ h) = b * ((a / 2 ^ h / b) * 2 ^ h) + (a / 2 ^ h % b) * 2 ^ h := by
      rw [Nat.mul_comm]
      conv => lhs; rw [← e1]
      rw [Nat.add_mul, Nat.mul_assoc]
    lia
  refine ⟨h1, h2, ?_, ?_, Nat.div_lt_of_lt_mul h2⟩
  · conv => rhs; rw [e]
    rw [Nat.mul_add_div hb]
  · conv => rhs; rw [e]
    rw [Nat.mul_add_mod]

section
variable {prog : Program} {w : World} {B : HF} {mg mb : Str → Option Value}
theorem con_d2 (T : TopOk B mg mb) {a b n : Nat} (hn0 : 0 < n) (hn : n ≤ 4400) (hb : b < 2 ^ n) (hb2 : 2 ^ (n - 1) ≤ b) (ha : a < b * 2 ^ n) {mu : Mu} :
    Con prog w B 3 (.ref 45) [.int (a : Int), .int (b : Int), .int (n : Int)] [] mu fun v mu' => v = .tup [.int ((a / b : Nat) : Int), .int ((a % b : Nat) : Int)] ∧ mu' = mu := by
  have hb0 : 0 < b := Nat.lt_of_lt_of_le (Nat.two_pow_pos _) hb2
  have hbs : b < 2 ^ 9000 := Nat.lt_of_lt_of_le hb (Nat.pow_le_pow_right (by decide) (by lia))
  have hna : nb a ≤ 8800 := nb_le (Nat.lt_of_lt_of_le ha (by
    have : b * 2 ^ n ≤ 2 ^ n * 2 ^ n := Nat.mul_le_mul_right _ (Nat.le_of_lt hb)
    rw [← Nat.pow_add] at this
    exact Nat.le_trans this (Nat.pow_le_pow_right (by decide) (by lia))))
  by_cases hsm : nb a ≤ n + 4000
  · exact (con_d2s T hb0 hbs hsm).le (by decide)
  have hn4 : 3600 < n := by
    have : nb a ≤ 2 * n := nb_le (Nat.lt_of_lt_of_le ha (by
      have : b * 2 ^ n ≤ 2 ^ n * 2 ^ n := Nat.mul_le_mul_right _ (Nat.le_of_lt hb)
      rw [← Nat.pow_add, show n + n = 2 * n by lia] at this
      exact this))
    lia
  refine fn_con T T.f45 ["a", "b", "n", "pad", "half_n", "mask", "b1", "b2", "q1", "r", "q2"] ["a", "b", "n"] (ab := [("a", .int (a : Int)), ("b", .int (b : Int)), ("n", .int (n : Int))]) (fun pm => FnOk.of) (fun pm => Binds.three (fun _ _ _ => rfl)) rfl (by decide +kernel) fun pm A fit L => ?_
  refine e2_3 T.f52 ?_
  rintro o3 pm3 ho3 hd3 _
  have rest : ∀ (a' b' h p : Nat), (p = 0 ∨ p = 1) → a' = a * 2 ^ p → b' = b * 2 ^ p → n + p = 2 * h →
      Xs (cxOf prog w B T A fit (fdOf (topSt 4) "_div2n1n" .none pm (.ref (45 - 1))) ["a", "b", "n", "pad", "half_n", "mask", "b1", "b2", "q1", "r", "q2"] (FnOk.of) 45 L) ((fbody (topSt 4)).drop 3)
        ⟨[some (.int (a' : Int)), some (.int (b' : Int)), some (.int ((2 * h : Nat) : Int)), some (.int (p : Int)), none, none, none, none, none, none, none], [], mu⟩
        fun f σ => f.val = .tup [.int ((a / b : Nat) : Int), .int ((a % b : Nat) : Int)] ∧ σ.mu = mu := by
    intro a' b' h p hp ea eb eh
    have hp1 : p ≤ 1 := by lia
    have hpp := Nat.two_pow_pos p
    have hh := Nat.two_pow_pos h
    have hb' : b' < 2 ^ (2 * h) := by rw [eb, ← eh, Nat.pow_add]; exact Nat.mul_lt_mul_of_pos_right hb hpp
    have hb0' : 0 < b' := by rw [eb]; exact Nat.mul_pos hb0 hpp
    have hb2' : 2 ^ h ≤ b' := by
      refine rwl eb ?_
      refine Nat.le_trans ?_ (Nat.mul_le_mul_right _ hb2)
      refine rwr (Nat.pow_add _ _ _) ?_
      exact Nat.pow_le_pow_right (by decide) (by lia)
    have ha' : a' < b' * 2 ^ (2 * h) := by
      refine rwl ea ?_
      refine rwl eb ?_
      refine rwr eh ?_
      refine rwl (Nat.pow_add _ _ _) ?_
      calc a * 2 ^ p < (b * 2 ^ n) * 2 ^ p := Nat.mul_lt_mul_of_pos_right ha hpp
        _ ≤ (b * 2 ^ n) * 2 ^ p * 2 ^ p := Nat.le_mul_of_pos_right _ hpp
        _ = b * 2 ^ p * (2 ^ n * 2 ^ p) := by ac_rfl
    refine e0_5 (two_step (h := h) hb0' ha') ?_
    rintro t1 t2 t3 t4 t5
    have hsp := split_hi a' h
    have hbs' : b' < 2 ^ 9000 := Nat.lt_of_lt_of_le hb' (Nat.pow_le_pow_right (by decide) (by lia))
    have e2h : 2 * h / 2 = h := by lia
    refine xs_cons ?_
    repeat tb_start
    refine rwl e2h ?_
    refine bN_shl1 (by lia) ?_
    repeat tb_start
    refine rwl (show ((2 ^ h : Nat) : Int) - 1 = ((2 ^ h - 1 : Nat) : Int) by lia) ?_
    refine x_swap ["b1", "b2"] ?_ rfl rfl
    refine ev_tuple ?_
    repeat tb_start
    refine ⟨by rw [sizeLine_eq]; exact Nat.le_of_ble_eq_true rfl, _, rfl, rfl, ?_⟩
    refine stol_cons (e := "b2") ?_
    tb_start
    refine stol_cons (e := "b1") ?_
    tb_start
    refine stol_nil ?_
    repeat tb_start
    refine x_tup ?_ (fun _ => rfl) rfl rfl
    refine ev_callF (a := 52) ho3 hd3 ?_ rfl
    repeat tb_start
    refine Con.callK ((con_d3 T (a12 := a' / 2 ^ (2 * h)) (a3 := a' / 2 ^ h % 2 ^ h) (b := b') (b1 := b' / 2 ^ h) (b2 := b' % 2 ^ h) (n := h) (by rw [Nat.mul_comm]; exact (Nat.div_add_mod _ _).symm) (Nat.div_pos hb2' hh) (Nat.mod_lt _ hh) (Nat.mod_lt _ hh)
      (by rw [hsp]; exact t1) ?_ (by lia) hbs').mono ?_) (Nat.le_refl 2)
    · have : nb (a' / 2 ^ (2 * h)) ≤ 2 * h := nb_le (Nat.lt_trans ((Nat.div_lt_iff_lt_mul (Nat.two_pow_pos _)).mpr ha') hb')
      lia
    refine rwl hsp ?_
    refine q0_2 ?_
    refine i1_3 _ rfl rfl ?_
    repeat tb_start
    refine x_tup ?_ (fun _ => rfl) rfl rfl
    refine ev_callF (a := 52) ho3 hd3 ?_ rfl
    repeat tb_start
    refine Con.callK ((con_d3 T (a12 := a' / 2 ^ h % b') (a3 := a' % 2 ^ h) (b := b') (b1 := b' / 2 ^ h) (b2 := b' % 2 ^ h) (n := h) (by rw [Nat.mul_comm]; exact (Nat.div_add_mod _ _).symm) (Nat.div_pos hb2' hh) (Nat.mod_lt _ hh) (Nat.mod_lt _ hh)
      t2 ?_ (by lia) hbs').mono ?_) (Nat.le_refl 2)
    · have : nb (a' / 2 ^ h % b') ≤ 2 * h := nb_le (Nat.lt_trans (Nat.mod_lt _ hb0') hb')
      lia
    refine q0_2 ?_
    refine i1_3 _ rfl rfl ?_
    repeat tb_start
    refine tst_plain ?_ rfl
    repeat tb_start
    refine rwl t4 ?_
    have q1s : nb (a' / 2 ^ h / b') ≤ 20000 := by
      have : a' / 2 ^ h / b' < 2 ^ h := Nat.div_lt_of_lt_mul t1
      have := nb_le this
      lia
    have fin : (a' / b') = a / b ∧ (a' % b') = (a % b) * 2 ^ p := by
      refine rwl ea ?_
      refine rwl eb ?_
      exact ⟨Nat.mul_div_mul_right _ _ hpp, Nat.mul_mod_mul_right _ _ _⟩
    refine ite_both (fun hc => ?_) fun hc => ?_
    · have hpe : p = 1 := by have := of_decide_eq_true hc; lia
      repeat tb_start
      refine ev_tuple ?_
      refine evl_cons ?_ rfl
      repeat tb_start
      refine bN_shl (by lia) ?_
      repeat tb_start
      refine ⟨by rw [sizeLine_eq]; exact Nat.le_of_ble_eq_true rfl, ?_⟩
      repeat tb_start
      refine rwl (orN _ _) ?_
      refine rwl (or_low t5) ?_
      refine rwl t3 ?_
      refine rwl fin.1 ?_
      refine rwl fin.2 ?_
      refine rwl hpe ?_
      refine rwl (Nat.pow_one _) ?_
      refine rwl (Nat.mul_div_cancel _ (by decide)) ?_
      exact ⟨rfl, rfl⟩
    · have hpe : p = 0 := by have := of_decide_eq_false hc; lia
      repeat tb_start
      refine ev_tuple ?_
      refine evl_cons ?_ rfl
      repeat tb_start
      refine bN_shl (by lia) ?_
      repeat tb_start
      refine ⟨by rw [sizeLine_eq]; exact Nat.le_of_ble_eq_true rfl, ?_⟩
      repeat tb_start
      refine rwl (orN _ _) ?_
      refine rwl (or_low t5) ?_
      refine rwl t3 ?_
      refine rwl fin.1 ?_
      refine rwl fin.2 ?_
      refine rwl hpe ?_
      refine rwl (Nat.pow_zero _) ?_
      refine rwl (Nat.mul_one _) ?_
      exact ⟨rfl, rfl⟩
  refine xs_cons ?_
  repeat tb_start
  refine m_bit_length ?_ ⟨rfl, rfl, rfl⟩
  repeat tb_start
  refine ⟨hasT_int, ?_⟩
  repeat tb_start
  refine cN_bits ?_
  repeat tb_start
  refine n_divlim T rfl ?_
  repeat tb_start
  refine ite_f (decide_eq_false (by lia)) ?_
  repeat tb_start
  refine tst_plain ?_ rfl
  repeat tb_start
  refine ite_both (fun hc => ?_) fun hc => ?_
  · have hodd : n % 2 = 1 := by have := of_decide_eq_true hc; lia
    repeat tb_start
    refine iN_shl1 (by lia) ?_
    repeat tb_start
    refine iN_shl1 (by have := nb_le hb; lia) ?_
    tb_start
    refine then_next (xs_cons ?_)
    iterate 5 tb_start
    refine then_next (xs_nil (then_next ?_))
    obtain ⟨h, hh⟩ : ∃ h, n + 1 = 2 * h := ⟨(n + 1) / 2, by lia⟩
    refine rwl hodd ?_
    refine rwl hh ?_
    exact rest (a * 2) (b * 2) h 1 (.inr rfl) rfl rfl hh
  · have heven : n % 2 = 0 := by have := of_decide_eq_false hc; lia
    refine xs_nil (then_next ?_)
    obtain ⟨h, hh⟩ : ∃ h, n = 2 * h := ⟨n / 2, by lia⟩
    refine rwl heven ?_
    have := rest a b h 0 (.inl rfl) (by simp) (by simp) (by omega)
    rw [← hh] at this
    exact this
end
local macro_rules | `(tactic| tb_start) => pure (sxMore "bN_add bN_add1 bN_shr bN_shr1 tN_int cN_eq")

theorem CodeOf.has {B : HF} {o : Obj} {fd : FuncData} {c : Addr} (h : CodeOf B o) (hd : o.data = .func fd) (hc : fd.code = .ref c) : HasCode B fd.code fd.qualname := fun h' sub => by
  obtain ⟨oc, e, vs, t, e1, e2⟩ := h fd c hd hc
  exact i4_4 c oc vs t hc (sub _ _ e) e1 e2
structure InnB (B : HF) (mg mb : Str → Option Value) (oF : Obj) (clos : List (Str × Addr)) (frs : List (Str × AV)) : Prop where
  gr : Gr B mg mb
  code : CodeOf B oF
  fr : ∀ p ∈ frs, ∃ c oc u, clos.lookup p.1 = some c ∧ B c = some oc ∧ oc.data = .cell (some u) ∧ VR B p.2 u
theorem InnB.mono {B B' : HF} {mg mb : Str → Option Value} {oF : Obj} {clos : List (Str × Addr)} {frs : List (Str × AV)} (le : HF.le B B') (h : InnB B mg mb oF clos frs) : InnB B' mg mb oF clos frs :=
  ⟨h.gr.mono le, h.code.mono le, fun p hp => by
    refine e3_4 (h.fr p hp) ?_
    rintro c oc u h1 h2 h3 h4
    exact ⟨c, oc, u, h1, le _ _ h2, h3, h4.mono le⟩⟩
theorem cellAt {K : Cx} {σ : S} {H : HF} {h : Heap} (st : K.St H K.F σ h) {i : Nat} {x : Str} {c : Addr} {v : AV} (hi : K.F.cs[i]? = some (x, c)) (hv : σ.cells[i]? = some (some v)) :
    ∃ oc u, (H.plus K.F.own h) c = some oc ∧ oc.data = .cell (some u) ∧ VR (H.plus K.F.own h) v u := by
  obtain ⟨_, u, ⟨o, ho, hd⟩, r⟩ := st.cell i x c _ hi hv
  refine e1_2 (r _ rfl) ?_
  rintro b rfl rv
  have hm : c ∈ K.F.own := List.mem_cons_of_mem _ (List.mem_map.mpr ⟨(x, c), List.mem_of_getElem? hi, rfl⟩)
  exact i2_3 o b (by rw [HF.plus_at hm]; exact ho) hd (rv.mono (HF.le_plus st.own_none))

noncomputable def innSt (i j : Nat) : Stmt := (fbody (topSt i)).getD j (.Pass default)
noncomputable abbrev innO (st : Stmt) (q : Str) (clos : List (Str × Addr)) (doc pm : Value) (c' : Addr) (ctv : Value) : Obj := PySem.W.fnMade (fname st) q (fargs st) (fbody st) (fscope st) clos doc pm c' ctv
noncomputable def innFd (st : Stmt) (q : Str) (clos : List (Str × Addr)) (doc pm : Value) (c' : Addr) (ctv : Value) : FuncData := PySem.W.fnX (fname st) q (fargs st) (fbody st) (fscope st) clos .none .none doc pm none (.ref c') ctv
theorem InOk.of {st : Stmt} {q : Str} {clos : List (Str × Addr)} {doc pm : Value} {c' : Addr} {ctv : Value} {ns : List Str} {frs : List (Str × AV)} (fs : List Str) (hf : frs.map (·.1) = fs)
    (h : (fscope st).isCoroutine = false ∧ (fscope st).isGenerator = false ∧ (fscope st).kind = .function ∧ (∀ x ∈ (fscope st).names, x.2 ≠ .cell) ∧ (∀ x ∈ ns, (fscope st).names.lookup x = some .local) ∧ ns.Nodup ∧ ∀ x ∈ fs, (fscope st).names.lookup x = some .free ∧ (x == ("__classdict__" : Str)) = false := by decide +kernel) :
    InOk (innFd st q clos doc pm c' ctv) ns frs :=
  ⟨h.1, h.2.1, h.2.2.1, h.2.2.2.1, h.2.2.2.2.1, h.2.2.2.2.2.1, by rw [hf]; exact h.2.2.2.2.2.2, rfl, rfl⟩
theorem inn_con {prog : Program} {w : World} {B : HF} {mg mb : Str → Option Value} {st : Stmt} {q : Str} {clos : List (Str × Addr)} {doc pm : Value} {c' : Addr} {ctv : Value} {frs : List (Str × AV)} (IB : InnB B mg mb (innO st q clos doc pm c' ctv) clos frs) {n : Nat} {a : Addr} (ha : B a = some (innO st q clos doc pm c' ctv))
    {as : List AV} {mu : Mu} {ab : List (Str × AV)} {Post : AV → Mu → Prop} (ns ps : List Str) (ok : InOk (innFd st q clos doc pm c' ctv) ns frs) (hbind : Binds prog w B (innFd st q clos doc pm c' ctv) as [] mu ab mu) (hps : ab.map (·.1) = ps)
    (hk : ps.Nodup ∧ ∀ x ∈ ps, (fscope st).names.lookup x = some .local)
    (h : ∀ A (fit : Fit A n) L, Xs { prog := prog, w := w, A := A, B := B, F := innF (innFd st q clos doc pm c' ctv) ns frs a L, ok := ok.frm a L, mg := mg, mb := mb, gr := IB.gr, n := n, fit := fit } (fbody st) ⟨ns.map (fun x => ab.lookup x), [], mu⟩ fun f σ => Post f.val σ.mu) :
    Con prog w B (n + 1) (.ref a) as [] mu Post :=
  Con.of_inner IB.gr ha rfl (IB.code.has rfl rfl) rfl ok hbind (by rw [hps]; exact hk.1) (fun p hp => hk.2 p.1 (by rw [← hps]; exact List.mem_map.mpr ⟨p, hp, rfl⟩)) IB.fr h

/- digits -/
theorem dig_low {x n t s : Nat} (h : t + n ≤ s) : (x % 2 ^ s / 2 ^ t) % 2 ^ n = (x / 2 ^ t) % 2 ^ n := by
  obtain ⟨r, rfl⟩ : ∃ r, s = t + (n + r) := ⟨s - t - n, by lia⟩
  rw [Nat.pow_add, Nat.mod_mul_right_div_self, Nat.pow_add, Nat.mod_mul_right_mod]
theorem dig_high {x a b : Nat} : x / 2 ^ a / 2 ^ b = x / 2 ^ (a + b) := by rw [Nat.div_div_eq_div_mul, ← Nat.pow_add]

noncomputable def dgs (ds : List Nat) : List AV := ds.map fun d : Nat => AV.int (d : Int)
theorem dgs_set (ds : List Nat) (i x : Nat) : (dgs ds).set i (.int (x : Int)) = dgs (ds.set i x) := by
  unfold dgs
  rw [List.map_set]
theorem bN_mul {K : Cx} {σ : S} {P : AV → S → Prop} {a b : Nat} (ha : a < 2 ^ 10000) (hb : b < 2 ^ 10000) (p : P (.int ((a * b : Nat) : Int)) σ) : Bin K .Mult (.int (a : Int)) (.int (b : Int)) σ P :=
  bin_mul (mulOkN (by rw [nb_int]; have := nb_le ha; lia) (by rw [nb_int]; have := nb_le hb; lia)) (by rw [Int.natCast_mul] at p; exact p)

noncomputable def Filled (n : Nat) (ds ds' : List Nat) (x L R : Nat) : Prop := ds'.length = ds.length ∧ (∀ j, (j < L ∨ R ≤ j) → ds'[j]? = ds[j]?) ∧ ∀ j, L ≤ j → j < R → ds'[j]? = some (x / 2 ^ (n * (j - L)) % 2 ^ n)
theorem filled_one {n : Nat} {ds : List Nat} {x L : Nat} (hx : x < 2 ^ n) (hL : L < ds.length) : Filled n ds (ds.set L x) x L (L + 1) := by
  refine ⟨List.length_set .., fun j hj => List.getElem?_set_ne (by lia), fun j h1 h2 => ?_⟩
  have : j = L := by lia
  subst this
  rw [List.getElem?_set_self hL, Nat.sub_self, Nat.mul_zero, Nat.pow_zero, Nat.div_one, Nat.mod_eq_of_lt hx]
theorem filled_two {n : Nat} {ds d1 d2 : List Nat} {x L M R : Nat} (h1 : Filled n ds d1 (x % 2 ^ ((M - L) * n)) L M) (h2 : Filled n d1 d2 (x / 2 ^ ((M - L) * n)) M R) (hLM : L ≤ M) (hMR : M ≤ R) : Filled n ds d2 x L R := by
  refine ⟨h2.1.trans h1.1, fun j hj => ?_, fun j hj1 hj2 => ?_⟩
  · rw [h2.2.1 j (by lia), h1.2.1 j (by lia)]
  · by_cases h : j < M
    · refine rwl (h2.2.1 j (.inl h)) ?_
      refine rwl (h1.2.2 j hj1 h) ?_
      congr 1
      refine dig_low ?_
      refine rwl (Nat.mul_comm (M - L) _) ?_
      have : n * (j - L) + n = n * (j - L + 1) := by rw [Nat.mul_add, Nat.mul_one]
      refine rwl this ?_
      exact Nat.mul_le_mul_left _ (by lia)
    · refine rwl (h2.2.2 j (by lia) hj2) ?_
      have e : (M - L) * n + n * (j - M) = n * (j - L) := by
        rw [Nat.mul_comm (M - L) n, ← Nat.mul_add, show M - L + (j - M) = j - L by lia]
      rw [dig_high, e]

noncomputable def q6 : Str := "_int2digits.<locals>.inner"
theorem con_inn6 {prog : Program} {w : World} {mg mb : Str → Option Value} {clos : List (Str × Addr)} {doc pm : Value} {c' : Addr} {ctv : Value} {n l : Nat} (hn0 : 0 < n) (hn : n ≤ 4400) {i : Nat} : ∀ (k : Nat) (B : HF), InnB B mg mb (innO (innSt 6 1) q6 clos doc pm c' ctv) clos
    [("a_digits", .raw (.ref l)), ("n", .int (n : Int)), ("inner", .fix (innO (innSt 6 1) q6 clos doc pm c' ctv))] → ∀ f, B f = some (innO (innSt 6 1) q6 clos doc pm c' ctv) → ∀ (x Lo R : Nat) (ds : List Nat) (mu : Mu), R = Lo + (k + 1) → R ≤ ds.length → ds.length ≤ 8 → x < 2 ^ (n * (k + 1)) →
    mu[i]? = some (l, .list (dgs ds)) → Con prog w B (k + 1) (.ref f) [.int (x : Int), .int (Lo : Int), .int (R : Int)] [] mu fun v mu' => ∃ ds', Filled n ds ds' x Lo R ∧ mu' = mu.set i (l, .list (dgs ds')) := by
  intro k
  induction k using Nat.strongRecOn with
  | ind k ih =>
    intro B IB f hf x Lo R ds mu hR hRd hd8 hx hi
    refine inn_con IB hf ["x", "L", "R", "mid", "shift", "upper", "lower"] ["x", "L", "R"] (ab := [("x", .int (x : Int)), ("L", .int (Lo : Int)), ("R", .int (R : Int))]) (InOk.of ["a_digits", "n", "inner"] rfl) (Binds.three (fun _ _ _ => rfl)) rfl (by decide +kernel) fun A fit L => ?_
    refine xs_cons ?_
    repeat tb_start
    refine ite_both (fun hc => ?_) fun hc => ?_
    · have e1 : Lo + 1 = R := of_decide_eq_true hc
      have hk : k = 0 := by lia
      subst hk
      repeat tb_start
      refine x_asgsub ?_ rfl
      repeat tb_start
      refine set_mu i hi (by lia) (by lia) (by rw [dgs, List.length_map]; lia) ?_
      repeat tb_start
      refine x_ret0 ?_
      repeat tb_start
      refine ⟨ds.set Lo x, ?_, ?_⟩
      · refine rwr e1 ?_
        exact filled_one (by simpa using hx) (by lia)
      · rw [Int.toNat_natCast, dgs_set]; rfl
    · have e1 : Lo + 1 ≠ R := of_decide_eq_false hc
      have hk : 0 < k := by lia
      obtain ⟨M, hM⟩ : ∃ M, M = (Lo + R) / 2 := ⟨_, rfl⟩
      have hLM : Lo < M := by lia
      have hMR : M < R := by lia
      have hs : (M - Lo) * n ≤ 35200 := Nat.le_trans (Nat.mul_le_mul (show M - Lo ≤ 8 by lia) hn) (by decide)
      have hxx : nb x ≤ 35200 := nb_le (Nat.lt_of_lt_of_le hx (Nat.pow_le_pow_right (by decide) (Nat.le_trans (Nat.mul_le_mul hn (show k + 1 ≤ 8 by lia)) (by decide))))
      repeat tb_start
      refine rwr hM ?_
      refine rwl (show (M : Int) - (Lo : Int) = ((M - Lo : Nat) : Int) by lia) ?_
      refine bN_mul ?_ ?_ ?_
      · exact Nat.lt_of_lt_of_le (show M - Lo < 2 ^ 4 by lia) (Nat.pow_le_pow_right (by decide) (by decide))
      · exact Nat.lt_of_lt_of_le (show n < 2 ^ 13 by lia) (Nat.pow_le_pow_right (by decide) (by decide))
      repeat tb_start
      refine bN_shl (by
        have := nb_le (show x / 2 ^ ((M - Lo) * n) < 2 ^ 35200 from Nat.lt_of_le_of_lt (Nat.div_le_self _ _) (lt_of_nb hxx))
        lia) ?_
      refine bN_xor ?_
      repeat tb_start
      refine ev_callI ?_ rfl
      repeat tb_start
      refine i2_3 _ _ rfl rfl ?_
      repeat tb_start
      have hlo : x % 2 ^ ((M - Lo) * n) < 2 ^ (n * (M - Lo - 1 + 1)) := by
        refine rwl (show M - Lo - 1 + 1 = M - Lo by lia) ?_
        refine rwl (Nat.mul_comm n _) ?_
        exact Nat.mod_lt _ (Nat.two_pow_pos _)
      have hhi : x / 2 ^ ((M - Lo) * n) < 2 ^ (n * (R - M - 1 + 1)) := by
        refine Nat.div_lt_of_lt_mul ?_
        refine rwl (Nat.mul_comm (M - Lo) _) ?_
        refine rwr (Nat.pow_add _ _ _) ?_
        refine rwr (Nat.mul_add _ _ _) ?_
        refine rwl (show M - Lo + (R - M - 1 + 1) = k + 1 by lia) ?_
        exact hx
      intro H s st f1 hf1
      refine e1_4 (vr_fix hf1) ?_
      rintro a1 ea1 ha1 hfx1 hco1
      cases ea1
      have le1 : HF.le B (H.plus (innF _ _ _ _ _).own s.heap) := st.m.base.trans (HF.le_plus st.own_none)
      refine ⟨M - Lo - 1 + 1, ?_, ?_⟩
      · show M - Lo - 1 + 1 ≤ k
        omega
      refine (ih (M - Lo - 1) (by omega) _ (IB.mono le1) f1 (HF.le_plus st.own_none _ _ ha1) _ Lo M ds mu (by lia) (by lia) hd8 hlo hi).mono ?_
      rintro v m' hz0
      refine e1_2 hz0 ?_
      clear hz0
      rintro d1 hfl1 rfl
      have hil : i < mu.length := (List.getElem?_eq_some_iff.mp hi).1
      repeat tb_start
      refine ev_callI ?_ rfl
      repeat tb_start
      refine i2_3 _ _ rfl rfl ?_
      repeat tb_start
      intro H2 s2 st2 f2 hf2
      refine e1_4 (vr_fix hf2) ?_
      rintro a2 ea2 ha2 hfx2 hco2
      cases ea2
      have le2 : HF.le B (H2.plus (innF _ _ _ _ _).own s2.heap) := st2.m.base.trans (HF.le_plus st2.own_none)
      refine ⟨R - M - 1 + 1, ?_, ?_⟩
      · show R - M - 1 + 1 ≤ k
        lia
      refine (ih (R - M - 1) (by lia) _ (IB.mono le2) f2 (HF.le_plus st2.own_none _ _ ha2) _ M R d1 _ (by lia) (by rw [hfl1.1]; exact hRd) (by rw [hfl1.1]; exact hd8) hhi (List.getElem?_set_self hil)).mono ?_
      rintro v m' hz0
      refine e1_2 hz0 ?_
      clear hz0
      rintro d2 hfl2 rfl
      repeat tb_start
      refine ⟨d2, filled_two hfl1 hfl2 (by lia) (by lia), ?_⟩
      show (mu.set i _).set i _ = _
      rw [List.set_set]
noncomputable def fpos : Stmt → Pos
  | .FunctionDef _ _ _ _ _ _ _ _ _ pos => pos
  | _ => default
noncomputable abbrev tab6 : MO := .tab (fpos (innSt 6 1)).line (fpos (innSt 6 1)).col q6
section
variable {prog : Program} {w : World} {B : HF} {mg mb : Str → Option Value}
theorem con_i2d (T : TopOk B mg mb) {a n : Nat} (hn0 : 0 < n) (hn : n ≤ 4400) (ha : nb a ≤ n * 8) {mu : Mu} {ti : Nat} (hti : mu[ti]? = some (54, tab6)) :
    Con prog w B 9 (.ref 59) [.int (a : Int), .int (n : Int)] [] mu fun v mu' => ∃ D ds, v = .raw (.ref D) ∧ mu' = (D, .list (dgs ds)) :: mu ∧ ds.length = (nb a + n - 1) / n ∧ ∀ j, j < ds.length → ds[j]? = some (a / 2 ^ (n * j) % 2 ^ n) := by
  refine fn_con T T.f59 ["a"] ["a", "n"] (ab := [("a", .int (a : Int)), ("n", .int (n : Int))]) (fun pm => FnOk.of) (fun pm => Binds.two (fun _ _ => rfl)) rfl (by decide +kernel) fun pm A fit L => ?_
  have hm8 : (nb a + n - 1) / n ≤ 8 := by
    have : (nb a + n - 1) / n < 9 := (Nat.div_lt_iff_lt_mul hn0).mpr (by lia)
    lia
  obtain ⟨m, hm⟩ : ∃ m, m = (nb a + n - 1) / n := ⟨_, rfl⟩
  have ham : nb a ≤ n * m := by
    have h1 := Nat.div_add_mod (nb a + n - 1) n
    have h2 := Nat.mod_lt (nb a + n - 1) hn0
    rw [← hm] at h1
    lia
  refine xs_cons ?_
  repeat tb_start
  refine ev_listF ?_
  repeat tb_start
  refine ⟨by decide, ?_⟩
  repeat tb_start
  refine m_bit_length ?_ ⟨rfl, rfl, rfl⟩
  repeat tb_start
  refine ⟨hasT_int, ?_⟩
  repeat tb_start
  refine cN_bits ?_
  repeat tb_start
  refine rwl (show ((nb a + n : Nat) : Int) - 1 = ((nb a + n - 1 : Nat) : Int) by lia) ?_
  refine bN_fdiv hn0 (Nat.lt_of_lt_of_le (show n < 2 ^ 13 by lia) (Nat.pow_le_pow_right (by decide) (by decide))) ?_
  refine rwr hm ?_
  refine b_listrep (by lia) fun D => ?_
  repeat tb_start
  refine x_def T (c := 58) (P := 54) (i := ti + 1) (q := q6) rfl T.h58 hti (by kernel_rfl) rfl rfl rfl rfl fun doc pm' c' ctv => ?_
  repeat tb_start
  refine tst_plain ?_ rfl
  repeat tb_start
  have hrep : List.replicate m (AV.int 0) = dgs (List.replicate m 0) := by unfold dgs; rw [List.map_replicate]; rfl
  refine ite_both (fun hc => ?_) fun hc => ?_
  · have ha0 : a ≠ 0 := of_decide_eq_true hc
    have hm0 : 0 < m := by
      rcases Nat.eq_zero_or_pos m with e | e
      · exfalso
        have := (nb_pos (show 0 < a by lia)).1
        rw [e] at ham; lia
      · exact e
    refine xs_cons ?_
    repeat tb_start
    refine ev_callI ?_ rfl
    repeat tb_start
    refine i2_3 _ _ rfl rfl ?_
    repeat tb_start
    refine ev_callB (id := "len") ?_
    repeat tb_start
    refine c_len_mu (vs := List.replicate m (.int 0)) (List.mem_of_getElem? (i := 0) rfl) (by rw [List.length_replicate]; lia) ?_
    refine rwl List.length_replicate ?_
    repeat tb_start
    intro H s st f1 hf1
    refine e1_4 (vr_fix hf1) ?_
    rintro a1 ea1 ha1 hfx1 hco1
    cases ea1
    have le1 : HF.le B (H.plus (callF _ _ _ _).own s.heap) := st.m.base.trans (HF.le_plus st.own_none)
    obtain ⟨k, rfl⟩ : ∃ k, m = k + 1 := ⟨m - 1, by lia⟩
    have IB : InnB (H.plus (callF (fdOf (topSt 6) "_int2digits" .none pm (.ref (59 - 1))) ["a"] 59 L).own s.heap) mg mb (innO (innSt 6 1) q6 [("n", L + 1), ("inner", L + 3), ("a_digits", L + 2)] doc pm' c' ctv) [("n", L + 1), ("inner", L + 3), ("a_digits", L + 2)]
        [("a_digits", .raw (.ref D)), ("n", .int (n : Int)), ("inner", .fix (innO (innSt 6 1) q6 [("n", L + 1), ("inner", L + 3), ("a_digits", L + 2)] doc pm' c' ctv))] := by
      refine ⟨T.gr.mono le1, hco1.mono (HF.le_plus st.own_none), fun p hp => ?_⟩
      rcases List.mem_cons.mp hp with rfl | hp
      · refine e2_3 (cellAt st (i := 1) (x := "a_digits") (c := L + 2) (v := .raw (.ref D)) rfl rfl) ?_
        rintro oc u e1 e2 e3
        exact i3_4 _ oc u rfl e1 e2 e3
      rcases List.mem_cons.mp hp with rfl | hp
      · refine e2_3 (cellAt st (i := 2) (x := "n") (c := L + 1) (v := .int (n : Int)) rfl rfl) ?_
        rintro oc u e1 e2 e3
        exact i3_4 _ oc u rfl e1 e2 e3
      rcases List.mem_cons.mp hp with rfl | hp
      · refine e2_3 (cellAt st (i := 0) (x := "inner") (c := L + 3) (v := .fix (innO (innSt 6 1) q6 [("n", L + 1), ("inner", L + 3), ("a_digits", L + 2)] doc pm' c' ctv)) rfl rfl) ?_
        rintro oc u e1 e2 e3
        exact i3_4 _ oc u rfl e1 e2 e3
      cases hp
    refine ⟨k + 1, (show k + 1 ≤ 8 by lia), ?_⟩
    refine (con_inn6 (i := 0) (l := D) hn0 hn k _ IB f1 (HF.le_plus st.own_none _ _ ha1) a 0 (k + 1) (List.replicate (k + 1) 0) ((D, .list (List.replicate (k + 1) (.int 0))) :: mu) (by lia) (by rw [List.length_replicate]; exact Nat.le_refl _) (by rw [List.length_replicate]; lia) (lt_of_nb ham) (by rw [hrep]; rfl)).mono ?_
    rintro v m' hz0
    refine e1_2 hz0 ?_
    clear hz0
    rintro ds hfl rfl
    repeat tb_start
    refine i2_4 D ds rfl rfl ?_ (fun j hj => ?_)
    · rw [hfl.1, List.length_replicate, hm]
    · rw [hfl.1, List.length_replicate] at hj
      have := hfl.2.2 j (Nat.zero_le _) hj
      rw [Nat.sub_zero] at this
      exact this
  · have ha0 : a = 0 := by have := of_decide_eq_false hc; lia
    have hm0 : m = 0 := by
      refine rwl hm ?_
      refine rwl ha0 ?_
      show (nb 0 + n - 1) / n = 0
      refine rwl (show nb 0 = 0 from rfl) ?_
      refine rwl (Nat.zero_add _) ?_
      exact Nat.div_eq_of_lt (by lia)
    refine xs_nil (then_next ?_)
    repeat tb_start
    refine i2_4 D ([]) rfl ?_ ?_ (fun j hj => ?_)
    · rw [hm0]; rfl
    · rw [hm0]; rfl
    · cases hj
end
noncomputable def dval (n : Nat) (ds : List Nat) : Nat → Nat → Nat
  | _, 0 => 0
  | L, k + 1 => ds.getD L 0 + 2 ^ n * dval n ds (L + 1) k
theorem dval_add (n : Nat) (ds : List Nat) : ∀ (k1 k2 L : Nat), dval n ds L (k1 + k2) = dval n ds L k1 + 2 ^ (n * k1) * dval n ds (L + k1) k2
  | 0, k2, L => by simp [dval]
  | k1 + 1, k2, L => by
    have ih := dval_add n ds k1 k2 (L + 1)
    have e1 : n + n * k1 = n * (k1 + 1) := by rw [Nat.mul_add]; lia
    have e2 : L + 1 + k1 = L + (k1 + 1) := by lia
    refine rwl (show k1 + 1 + k2 = (k1 + k2) + 1 by lia) ?_
    show ds.getD L 0 + 2 ^ n * dval n ds (L + 1) (k1 + k2) = ds.getD L 0 + 2 ^ n * dval n ds (L + 1) k1 + _
    rw [ih, Nat.mul_add, ← Nat.mul_assoc, ← Nat.pow_add, e1, e2, Nat.add_assoc]
theorem dval_lt {n : Nat} {ds : List Nat} (h : ∀ d ∈ ds, d < 2 ^ n) : ∀ (k L : Nat), dval n ds L k < 2 ^ (n * k)
  | 0, L => by simp [dval]
  | k + 1, L => by
    have h1 := dval_lt h k (L + 1)
    have h2 : ds.getD L 0 < 2 ^ n := by
      refine rwl List.getD_eq_getElem?_getD ?_
      cases e : ds[L]? with
      | none => simpa using Nat.two_pow_pos n
      | some d => exact h d (List.mem_of_getElem? e)
    rw [dval, show n * (k + 1) = n + n * k by rw [Nat.mul_add]; lia, Nat.pow_add]
    have : 2 ^ n * (dval n ds (L + 1) k + 1) ≤ 2 ^ n * 2 ^ (n * k) := Nat.mul_le_mul_left _ h1
    rw [Nat.mul_add] at this
    lia

noncomputable def q7 : Str := "_digits2int.<locals>.inner"
theorem con_inn7 {prog : Program} {w : World} {mg mb : Str → Option Value} {clos : List (Str × Addr)} {doc pm : Value} {c' : Addr} {ctv : Value} {n l : Nat} (hn : n ≤ 4400) {i : Nat} {ds : List Nat} (hds : ∀ d ∈ ds, d < 2 ^ n) (hd8 : ds.length ≤ 8) {mu : Mu} (hi : mu[i]? = some (l, .list (dgs ds))) : ∀ (k : Nat) (B : HF), InnB B mg mb (innO (innSt 7 0) q7 clos doc pm c' ctv) clos
    [("digits", .raw (.ref l)), ("n", .int (n : Int)), ("inner", .fix (innO (innSt 7 0) q7 clos doc pm c' ctv))] → ∀ f, B f = some (innO (innSt 7 0) q7 clos doc pm c' ctv) → ∀ (Lo R : Nat), R = Lo + (k + 1) → R ≤ ds.length →
    Con prog w B (k + 1) (.ref f) [.int (Lo : Int), .int (R : Int)] [] mu fun v mu' => v = .int ((dval n ds Lo (k + 1) : Nat) : Int) ∧ mu' = mu := by
  intro k
  induction k using Nat.strongRecOn with
  | ind k ih =>
    intro B IB f hf Lo R hR hRd
    refine inn_con IB hf ["L", "R", "mid", "shift"] ["L", "R"] (ab := [("L", .int (Lo : Int)), ("R", .int (R : Int))]) (InOk.of ["digits", "n", "inner"] rfl) (Binds.two (fun _ _ => rfl)) rfl (by decide +kernel) fun A fit L => ?_
    refine xs_cons ?_
    repeat tb_start
    refine ite_both (fun hc => ?_) fun hc => ?_
    · have e1 : Lo + 1 = R := of_decide_eq_true hc
      have hk : k = 0 := by lia
      subst hk
      repeat tb_start
      refine s_mu i hi (by lia) (by lia) (v := .int ((ds.getD Lo 0 : Nat) : Int)) ?_ ?_
      · rw [Int.toNat_natCast, dgs, List.getElem?_map, List.getElem?_eq_getElem (by lia), List.getD_eq_getElem?_getD, List.getElem?_eq_getElem (by lia)]; rfl
      repeat tb_start
      exact ⟨by simp [dval, AF.val], rfl⟩
    · have e1 : Lo + 1 ≠ R := of_decide_eq_false hc
      have hk : 0 < k := by lia
      obtain ⟨M, hM⟩ : ∃ M, M = (Lo + R) / 2 := ⟨_, rfl⟩
      have hLM : Lo < M := by lia
      have hMR : M < R := by lia
      have hs : (M - Lo) * n ≤ 35200 := Nat.le_trans (Nat.mul_le_mul (show M - Lo ≤ 8 by lia) hn) (by decide)
      repeat tb_start
      refine rwr hM ?_
      refine rwl (show (M : Int) - (Lo : Int) = ((M - Lo : Nat) : Int) by lia) ?_
      refine bN_mul ?_ ?_ ?_
      · exact Nat.lt_of_lt_of_le (show M - Lo < 2 ^ 4 by lia) (Nat.pow_le_pow_right (by decide) (by decide))
      · exact Nat.lt_of_lt_of_le (show n < 2 ^ 13 by lia) (Nat.pow_le_pow_right (by decide) (by decide))
      repeat tb_start
      refine ev_callI ?_ rfl
      repeat tb_start
      refine i2_3 _ _ rfl rfl ?_
      repeat tb_start
      intro H s st f1 hf1
      refine e1_4 (vr_fix hf1) ?_
      rintro a1 ea1 ha1 hfx1 hco1
      cases ea1
      have le1 : HF.le B (H.plus (innF _ _ _ _ _).own s.heap) := st.m.base.trans (HF.le_plus st.own_none)
      refine ⟨R - M - 1 + 1, ?_, ?_⟩
      · show R - M - 1 + 1 ≤ k
        lia
      refine (ih (R - M - 1) (by lia) _ (IB.mono le1) f1 (HF.le_plus st.own_none _ _ ha1) M R (by lia) hRd).mono ?_
      refine q0_2 ?_
      repeat tb_start
      have hv := nb_le (Nat.lt_of_lt_of_le (dval_lt hds (R - M - 1 + 1) M) (Nat.pow_le_pow_right (by decide) (show n * (R - M - 1 + 1) ≤ 35200 from Nat.le_trans (Nat.mul_le_mul hn (show R - M - 1 + 1 ≤ 8 by lia)) (by decide))))
      refine bN_shl (by lia) ?_
      refine ev_callI ?_ rfl
      repeat tb_start
      refine i2_3 _ _ rfl rfl ?_
      repeat tb_start
      intro H2 s2 st2 f2 hf2
      refine e1_4 (vr_fix hf2) ?_
      rintro a2 ea2 ha2 hfx2 hco2
      cases ea2
      have le2 : HF.le B (H2.plus (innF _ _ _ _ _).own s2.heap) := st2.m.base.trans (HF.le_plus st2.own_none)
      refine ⟨M - Lo - 1 + 1, ?_, ?_⟩
      · show M - Lo - 1 + 1 ≤ k
        lia
      refine (ih (M - Lo - 1) (by lia) _ (IB.mono le2) f2 (HF.le_plus st2.own_none _ _ ha2) Lo M (by lia) (by lia)).mono ?_
      refine q0_2 ?_
      repeat tb_start
      refine ⟨?_, rfl⟩
      have e := dval_add n ds (M - Lo - 1 + 1) (R - M - 1 + 1) Lo
      rw [show M - Lo - 1 + 1 + (R - M - 1 + 1) = k + 1 by lia, show Lo + (M - Lo - 1 + 1) = M by lia] at e
      refine rwl e ?_
      show AV.int _ = AV.int _
      rw [show n * (M - Lo - 1 + 1) = (M - Lo) * n by rw [Nat.mul_comm, show M - Lo - 1 + 1 = M - Lo by lia], Nat.mul_comm (2 ^ _), Nat.add_comm]

noncomputable abbrev tab7 : MO := .tab (fpos (innSt 7 0)).line (fpos (innSt 7 0)).col q7
section
variable {prog : Program} {w : World} {B : HF} {mg mb : Str → Option Value}
theorem con_d2i (T : TopOk B mg mb) {n : Nat} (hn : n ≤ 4400) {ds : List Nat} (hds : ∀ d ∈ ds, d < 2 ^ n) (hd8 : ds.length ≤ 8) {l : Addr} {mu : Mu} {i ti : Nat} (hi : mu[i]? = some (l, .list (dgs ds))) (hti : mu[ti]? = some (61, tab7)) :
    Con prog w B 9 (.ref 66) [.raw (.ref l), .int (n : Int)] [] mu fun v mu' => v = .int ((dval n ds 0 ds.length : Nat) : Int) ∧ mu' = mu := by
  refine fn_con T T.f66 [] ["digits", "n"] (ab := [("digits", .raw (.ref l)), ("n", .int (n : Int))]) (fun pm => FnOk.of) (fun pm => Binds.two (fun _ _ => rfl)) rfl (by decide +kernel) fun pm A fit L => ?_
  refine xs_cons ?_
  repeat tb_start
  refine x_def T (c := 65) (P := 61) (i := ti) (q := q7) rfl T.h65 hti (by kernel_rfl) rfl rfl rfl rfl fun doc pm' c' ctv => ?_
  repeat tb_start
  refine ev_ifexp ?_
  refine tst_plain ?_ rfl
  repeat tb_start
  refine tru_list (LstAt.mu (vs := dgs ds) hi) (by unfold dgs; rw [List.length_map]; lia) ?_
  refine ite_both (fun hc => ?_) fun hc => ?_
  · have hd0 : 0 < ds.length := by
      cases ds with
      | nil => cases hc
      | cons a r => simp
    refine ev_callI ?_ rfl
    repeat tb_start
    refine i2_3 _ _ rfl rfl ?_
    repeat tb_start
    refine ev_callB (id := "len") ?_
    repeat tb_start
    refine c_len_mu (vs := dgs ds) (List.mem_of_getElem? hi) (by unfold dgs; rw [List.length_map]; lia) ?_
    refine rwl (show (dgs ds).length = ds.length from List.length_map _) ?_
    repeat tb_start
    intro H s st f1 hf1
    refine e1_4 (vr_fix hf1) ?_
    rintro a1 ea1 ha1 hfx1 hco1
    cases ea1
    have le1 : HF.le B (H.plus (callF _ _ _ _).own s.heap) := st.m.base.trans (HF.le_plus st.own_none)
    obtain ⟨k, hk⟩ : ∃ k, ds.length = k + 1 := ⟨ds.length - 1, by lia⟩
    have IB : InnB (H.plus (callF (fdOf (topSt 7) "_digits2int" .none pm (.ref (66 - 1))) [] 66 L).own s.heap) mg mb (innO (innSt 7 0) q7 [("n", L + 2), ("inner", L + 3), ("digits", L + 1)] doc pm' c' ctv) [("n", L + 2), ("inner", L + 3), ("digits", L + 1)]
        [("digits", .raw (.ref l)), ("n", .int (n : Int)), ("inner", .fix (innO (innSt 7 0) q7 [("n", L + 2), ("inner", L + 3), ("digits", L + 1)] doc pm' c' ctv))] := by
      refine ⟨T.gr.mono le1, hco1.mono (HF.le_plus st.own_none), fun p hp => ?_⟩
      rcases List.mem_cons.mp hp with rfl | hp
      · refine e2_3 (cellAt st (i := 2) (x := "digits") (c := L + 1) (v := .raw (.ref l)) rfl rfl) ?_
        rintro oc u e1 e2 e3
        exact i3_4 _ oc u rfl e1 e2 e3
      rcases List.mem_cons.mp hp with rfl | hp
      · refine e2_3 (cellAt st (i := 1) (x := "n") (c := L + 2) (v := .int (n : Int)) rfl rfl) ?_
        rintro oc u e1 e2 e3
        exact i3_4 _ oc u rfl e1 e2 e3
      rcases List.mem_cons.mp hp with rfl | hp
      · refine e2_3 (cellAt st (i := 0) (x := "inner") (c := L + 3) (v := .fix (innO (innSt 7 0) q7 [("n", L + 2), ("inner", L + 3), ("digits", L + 1)] doc pm' c' ctv)) rfl rfl) ?_
        rintro oc u e1 e2 e3
        exact i3_4 _ oc u rfl e1 e2 e3
      cases hp
    refine rwl hk ?_
    refine ⟨k + 1, (show k + 1 ≤ 8 by lia), ?_⟩
    refine (con_inn7 (i := i) (l := l) hn hds hd8 hi k _ IB f1 (HF.le_plus st.own_none _ _ ha1) 0 (k + 1) (by lia) (by lia)).mono ?_
    refine q0_2 ?_
    repeat tb_start
    exact ⟨rfl, rfl⟩
  · have hd0 : ds = [] := by
      cases ds with
      | nil => rfl
      | cons a r => cases hc
    subst hd0
    repeat tb_start
    exact ⟨rfl, rfl⟩
end
theorem dval_cons (n q : Nat) (l : List Nat) : ∀ (k L : Nat), dval n (q :: l) (L + 1) k = dval n l L k
  | 0, L => rfl
  | k + 1, L => by
    show (q :: l).getD (L + 1) 0 + 2 ^ n * dval n (q :: l) (L + 1 + 1) k = l.getD L 0 + _
    refine rwl (dval_cons n q l k (L + 1)) ?_
    rfl
theorem dval_snoc (n q : Nat) (qs : List Nat) : dval n (qs ++ [q]).reverse 0 (qs ++ [q]).length = dval n qs.reverse 0 qs.length * 2 ^ n + q := by
  rw [List.reverse_append, List.length_append]
  show q + 2 ^ n * dval n (q :: qs.reverse) (0 + 1) qs.length = _
  rw [dval_cons, Nat.mul_comm, Nat.add_comm]
theorem horner {a b n P r d : Nat} (hb : 0 < b) (hd : d < 2 ^ n) (hr : r = P % b) : r * 2 ^ n + d < b * 2 ^ n ∧ (P * 2 ^ n + d) / b = P / b * 2 ^ n + (r * 2 ^ n + d) / b ∧ (P * 2 ^ n + d) % b = (r * 2 ^ n + d) % b := by
  subst hr
  have h1 := Nat.mod_lt P hb
  have h2 : (P % b + 1) * 2 ^ n ≤ b * 2 ^ n := Nat.mul_le_mul_right _ h1
  rw [Nat.add_mul, Nat.one_mul] at h2
  have e : P * 2 ^ n + d = b * (P / b * 2 ^ n) + (P % b * 2 ^ n + d) := by
    have := Nat.div_add_mod P b
    conv => lhs; rw [← this]
    rw [Nat.add_mul, Nat.mul_assoc, Nat.add_assoc]
  refine ⟨by lia, ?_, ?_⟩
  · conv => lhs; rw [e]
    rw [Nat.mul_add_div hb]
  · conv => lhs; rw [e]
    rw [Nat.mul_add_mod]
theorem dgs_rev (l : List Nat) : (dgs l).reverse = dgs l.reverse := by unfold dgs; rw [List.map_reverse]
section
variable {prog : Program} {w : World} {B : HF} {mg mb : Str → Option Value}
theorem con_pos (T : TopOk B mg mb) {a b : Nat} (hb : 0 < b) (hbs : nb b ≤ 4400) (ha : nb a ≤ nb b * 8) {mu : Mu} {t6 t7 : Nat} (h6 : mu[t6]? = some (54, tab6)) (h7 : mu[t7]? = some (61, tab7)) :
    Con prog w B 10 (.ref 73) [.int (a : Int), .int (b : Int)] [] mu fun v mu' => v = .tup [.int ((a / b : Nat) : Int), .int ((a % b : Nat) : Int)] ∧ mu' = mu := by
  refine fn_con T T.f73 ["a", "b", "n", "a_digits", "r", "q_digits", "a_digit", "q_digit", "q"] ["a", "b"] (ab := [("a", .int (a : Int)), ("b", .int (b : Int))]) (fun pm => FnOk.of) (fun pm => Binds.two (fun _ _ => rfl)) rfl (by decide +kernel) fun pm A fit L => ?_
  obtain ⟨n, hn⟩ : ∃ n, n = nb b := ⟨_, rfl⟩
  have hnp := nb_pos hb
  rw [← hn] at hbs ha hnp
  have hbn : b < 2 ^ n := by rw [hn]; exact lt_nb b
  refine e2_3 T.f59 ?_
  rintro o59 pm59 ho59 hd59 _
  refine e2_3 T.f45 ?_
  rintro o45 pm45 ho45 hd45 _
  refine e2_3 T.f66 ?_
  rintro o66 pm66 ho66 hd66 _
  refine xs_cons ?_
  repeat tb_start
  refine m_bit_length ?_ ⟨rfl, rfl, rfl⟩
  repeat tb_start
  refine ⟨hasT_int, ?_⟩
  repeat tb_start
  refine cN_bits ?_
  refine rwr hn ?_
  repeat tb_start
  refine ev_callF (a := 59) ho59 hd59 ?_ rfl
  repeat tb_start
  refine Con.callK ((con_i2d T (a := a) (n := n) hnp.1 hbs ha h6).mono ?_) (Nat.le_refl 9)
  rintro v m hz0
  refine e2_4 hz0 ?_
  clear hz0
  rintro D ds rfl rfl hdl hdd
  have hm8 : ds.length ≤ 8 := by
    refine rwl hdl ?_
    have : (nb a + n - 1) / n < 9 := (Nat.div_lt_iff_lt_mul hnp.1).mpr (by lia)
    lia
  have ham : a < 2 ^ (n * ds.length) := by
    refine lt_of_nb ?_
    have h1 := Nat.div_add_mod (nb a + n - 1) n
    have h2 := Nat.mod_lt (nb a + n - 1) hnp.1
    rw [← hdl] at h1
    lia
  repeat tb_start
  refine ev_list ?_
  repeat tb_start
  refine ⟨by decide, fun Dq => ?_⟩
  repeat tb_start
  refine x_forRev ?_ rfl (fun _ => rfl)
  repeat tb_start
  let JJ : Nat → S → Prop := fun i σ => ∃ (qs : List Nat) (r : Nat) (v1 v2 : Option AV), qs.length = i ∧ (∀ d ∈ qs, d < 2 ^ n) ∧ dval n qs.reverse 0 qs.length = a / 2 ^ (n * (ds.length - i)) / b ∧ r = a / 2 ^ (n * (ds.length - i)) % b ∧
    σ = ⟨[some (.int (a : Int)), some (.int (b : Int)), some (.int (n : Int)), some (.raw (.ref D)), some (.int (r : Int)), some (.raw (.ref Dq)), v1, v2, none], [], (Dq, .list (dgs qs)) :: (D, .list (dgs ds)) :: mu⟩
  refine ⟨D, 1, dgs ds, rfl, rfl, JJ, ?_, ?_, ?_, ?_⟩
  · rintro i σ hz0
    refine e4_5 hz0 ?_
    clear hz0
    rintro qs r v1 v2 _ _ _ _ rfl
    exact List.mem_of_getElem? (i := 1) rfl
  · refine i4_5 ([]) 0 none none rfl (by simp) ?_ ?_ rfl
    · rw [Nat.sub_zero, Nat.div_eq_of_lt ham, Nat.zero_div]; rfl
    · rw [Nat.sub_zero, Nat.div_eq_of_lt ham, Nat.zero_mod]
  · rintro i v σ hv hz0
    refine e4_5 hz0 ?_
    clear hz0
    rintro qs r v1 v2 hqi hqs hq hr rfl
    rw [dgs_rev] at hv
    unfold dgs at hv
    rw [List.getElem?_map] at hv
    have hi : i < ds.length := by
      cases e : ds.reverse[i]? with
      | none => rw [e] at hv; cases hv
      | some d => have := (List.getElem?_eq_some_iff.mp e).1; simpa using this
    rw [List.getElem?_reverse hi, hdd _ (by lia)] at hv
    cases hv
    obtain ⟨j, hj⟩ : ∃ j, j = ds.length - 1 - i := ⟨_, rfl⟩
    refine rwr hj ?_
    have ej : ds.length - i = j + 1 := by lia
    rw [ej] at hq hr
    have hdlt : a / 2 ^ (n * j) % 2 ^ n < 2 ^ n := Nat.mod_lt _ (Nat.two_pow_pos n)
    have hP : a / 2 ^ (n * (j + 1)) * 2 ^ n + a / 2 ^ (n * j) % 2 ^ n = a / 2 ^ (n * j) := by
      refine rwl (Nat.mul_add _ _ _) ?_
      refine rwl (Nat.mul_one _) ?_
      refine rwl (Nat.pow_add _ _ _) ?_
      refine rwr (Nat.div_div_eq_div_mul _ _ _) ?_
      refine rwl (Nat.mul_comm _ _) ?_
      exact Nat.div_add_mod _ _
    refine e0_3 (horner (a := a) hb hdlt hr) ?_
    rintro g1 g2 g3
    rw [hP] at g2 g3
    have hrb : r < b := by rw [hr]; exact Nat.mod_lt _ hb
    repeat tb_start
    refine x_tup ?_ (fun _ => rfl) rfl rfl
    refine ev_callF (a := 45) ho45 hd45 ?_ rfl
    repeat tb_start
    refine bN_shl (by have := nb_le (Nat.lt_trans hrb hbn); lia) ?_
    repeat tb_start
    refine Con.callK ((con_d2 T (a := r * 2 ^ n + a / 2 ^ (n * j) % 2 ^ n) (b := b) (n := n) hnp.1 hbs hbn hnp.2 g1).mono ?_) (Nat.le_of_ble_eq_true rfl)
    refine q0_2 ?_
    refine i1_3 _ rfl rfl ?_
    repeat tb_start
    refine m_append ?_ ⟨rfl, rfl, rfl⟩
    repeat tb_start
    refine ⟨hasT_mu (List.mem_of_getElem? (i := 0) rfl), ?_⟩
    repeat tb_start
    refine c_append 0 rfl (by unfold dgs; rw [List.length_map, hqi, sizeLine_eq]; lia) ?_
    repeat tb_start
    have hda : dgs (qs ++ [(r * 2 ^ n + a / 2 ^ (n * j) % 2 ^ n) / b]) = dgs qs ++ [AV.int (((r * 2 ^ n + a / 2 ^ (n * j) % 2 ^ n) / b : Nat) : Int)] := by unfold dgs; rw [List.map_append]; rfl
    refine ⟨_, Le.refl _, qs ++ [(r * 2 ^ n + a / 2 ^ (n * j) % 2 ^ n) / b], (r * 2 ^ n + a / 2 ^ (n * j) % 2 ^ n) % b, some (.int ((a / 2 ^ (n * j) % 2 ^ n : Nat) : Int)), some (.int (((r * 2 ^ n + a / 2 ^ (n * j) % 2 ^ n) / b : Nat) : Int)), by rw [List.length_append, hqi]; rfl, ?_, ?_, ?_, ?_⟩
    · intro d hd
      rcases List.mem_append.mp hd with hd | hd
      · exact hqs d hd
      · have : d = (r * 2 ^ n + a / 2 ^ (n * j) % 2 ^ n) / b := by simpa using hd
        refine rwl this ?_
        exact Nat.div_lt_of_lt_mul g1
    · rw [dval_snoc, hq, show ds.length - (i + 1) = j by lia, g2]
    · rw [show ds.length - (i + 1) = j by lia, g3]
    · rw [hda]; rfl
  · rintro σ hz0
    refine e4_5 hz0 ?_
    clear hz0
    rintro qs r v1 v2 hqi hqs hq hr rfl
    have hlen : (dgs ds).length = ds.length := by unfold dgs; rw [List.length_map]
    rw [hlen] at hqi hq hr
    rw [Nat.sub_self, Nat.mul_zero, Nat.pow_zero, Nat.div_one] at hq hr
    repeat tb_start
    refine m_reverse ?_ ⟨rfl, rfl, rfl⟩
    repeat tb_start
    refine ⟨hasT_mu (List.mem_of_getElem? (i := 0) rfl), ?_⟩
    repeat tb_start
    refine c_reverse 0 rfl (by unfold dgs; rw [List.length_map, hqi, sizeLine_eq]; lia) ?_
    refine rwl (dgs_rev _) ?_
    repeat tb_start
    refine ev_callF (a := 66) ho66 hd66 ?_ rfl
    repeat tb_start
    refine Con.callK ((con_d2i T (n := n) hbs (ds := qs.reverse) (fun d hd => hqs d (List.mem_reverse.mp hd)) (by rw [List.length_reverse, hqi]; exact hm8) (i := 0) (ti := t7 + 2) rfl h7).mono ?_) (Nat.le_refl 9)
    refine q0_2 ?_
    refine rwl List.length_reverse ?_
    refine rwl hq ?_
    refine rwl hr ?_
    tb_start
    refine then_next (Tri.le (Le.skip 2) ?_)
    repeat tb_start
    refine ev_tuple ?_
    repeat tb_start
    refine ⟨by rw [sizeLine_eq]; exact Nat.le_of_ble_eq_true rfl, ?_⟩
    repeat tb_start
    exact ⟨rfl, rfl⟩

theorem fdiv_neg_big (a b : Nat) (hb : 0 < b) : Int.fdiv (-(a : Int) - 1) (b : Int) = -((a / b : Nat) : Int) - 1 ∧ Int.fmod (-(a : Int) - 1) (b : Int) = (b : Int) - 1 - ((a % b : Nat) : Int) := by
  have e := Nat.div_add_mod a b
  have l := Nat.mod_lt a hb
  refine rwl (Int.fdiv_eq_ediv_of_nonneg _ (by lia)) ?_
  refine rwl (Int.fmod_eq_emod_of_nonneg _ (by lia)) ?_
  refine (Int.ediv_emod_unique (by lia)).mpr ⟨?_, by lia, by lia⟩
  have : ((b * (a / b) + a % b : Nat) : Int) = (a : Int) := by rw [e]
  rw [Int.natCast_add, Int.natCast_mul] at this
  refine rwl (Int.mul_sub _ _ _) ?_
  refine rwl (Int.mul_neg _ _) ?_
  lia
theorem con_idm0 (T : TopOk B mg mb) {a b : Nat} (hb : 0 < b) (hbs : nb b ≤ 4400) (ha : nb a ≤ nb b * 8) {mu : Mu} {t6 t7 : Nat} (h6 : mu[t6]? = some (54, tab6)) (h7 : mu[t7]? = some (61, tab7)) :
    Con prog w B 11 (.ref 80) [.int (a : Int), .int (b : Int)] [] mu fun v mu' => v = .tup [.int ((a : Int).fdiv (b : Int)), .int ((a : Int).fmod (b : Int))] ∧ mu' = mu := by
  refine fn_con T T.f80 ["a", "b", "q", "r"] ["a", "b"] (ab := [("a", .int (a : Int)), ("b", .int (b : Int))]) (fun pm => FnOk.of) (fun pm => Binds.two (fun _ _ => rfl)) rfl (by decide +kernel) fun pm A fit L => ?_
  refine e2_3 T.f73 ?_
  rintro o73 pm73 ho73 hd73 _
  refine xs_cons ?_
  repeat tb_start
  refine ite_f (show ((b : Int) == 0) = false by simpa using (by lia : b ≠ 0)) ?_
  repeat tb_start
  refine ev_callF (a := 73) ho73 hd73 ?_ rfl
  repeat tb_start
  refine Con.callK ((con_pos T hb hbs ha h6 h7).mono ?_) (Nat.le_refl 10)
  refine q0_2 ?_
  repeat tb_start
  refine rwl (fdivN _ _) ?_
  refine rwl (fmodN _ _) ?_
  exact ⟨rfl, rfl⟩
theorem con_idm1 (T : TopOk B mg mb) {a b : Nat} (hb : 0 < b) (hbs : nb b ≤ 4400) (ha : nb a ≤ nb b * 8) {mu : Mu} {t6 t7 : Nat} (h6 : mu[t6]? = some (54, tab6)) (h7 : mu[t7]? = some (61, tab7)) :
    Con prog w B 12 (.ref 80) [.int (-(a : Int) - 1), .int (b : Int)] [] mu fun v mu' => v = .tup [.int ((-(a : Int) - 1).fdiv (b : Int)), .int ((-(a : Int) - 1).fmod (b : Int))] ∧ mu' = mu := by
  refine fn_con T T.f80 ["a", "b", "q", "r"] ["a", "b"] (ab := [("a", .int (-(a : Int) - 1)), ("b", .int (b : Int))]) (fun pm => FnOk.of) (fun pm => Binds.two (fun _ _ => rfl)) rfl (by decide +kernel) fun pm A fit L => ?_
  refine e2_3 T.f80 ?_
  rintro o80 pm80 ho80 hd80 _
  refine xs_cons ?_
  repeat tb_start
  refine ite_f (show ((b : Int) == 0) = false by simpa using (by lia : b ≠ 0)) ?_
  repeat tb_start
  refine ite_t (decide_eq_true (by lia)) ?_
  repeat tb_start
  refine x_tup ?_ (fun _ => rfl) rfl rfl
  refine ev_callF (a := 80) ho80 hd80 ?_ rfl
  repeat tb_start
  refine rwl (show Builtin.bitNot (-(a : Int) - 1) = (a : Int) by unfold Builtin.bitNot; lia) ?_
  refine Con.callK ((con_idm0 T hb hbs ha h6 h7).mono ?_) (Nat.le_refl 11)
  refine q0_2 ?_
  refine i1_3 _ rfl rfl ?_
  repeat tb_start
  refine ev_tuple ?_
  repeat tb_start
  refine ⟨by rw [sizeLine_eq]; exact Nat.le_of_ble_eq_true rfl, ?_⟩
  repeat tb_start
  refine e0_2 (fdiv_neg_big a b hb) ?_
  rintro f1 f2
  have g1 : Builtin.bitNot ((a : Int).fdiv (b : Int)) = (-(a : Int) - 1).fdiv (b : Int) := by rw [f1, fdivN]; unfold Builtin.bitNot; lia
  have g2 : (b : Int) + Builtin.bitNot ((a : Int).fmod (b : Int)) = (-(a : Int) - 1).fmod (b : Int) := by rw [f2, fmodN]; unfold Builtin.bitNot; lia
  refine rwl g1 ?_
  refine rwl g2 ?_
  exact ⟨rfl, rfl⟩
theorem con_idmP (T : TopOk B mg mb) {a : Int} {b : Nat} (hb : 0 < b) (hbs : nb b ≤ 4400) (ha : nb a.natAbs ≤ nb b * 8) {mu : Mu} {t6 t7 : Nat} (h6 : mu[t6]? = some (54, tab6)) (h7 : mu[t7]? = some (61, tab7)) :
    Con prog w B 12 (.ref 80) [.int a, .int (b : Int)] [] mu fun v mu' => v = .tup [.int (a.fdiv (b : Int)), .int (a.fmod (b : Int))] ∧ mu' = mu := by
  by_cases h : 0 ≤ a
  · obtain ⟨n, rfl⟩ := Int.eq_ofNat_of_zero_le h
    exact (con_idm0 T hb hbs (by simpa using ha) h6 h7).le (by decide)
  · obtain ⟨n, hn⟩ : ∃ n : Nat, a = -(n : Int) - 1 := ⟨(-a - 1).toNat, by lia⟩
    subst hn
    refine con_idm1 T hb hbs (nb_le (Nat.lt_of_le_of_lt ?_ (lt_of_nb ha))) h6 h7
    lia
theorem con_idm (T : TopOk B mg mb) {a b : Int} (hb : b ≠ 0) (hbs : nb b.natAbs ≤ 4400) (ha : nb a.natAbs ≤ nb b.natAbs * 8) {mu : Mu} {t6 t7 : Nat} (h6 : mu[t6]? = some (54, tab6)) (h7 : mu[t7]? = some (61, tab7)) :
    Con prog w B 13 (.ref 80) [.int a, .int b] [] mu fun v mu' => v = .tup [.int (a.fdiv b), .int (a.fmod b)] ∧ mu' = mu := by
  by_cases h : 0 ≤ b
  · refine e1_1 (Int.eq_ofNat_of_zero_le h) ?_
    rintro n rfl
    exact (con_idmP T (by lia) (by simpa using hbs) (by simpa using ha) h6 h7).le (by decide)
  obtain ⟨n, hn⟩ : ∃ n : Nat, b = -(n : Int) := ⟨(-b).toNat, by lia⟩
  subst hn
  rw [Int.natAbs_neg, Int.natAbs_natCast] at hbs ha
  have hn0 : 0 < n := by lia
  refine fn_con T T.f80 ["a", "b", "q", "r"] ["a", "b"] (ab := [("a", .int a), ("b", .int (-(n : Int)))]) (fun pm => FnOk.of) (fun pm => Binds.two (fun _ _ => rfl)) rfl (by decide +kernel) fun pm A fit L => ?_
  refine e2_3 T.f80 ?_
  rintro o80 pm80 ho80 hd80 _
  refine xs_cons ?_
  repeat tb_start
  refine ite_f (show ((-(n : Int)) == 0) = false by rw [beq_eq_false_iff_ne]; omega) ?_
  repeat tb_start
  refine ite_t (decide_eq_true (by lia)) ?_
  repeat tb_start
  refine x_tup ?_ (fun _ => rfl) rfl rfl
  refine ev_callF (a := 80) ho80 hd80 ?_ rfl
  repeat tb_start
  refine rwl (Int.neg_neg _) ?_
  refine Con.callK ((con_idmP T hn0 hbs (by rw [Int.natAbs_neg]; exact ha) h6 h7).mono ?_) (Nat.le_refl 12)
  refine q0_2 ?_
  refine i1_3 _ rfl rfl ?_
  repeat tb_start
  refine ev_tuple ?_
  repeat tb_start
  refine ⟨by rw [sizeLine_eq]; exact Nat.le_of_ble_eq_true rfl, ?_⟩
  repeat tb_start
  have g1 : (-a).fdiv (n : Int) = a.fdiv (-(n : Int)) := by
    have := Int.neg_fdiv_neg a (-(n : Int))
    rw [Int.neg_neg] at this
    exact this
  have g2 : -((-a).fmod (n : Int)) = a.fmod (-(n : Int)) := by
    have h1 := Int.fmod_add_mul_fdiv (-a) (n : Int)
    have h2 := Int.fmod_add_mul_fdiv a (-(n : Int))
    rw [← g1, Int.neg_mul] at h2
    omega
  refine rwl g1 ?_
  refine rwl g2 ?_
  exact ⟨rfl, rfl⟩
end
end

section
open PySem PySem.Builtin PySem.Builtin.Str
noncomputable abbrev chs (x : Str) : List Nat := x.cps.toList
theorem chs_inj {x y : Str} (h : chs x = chs y) : x = y := by
  obtain ⟨x⟩ := x; obtain ⟨y⟩ := y
  exact congrArg Str.mk (Array.toList_inj.mp h)
theorem chs_append (x y : Str) : chs (x ++ y) = chs x ++ chs y := by
  show (x.cps ++ y.cps).toList = _
  rw [Array.toList_append]
theorem chs_len (x : Str) : (chs x).length = x.cps.size := Array.length_toList
theorem foldl_cat : ∀ (l : List Str) (acc : Array Nat), (l.foldl (fun acc p => acc ++ ("" : Str).cps ++ p.cps) acc).toList = acc.toList ++ (l.map chs).flatten
  | [], acc => by simp
  | a :: r, acc => by
    refine rwl List.foldl_cons ?_
    refine rwl (foldl_cat r _) ?_
    have : ("" : Str).cps = #[] := rfl
    simp [this, List.append_assoc]
theorem chs_join0 (l : List Str) : chs (Txt.join "" l) = (l.map chs).flatten := by
  cases l with
  | nil => rfl
  | cons a r =>
    show ((r.foldl (fun acc p => acc ++ ("" : Str).cps ++ p.cps) a.cps)).toList = _
    refine rwl (foldl_cat _ _) ?_
    rfl
theorem chs_cut (x : Str) (b e : Nat) : chs (cut x b e) = ((chs x).drop b).take (e - b) := by
  show (x.cps.extract b e).toList = _
  rw [Array.toList_extract]
theorem getD_chs (x : Str) (i : Nat) : x.cps.getD i 0 = (chs x).getD i 0 := by
  rw [List.getD_eq_getElem?_getD, Array.getElem?_toList, Array.getD_eq_getD_getElem?]

/- line ends -/
noncomputable def nrm : List Nat → List Nat
  | [] => []
  | 13 :: 10 :: r => 13 :: 10 :: nrm r
  | c :: r => if c = 10 ∨ c = 13 then 13 :: 10 :: nrm r else c :: nrm r
theorem nrm_other {c : Nat} {r : List Nat} (h : c ≠ 10 ∧ c ≠ 13) : nrm (c :: r) = c :: nrm r := by
  rw [nrm]
  · rw [if_neg (by lia)]
  · intro r' e; exact fun _ => h.2 e
theorem nrm_10 (r : List Nat) : nrm (10 :: r) = 13 :: 10 :: nrm r := by
  rw [nrm]
  · rw [if_pos (.inl rfl)]
  · intro r' e; cases e
theorem nrm_13 {r : List Nat} (h : r.head? ≠ some 10) : nrm (13 :: r) = 13 :: 10 :: nrm r := by
  rw [nrm]
  · rw [if_pos (.inr rfl)]
  · intro r' _ e; subst e; exact h rfl
theorem nrm_crlf (r : List Nat) : nrm (13 :: 10 :: r) = 13 :: 10 :: nrm r := by rw [nrm]
theorem nrm_plain : ∀ {a : List Nat} {r : List Nat}, (∀ c ∈ a, c ≠ 10 ∧ c ≠ 13) → nrm (a ++ r) = a ++ nrm r
  | [], _, _ => rfl
  | c :: a, r, h => by
    refine rwl List.cons_append ?_
    refine rwl (nrm_other (h c (.head _))) ?_
    refine rwl (nrm_plain fun d hd => h d (.tail _ hd)) ?_
    rfl
theorem find2_none {text : Array Nat} : ∀ {n s : Nat}, find2 text n s = none → ∀ i, s ≤ i → i < s + n → text.getD i 0 ≠ 10 ∧ text.getD i 0 ≠ 13
  | 0, s, _, i, h1, h2 => by lia
  | n + 1, s, h, i, h1, h2 => by
    unfold find2 at h
    split at h
    · cases h
    · rename_i hh
      by_cases e : i = s
      · subst e; exact ⟨fun z => hh (.inl z), fun z => hh (.inr z)⟩
      · exact find2_none h i (by lia) (by lia)
theorem find2_at {text : Array Nat} : ∀ {n s p : Nat}, find2 text n s = some p → s ≤ p ∧ p < s + n ∧ (text.getD p 0 = 10 ∨ text.getD p 0 = 13) ∧ ∀ i, s ≤ i → i < p → text.getD i 0 ≠ 10 ∧ text.getD i 0 ≠ 13
  | 0, s, p, h => by cases h
  | n + 1, s, p, h => by
    unfold find2 at h
    split at h
    · rename_i hh
      cases h
      exact ⟨Nat.le_refl _, by lia, hh, fun i h1 h2 => by lia⟩
    · rename_i hh
      refine e0_4 (find2_at h) ?_
      rintro a b c d
      refine ⟨by lia, by lia, c, fun i h1 h2 => ?_⟩
      by_cases e : i = s
      · subst e; exact ⟨fun z => hh (.inl z), fun z => hh (.inr z)⟩
      · exact d i (by lia) h2
theorem drop_split (l : List Nat) {d p : Nat} (h : d ≤ p) : l.drop d = (l.drop d).take (p - d) ++ l.drop p := by
  conv => lhs; rw [← List.take_append_drop (p - d) (l.drop d)]
  rw [List.drop_drop, show d + (p - d) = p by lia]
theorem drop_at (l : List Nat) {p : Nat} (h : p < l.length) : l.drop p = l.getD p 0 :: l.drop (p + 1) := by
  rw [List.drop_eq_getElem_cons h, List.getD_eq_getElem?_getD, List.getElem?_eq_getElem h]; rfl
theorem mem_part {l : List Nat} {d p : Nat} {P : Nat → Prop} (hp : p ≤ l.length) (h : ∀ i, d ≤ i → i < p → P (l.getD i 0)) : ∀ c ∈ (l.drop d).take (p - d), P c := fun c hc => by
  refine e1_1 (List.getElem?_of_mem hc) ?_
  rintro i hi
  have hl := (List.getElem?_eq_some_iff.mp hi).1
  rw [List.length_take, List.length_drop] at hl
  rw [List.getElem?_take_of_lt (by omega), List.getElem?_drop] at hi
  have := h (d + i) (by lia) (by lia)
  rw [List.getD_eq_getElem?_getD, hi] at this
  exact this
theorem crlf_pieces (x : Str) : ∀ (f d : Nat), (chs x).length ≤ d + f → ((subPieces (nxt2 x) x "\r\n" f d).map chs).flatten = nrm ((chs x).drop d) := by
  have hx := chs_len x
  have plain : ∀ d, find2 x.cps (x.cps.size - d) d = none → ((if d < x.cps.size then [cut x d x.cps.size] else []).map chs).flatten = nrm ((chs x).drop d) := fun d h => by
    by_cases hd : d < x.cps.size
    · refine rwl (if_pos hd) ?_
      have hp : ∀ c ∈ (chs x).drop d, c ≠ 10 ∧ c ≠ 13 := fun c hc => by
        have := mem_part (l := chs x) (d := d) (p := (chs x).length) (P := fun c => c ≠ 10 ∧ c ≠ 13) (Nat.le_refl _) (fun i h1 h2 => by
          have := find2_none h i h1 (by lia)
          rw [getD_chs] at this
          exact this) c
        rw [List.take_of_length_le (by rw [List.length_drop]; exact Nat.le_refl _)] at this
        exact this hc
      have := nrm_plain (r := []) hp
      rw [List.append_nil] at this
      refine rwl this ?_
      simp only [List.map_cons, List.map_nil, List.flatten_cons, List.flatten_nil, List.append_nil]
      refine rwl (chs_cut _ _ _) ?_
      refine rwl (List.take_of_length_le (by rw [List.length_drop, hx]; exact Nat.le_refl _)) ?_
      exact (List.append_nil _).symm
    · refine rwl (if_neg hd) ?_
      refine rwl (List.drop_eq_nil_of_le (by lia)) ?_
      rfl
  intro f
  induction f with
  | zero =>
    intro d h
    unfold subPieces
    refine plain d ?_
    rw [show x.cps.size - d = 0 by lia]; rfl
  | succ f ih =>
    intro d h
    unfold subPieces
    unfold nxt2
    cases e : find2 x.cps (x.cps.size - d) d with
    | none => exact plain d e
    | some p =>
      refine e0_4 (find2_at e) ?_
      rintro h1 h2 h3 h4
      simp only [Option.map_some]
      have hp : p < (chs x).length := by lia
      have hpe : p < nl2 x.cps x.cps.size p := by unfold nl2; split <;> lia
      have hih := ih (nl2 x.cps x.cps.size p) (by lia)
      refine rwl List.map_append ?_
      refine rwl List.flatten_append ?_
      refine rwl List.map_cons ?_
      refine rwl List.flatten_cons ?_
      unfold nxt2 at hih
      refine rwl hih ?_
      have e1 : ((if d < p then [cut x d p] else []).map chs).flatten = ((chs x).drop d).take (p - d) := by
        by_cases hd : d < p
        · rw [if_pos hd]; simp [chs_cut]
        · rw [if_neg hd, show p - d = 0 by lia]; rfl
      have e2 : nrm ((chs x).drop p) = chs "\r\n" ++ nrm ((chs x).drop (nl2 x.cps x.cps.size p)) := by
        have e3 : chs "\r\n" = [13, 10] := by decide
        refine rwl e3 ?_
        unfold nl2
        refine rwl (getD_chs _ _) ?_
        refine rwl (getD_chs _ _) ?_
        rw [getD_chs] at h3
        by_cases h13 : (chs x).getD p 0 = 13
        · by_cases hl : p + 1 < x.cps.size ∧ (chs x).getD (p + 1) 0 = 10
          · refine rwl (if_pos ⟨h13, hl.1, hl.2⟩) ?_
            refine rwl (drop_at _ hp) ?_
            refine rwl (drop_at _ (p := p + 1) (by lia)) ?_
            refine rwl h13 ?_
            refine rwl hl.2 ?_
            refine rwl (nrm_crlf _) ?_
            rfl
          · refine rwl (if_neg (fun z => hl z.2)) ?_
            refine rwl (drop_at _ hp) ?_
            refine rwl h13 ?_
            refine nrm_13 fun z => hl ?_
            by_cases hq : p + 1 < (chs x).length
            · rw [drop_at _ hq] at z
              exact ⟨by omega, by simpa using z⟩
            · rw [List.drop_eq_nil_of_le (by lia)] at z; cases z
        · have h10 : (chs x).getD p 0 = 10 := by lia
          refine rwl (if_neg (fun z => h13 z.1)) ?_
          refine rwl (drop_at _ hp) ?_
          refine rwl h10 ?_
          exact nrm_10 _
      refine rwl e1 ?_
      refine rwr e2 ?_
      refine rwl (drop_split (chs x) h1) ?_
      refine rwl (nrm_plain (mem_part (by lia) fun i a b => by have := h4 i a b; rw [getD_chs] at this; exact this)) ?_
      rw [← drop_split (chs x) h1]
theorem crlfOf_chs (x : Str) : chs (crlfOf x) = nrm (chs x) := by
  unfold crlfOf
  rw [chs_join0, crlf_pieces x x.cps.size 0 (by rw [chs_len]; lia), List.drop_zero]

/- dots at a line's start -/
noncomputable def dbl : Bool → List Nat → List Nat
  | _, [] => []
  | b, c :: r => (if b = true ∧ c = 46 then [46, 46] else [c]) ++ dbl (c == 10) r
theorem dbl_plain : ∀ {a r : List Nat}, (∀ c ∈ a, c ≠ 10) → dbl false (a ++ r) = a ++ dbl false r
  | [], _, _ => rfl
  | c :: a, r, h => by
    have : (c == 10) = false := by simpa using h c (.head _)
    rw [List.cons_append, dbl, if_neg (fun z => by cases z.1), this, dbl_plain fun d hd => h d (.tail _ hd)]
    rfl
theorem find1_none {text : Array Nat} : ∀ {n s : Nat}, find1 text n s = none → ∀ i, s ≤ i → i < s + n → hit1 text i = false
  | 0, s, _, i, h1, h2 => by lia
  | n + 1, s, h, i, h1, h2 => by
    unfold find1 at h
    split at h
    · cases h
    · rename_i hh
      by_cases e : i = s
      · subst e; simpa using hh
      · exact find1_none h i (by lia) (by lia)
theorem find1_at {text : Array Nat} : ∀ {n s p : Nat}, find1 text n s = some p → s ≤ p ∧ p < s + n ∧ hit1 text p = true ∧ ∀ i, s ≤ i → i < p → hit1 text i = false
  | 0, s, p, h => by cases h
  | n + 1, s, p, h => by
    unfold find1 at h
    split at h
    · rename_i hh
      cases h
      exact ⟨Nat.le_refl _, by lia, hh, fun i h1 h2 => by lia⟩
    · rename_i hh
      refine e0_4 (find1_at h) ?_
      rintro a b c d
      refine ⟨by lia, by lia, c, fun i h1 h2 => ?_⟩
      by_cases e : i = s
      · subst e; simpa using hh
      · exact d i (by lia) h2
noncomputable def lineAt (l : List Nat) (i : Nat) : Bool := i == 0 || l.getD (i - 1) 0 == 10
theorem hit1_iff (x : Str) (i : Nat) : hit1 x.cps i = (lineAt (chs x) i && (chs x).getD i 0 == 46) := by
  unfold hit1 line1 lineAt
  rw [getD_chs, getD_chs]
theorem lineAt_succ (l : List Nat) (i : Nat) : lineAt l (i + 1) = (l.getD i 0 == 10) := rfl
theorem dbl_part (l : List Nat) : ∀ (n d : Nat), d + n ≤ l.length → (∀ i, d ≤ i → i < d + n → (lineAt l i && l.getD i 0 == 46) = false) → dbl (lineAt l d) (l.drop d) = (l.drop d).take n ++ dbl (lineAt l (d + n)) (l.drop (d + n))
  | 0, d, _, _ => by rw [Nat.add_zero, List.take_zero, List.nil_append]
  | n + 1, d, hl, h => by
    have h0 := h d (Nat.le_refl _) (by lia)
    have ih := dbl_part l n (d + 1) (by lia) (fun i a b => h i (by lia) (by lia))
    rw [drop_at l (by lia), dbl, if_neg (fun z => by rw [z.1, z.2] at h0; cases h0), List.take_succ_cons, ← lineAt_succ, ih, show d + 1 + n = d + (n + 1) by lia]
    rfl
theorem dots_pieces (x : Str) : ∀ (f d : Nat), d ≤ (chs x).length → (chs x).length ≤ d + f → ((subPieces (nxt1 x) x ".." f d).map chs).flatten = dbl (lineAt (chs x) d) ((chs x).drop d) := by
  have hx := chs_len x
  have plain : ∀ d, d ≤ (chs x).length → find1 x.cps (x.cps.size - d) d = none → ((if d < x.cps.size then [cut x d x.cps.size] else []).map chs).flatten = dbl (lineAt (chs x) d) ((chs x).drop d) := fun d hdl h => by
    have := dbl_part (chs x) ((chs x).length - d) d (by lia) (fun i h1 h2 => by
      have := find1_none h i h1 (by omega)
      rw [hit1_iff] at this
      exact this)
    rw [this, show d + ((chs x).length - d) = (chs x).length by lia, List.drop_length, dbl, List.append_nil]
    by_cases hd : d < x.cps.size
    · refine rwl (if_pos hd) ?_
      simp only [List.map_cons, List.map_nil, List.flatten_cons, List.flatten_nil, List.append_nil]
      rw [chs_cut, hx]
    · refine rwl (if_neg hd) ?_
      refine rwl (show (chs x).length - d = 0 by lia) ?_
      rfl
  intro f
  induction f with
  | zero =>
    intro d hd h
    unfold subPieces
    refine plain d hd ?_
    rw [show x.cps.size - d = 0 by lia]; rfl
  | succ f ih =>
    intro d hd h
    unfold subPieces
    unfold nxt1
    cases e : find1 x.cps (x.cps.size - d) d with
    | none => exact plain d hd e
    | some p =>
      refine e0_4 (find1_at e) ?_
      rintro h1 h2 h3 h4
      simp only [Option.map_some]
      have hp : p < (chs x).length := by lia
      have hih := ih (p + 1) (by lia) (by lia)
      refine rwl List.map_append ?_
      refine rwl List.flatten_append ?_
      refine rwl List.map_cons ?_
      refine rwl List.flatten_cons ?_
      unfold nxt1 at hih
      refine rwl hih ?_
      have e1 : ((if d < p then [cut x d p] else []).map chs).flatten = ((chs x).drop d).take (p - d) := by
        by_cases hd : d < p
        · rw [if_pos hd]; simp [chs_cut]
        · rw [if_neg hd, show p - d = 0 by lia]; rfl
      have e2 := dbl_part (chs x) (p - d) d (by lia) (fun i a b => by
        have := h4 i a (by lia)
        rw [hit1_iff] at this
        exact this)
      rw [show d + (p - d) = p by lia] at e2
      refine rwl e1 ?_
      refine rwl e2 ?_
      congr 1
      rw [hit1_iff, Bool.and_eq_true] at h3
      have h46 : (chs x).getD p 0 = 46 := by simpa using h3.2
      rw [drop_at _ hp, h46, h3.1, dbl, if_pos ⟨rfl, rfl⟩, lineAt_succ, h46]
      rfl
theorem dotsOf_chs (x : Str) : chs (dotsOf x) = dbl true (chs x) := by
  unfold dotsOf
  refine rwl (chs_join0 _) ?_
  refine rwl (dots_pieces x x.cps.size 0 (Nat.zero_le _) (by rw [chs_len]; lia)) ?_
  refine rwl List.drop_zero ?_
  try rfl
/- lengths -/
theorem nrm_len : ∀ n (l : List Nat), l.length ≤ n → (nrm l).length ≤ 2 * l.length
  | _, [], _ => Nat.le_refl _
  | n + 1, c :: r, h => by
    have hr : r.length ≤ n := by simpa using h
    by_cases hc : c = 13
    · subst hc
      cases r with
      | nil => decide
      | cons d r' =>
        by_cases hd : d = 10
        · subst hd
          refine rwl (nrm_crlf _) ?_
          have := nrm_len n r' (by simp at hr; lia)
          simp only [List.length_cons]; lia
        · refine rwl (nrm_13 (by simpa using hd)) ?_
          have := nrm_len n (d :: r') hr
          simp only [List.length_cons] at this ⊢; lia
    · by_cases hc' : c = 10
      · subst hc'
        refine rwl (nrm_10 _) ?_
        have := nrm_len n r hr
        simp only [List.length_cons]; lia
      · refine rwl (nrm_other ⟨hc', hc⟩) ?_
        have := nrm_len n r hr
        simp only [List.length_cons]; lia
theorem dbl_len : ∀ (b : Bool) (l : List Nat), (dbl b l).length ≤ 2 * l.length
  | _, [] => Nat.le_refl _
  | b, c :: r => by
    have := dbl_len (c == 10) r
    rw [dbl, List.length_append]
    simp only [List.length_cons]
    split <;> simp <;> lia
theorem sum_pieces (l : List Str) : (l.map (·.length)).sum = ((l.map chs).flatten).length := by
  refine rwl List.length_flatten ?_
  refine rwl List.map_map ?_
  congr 1
theorem quote_ok {x : Str} (hx : x.length ≤ 2000) : x.cps.size ≤ 10000 ∧ ((subPieces (nxt2 x) x "\r\n" x.cps.size 0).map (·.length)).sum ≤ 16777216 ∧ (crlfOf x).cps.size ≤ 10000 ∧
    ((subPieces (nxt1 (crlfOf x)) (crlfOf x) ".." (crlfOf x).cps.size 0).map (·.length)).sum ≤ 16777216 := by
  have h0 : (chs x).length = x.cps.size := chs_len x
  have hx' : x.cps.size ≤ 2000 := hx
  have h1 := nrm_len _ (chs x) (Nat.le_refl _)
  have h2 : (crlfOf x).cps.size ≤ 4000 := by rw [← chs_len, crlfOf_chs]; lia
  have h3 := dbl_len true (chs (crlfOf x))
  refine ⟨by lia, ?_, by lia, ?_⟩
  · rw [sum_pieces, crlf_pieces x _ 0 (by lia), List.drop_zero]; lia
  · refine rwl (sum_pieces _) ?_
    refine rwl (dots_pieces _ _ 0 (Nat.zero_le _) (by rw [chs_len]; lia)) ?_
    refine rwl List.drop_zero ?_
    have : (chs (crlfOf x)).length = (crlfOf x).cps.size := chs_len _
    show (dbl true _).length ≤ _
    lia
noncomputable def rowL (rows : List Str) (ds : List Nat) (goal : Nat) (bare : List Nat) (k : Nat) : List Nat := (if k = goal then bare else [32]) ++ (List.replicate (ds.getD k 0) 46 ++ chs (rows.getD k ""))
noncomputable def pageL (rows : List Str) (ds : List Nat) (goal : Nat) (bare : List Nat) (E : Nat → List Nat) : Nat → List Nat
  | 0 => []
  | k + 1 => pageL rows ds goal bare E k ++ (rowL rows ds goal bare k ++ E k)
theorem chs_page (rows : List Str) (ds : List Nat) (goal : Nat) (bare : Str) (ends : List Str) : ∀ k, chs (pageTo rows ds goal bare ends k) = pageL rows ds goal (chs bare) (fun k => chs (ends.getD (k % ends.length) "")) k
  | 0 => rfl
  | k + 1 => by
    rw [pageTo, chs_append, chs_page, pageL]
    congr 1
    unfold rowT rowL
    refine rwl (chs_append _ _) ?_
    refine rwl (chs_append _ _) ?_
    refine rwl (chs_append _ _) ?_
    have e1 : chs (dotsT (ds.getD k 0)) = List.replicate (ds.getD k 0) 46 := dotsT_eq _
    have e2 : chs (if k = goal then bare else " ") = if k = goal then chs bare else [32] := by
      split
      · rfl
      · decide
    refine rwl e1 ?_
    refine rwl e2 ?_
    simp only [List.append_assoc]
noncomputable def Clean (x : Str) : Prop := ∀ c ∈ chs x, c ≠ 10 ∧ c ≠ 13 ∧ c ≠ 46
theorem clean_getD {rows : List Str} (h : ∀ x ∈ rows, Clean x) (k : Nat) : Clean (rows.getD k "") := by
  refine rwl List.getD_eq_getElem?_getD ?_
  cases e : rows[k]? with
  | none => intro c hc; cases hc
  | some x => exact h x (List.mem_of_getElem? e)
theorem rowL_plain {rows : List Str} {ds : List Nat} {goal : Nat} {bare : List Nat} (h : ∀ x ∈ rows, Clean x) (hb : ∀ c ∈ bare, c ≠ 10 ∧ c ≠ 13) (k : Nat) : ∀ c ∈ rowL rows ds goal bare k, c ≠ 10 ∧ c ≠ 13 := fun c hc => by
  unfold rowL at hc
  rcases List.mem_append.mp hc with hc | hc
  · split at hc
    · exact hb c hc
    · have : c = 32 := by simpa using hc
      lia
  · rcases List.mem_append.mp hc with hc | hc
    · have := (List.mem_replicate.mp hc).2
      lia
    · have := clean_getD h k c hc
      exact ⟨this.1, this.2.1⟩
theorem rowL_head {rows : List Str} {ds : List Nat} {goal : Nat} {bare : List Nat} {k : Nat} (hb : ∀ c ∈ bare, c ≠ 10 ∧ c ≠ 13) (hd : 1 ≤ ds.getD k 0) (rest : List Nat) : (rowL rows ds goal bare k ++ rest).head? ≠ some 10 := by
  obtain ⟨d, e⟩ : ∃ d, ds.getD k 0 = d + 1 := ⟨ds.getD k 0 - 1, by lia⟩
  unfold rowL
  refine rwl e ?_
  refine rwl List.replicate_succ ?_
  split
  · cases bare with
    | nil => simp
    | cons c r => have := (hb c (.head _)).1; simpa using this
  · simp
theorem nrm_page {rows : List Str} {ds : List Nat} {goal : Nat} {bare : List Nat} {E : Nat → List Nat} (h : ∀ x ∈ rows, Clean x) (hb : ∀ c ∈ bare, c ≠ 10 ∧ c ≠ 13) (hE : ∀ j, E j = [10] ∨ E j = [13] ∨ E j = [13, 10]) :
    ∀ (k : Nat) (rest : List Nat), (∀ j, j < k → 1 ≤ ds.getD j 0) → rest.head? ≠ some 10 → nrm (pageL rows ds goal bare E k ++ rest) = pageL rows ds goal bare (fun _ => [13, 10]) k ++ nrm rest
  | 0, rest, _, _ => rfl
  | k + 1, rest, hd, hr => by
    rw [pageL, List.append_assoc, List.append_assoc]
    refine rwl (nrm_page h hb hE k _ (fun j hj => hd j (by lia)) (rowL_head hb (hd k (by lia)) _)) ?_
    refine rwl (nrm_plain (rowL_plain h hb k)) ?_
    rw [pageL, List.append_assoc, List.append_assoc]
    congr 2
    rcases hE k with e | e | e <;> rw [e]
    · exact nrm_10 _
    · exact nrm_13 hr
    · exact nrm_crlf _
theorem dbl_page {rows : List Str} {ds : List Nat} {goal : Nat} (h : ∀ x ∈ rows, Clean x) :
    ∀ (k : Nat) (rest : List Nat), (∀ j, j < k → 1 ≤ ds.getD j 0) → dbl true (pageL rows ds goal [] (fun _ => [13, 10]) k ++ rest) = pageL rows ds goal [46] (fun _ => [13, 10]) k ++ dbl true rest
  | 0, rest, _ => rfl
  | k + 1, rest, hd => by
    rw [pageL, List.append_assoc, List.append_assoc]
    refine rwl (dbl_page h k _ fun j hj => hd j (by lia)) ?_
    rw [pageL, List.append_assoc, List.append_assoc]
    congr 1
    obtain ⟨d, e⟩ : ∃ d, ds.getD k 0 = d + 1 := ⟨ds.getD k 0 - 1, by have := hd k (by lia); lia⟩
    have hn : ∀ c ∈ chs (rows.getD k ""), c ≠ 10 := fun c hc => (clean_getD h k c hc).1
    have hend : ∀ r, dbl false ([13, 10] ++ r) = [13, 10] ++ dbl true r := fun r => rfl
    have hrep : ∀ n, ∀ c ∈ List.replicate n 46 ++ chs (rows.getD k ""), c ≠ 10 := fun n c hc => by
      rcases List.mem_append.mp hc with hc | hc
      · have := (List.mem_replicate.mp hc).2; lia
      · exact hn c hc
    unfold rowL
    by_cases hg : k = goal
    · rw [if_pos hg, if_pos hg, e, List.nil_append, List.replicate_succ, List.cons_append, List.cons_append, dbl, if_pos ⟨rfl, rfl⟩]
      show [46, 46] ++ dbl false ((List.replicate d 46 ++ chs (rows.getD k "")) ++ ([13, 10] ++ rest)) = _
      refine rwl (dbl_plain (hrep d)) ?_
      refine rwl (hend _) ?_
      rfl
    · refine rwl (if_neg hg) ?_
      refine rwl (if_neg hg) ?_
      show dbl true (32 :: ((List.replicate (ds.getD k 0) 46 ++ chs (rows.getD k "")) ++ ([13, 10] ++ rest))) = _
      rw [dbl, if_neg (by decide)]
      show [32] ++ dbl false _ = _
      refine rwl (dbl_plain (hrep _)) ?_
      refine rwl (hend _) ?_
      rfl

noncomputable def shuts : List Str := ["\n", "", "\r", "\r\n"]
noncomputable def tail0 (i : Nat) : Str := "\r\r \n\n\x0c\r\n\r\n." ++ shuts.getD i ""
noncomputable def tail1 (i : Nat) : Str := "\r\n\r\n \r\n\r\n\x0c\r\n\r\n.." ++ (if (shuts.getD i "" != "") = true then ("\r\n" : Str) else "")
theorem tails : ∀ i, i < 4 → dbl true (nrm (chs (tail0 i))) = chs (tail1 i) ∧ (chs (tail0 i)).head? ≠ some 10 := by decide +kernel
theorem quote_page {rows : List Str} {ds : List Nat} {goal : Nat} {ends : List Str} {n i : Nat} (h : ∀ x ∈ rows, Clean x) (hE : ∀ j, chs (ends.getD (j % ends.length) "") = [10] ∨ chs (ends.getD (j % ends.length) "") = [13] ∨ chs (ends.getD (j % ends.length) "") = [13, 10])
    (hd : ∀ j, j < n → 1 ≤ ds.getD j 0) (hi : i < 4) : dotsOf (crlfOf (pageTo rows ds goal "" ends n ++ tail0 i)) = pageTo rows ds goal "." ["\r\n"] n ++ tail1 i := by
  apply chs_inj
  refine e0_2 (tails i hi) ?_
  rintro t1 t2
  rw [dotsOf_chs, crlfOf_chs, chs_append, chs_page]
  have e0 : chs "" = [] := by decide
  have e46 : chs "." = [46] := by decide
  rw [e0, nrm_page h (by simp) hE n _ hd t2, dbl_page h n _ hd, t1, chs_append, chs_page, e46]
  have : (fun k => chs ((["\r\n"] : List Str).getD (k % (["\r\n"] : List Str).length) "")) = fun _ => [13, 10] := by
    funext k
    have : k % (["\r\n"] : List Str).length = 0 := Nat.mod_one k
    rw [this]
    decide
  rw [this]

/- a text is split -/
noncomputable def joinL (sep : List Nat) : List (List Nat) → List Nat
  | [] => []
  | [p] => p
  | p :: q :: r => p ++ (sep ++ joinL sep (q :: r))
theorem joinL_app (sep : List Nat) : ∀ (A B : List (List Nat)), B ≠ [] → joinL sep (A ++ B) = (A.map (· ++ sep)).flatten ++ joinL sep B
  | [], B, _ => rfl
  | a :: A, B, h => by
    cases e : A ++ B with
    | nil => exact absurd (List.append_eq_nil_iff.mp e).2 h
    | cons q r =>
      refine rwl List.cons_append ?_
      refine rwl e ?_
      show a ++ (sep ++ joinL sep (q :: r)) = _
      refine rwr e ?_
      refine rwl (joinL_app sep A B h) ?_
      simp [List.append_assoc]
theorem at_iff (x : Str) (c0 c1 i : Nat) : StrLaws.At x ⟨#[c0, c1]⟩ x.length i ↔ i + 2 ≤ (chs x).length ∧ ((chs x).drop i).take 2 = [c0, c1] := by
  unfold StrLaws.At
  rw [StrLaws.subAt_eq, beq_iff_eq]
  have : x.length = (chs x).length := (chs_len x).symm
  rw [this]
  rfl
theorem parts_are (x : Str) (c0 c1 : Nat) (hc : c0 ≠ c1) : ∀ (P : List Str) (a : Nat) (cuts : List Nat) (f : Nat), P ≠ [] → (∀ p ∈ P, c0 ∉ chs p) → a ≤ (chs x).length → (chs x).drop a = joinL [c0, c1] (P.map chs) → StrLaws.ChainG x ⟨#[c0, c1]⟩ x.length a cuts f → (∀ k, f ≤ k → ¬ StrLaws.At x ⟨#[c0, c1]⟩ x.length k) →
    StrLaws.partsFrom x 2 a cuts = P
  | [], _, _, _, h, _, _, _, _, _ => absurd rfl h
  | [p], a, cuts, f, _, hp, ha, he, hG, hn => by
    have he' : (chs x).drop a = chs p := he
    have hno : ∀ k, a ≤ k → ¬ StrLaws.At x ⟨#[c0, c1]⟩ x.length k := fun k hk z => by
      rw [at_iff] at z
      have e1 : (chs x).drop k = (chs p).drop (k - a) := by rw [← he', List.drop_drop]; congr 1; lia
      rw [e1] at z
      have : c0 ∈ ((chs p).drop (k - a)).take 2 := by rw [z.2]; exact .head _
      exact hp p (.head _) (List.mem_of_mem_drop (List.mem_of_mem_take this))
    cases cuts with
    | cons c r => exact absurd hG.2.1 (hno c hG.1)
    | nil =>
      show [strSub x a x.length] = [p]
      congr 1
      apply chs_inj
      show (strSub x a x.length).cps.toList = _
      refine rwl (StrLaws.strSub_toList _ _ _) ?_
      have : ((chs x).drop a).length ≤ x.length - a := by rw [List.length_drop, chs_len]; exact Nat.le_refl _
      refine rwl (List.take_of_length_le this) ?_
      exact he'
  | p :: q :: r, a, cuts, f, _, hp, ha, he, hG, hn => by
    have he' : (chs x).drop a = chs p ++ ([c0, c1] ++ joinL [c0, c1] ((q :: r).map chs)) := he
    have hlen : (chs x).length = a + ((chs p).length + (2 + (joinL [c0, c1] ((q :: r).map chs)).length)) := by
      have := congrArg List.length he'
      rw [List.length_drop, List.length_append, List.length_append] at this
      simp only [List.length_cons, List.length_nil] at this
      lia
    have hcp : c0 ∉ chs p := hp p (.head _)
    have hyes : StrLaws.At x ⟨#[c0, c1]⟩ x.length (a + (chs p).length) := by
      rw [at_iff]
      refine ⟨by lia, ?_⟩
      refine rwr List.drop_drop ?_
      refine rwl he' ?_
      refine rwl (List.drop_append_of_le_length (Nat.le_refl _)) ?_
      refine rwl List.drop_length ?_
      rfl
    have hno : ∀ k, a ≤ k → k < a + (chs p).length → ¬ StrLaws.At x ⟨#[c0, c1]⟩ x.length k := fun k h1 h2 z => by
      rw [at_iff] at z
      have e1 : (chs x).drop k = (chs p).drop (k - a) ++ ([c0, c1] ++ joinL [c0, c1] ((q :: r).map chs)) := by
        rw [show k = a + (k - a) by lia, ← List.drop_drop, he', List.drop_append_of_le_length (by lia), show a + (k - a) - a = k - a by lia]
      have hlt : k - a < (chs p).length := by lia
      rw [e1, List.drop_eq_getElem_cons hlt] at z
      have z2 := congrArg List.head? z.2
      simp only [List.cons_append, List.take_succ_cons, List.head?_cons, Option.some.injEq] at z2
      exact hcp (z2 ▸ List.getElem_mem hlt)
    cases cuts with
    | nil =>
      have e : f = a := hG
      exact absurd hyes (hn _ (by lia))
    | cons c rr =>
      refine e0_4 hG ?_
      clear hG
      rintro g1 g2 g3 g4
      have ec : c = a + (chs p).length := by
        rcases Nat.lt_trichotomy c (a + (chs p).length) with h | h | h
        · exact absurd g2 (hno c g1 h)
        · exact h
        · exact absurd hyes (g3 _ (by lia) h)
      show strSub x a c :: StrLaws.partsFrom x 2 (c + 2) rr = p :: q :: r
      congr 1
      · apply chs_inj
        show (strSub x a c).cps.toList = _
        refine rwl (StrLaws.strSub_toList _ _ _) ?_
        show ((chs x).drop a).take (c - a) = _
        rw [he', ec, show a + (chs p).length - a = (chs p).length by lia, List.take_append_of_le_length (Nat.le_refl _), List.take_length]
      · refine parts_are x c0 c1 hc (q :: r) (c + 2) rr f (by simp) (fun p' hp' => hp p' (.tail _ hp')) (by lia) ?_ g4 hn
        refine rwl ec ?_
        refine rwl (show a + (chs p).length + 2 = a + ((chs p).length + 2) by lia) ?_
        refine rwr List.drop_drop ?_
        refine rwl he' ?_
        refine rwr List.drop_drop ?_
        refine rwl (List.drop_append_of_le_length (Nat.le_refl _)) ?_
        refine rwl List.drop_length ?_
        rfl
theorem split_is {x : Str} {c0 c1 : Nat} (hc : c0 ≠ c1) (h0 : c0 < 256) (h1 : c1 < 256) {P : List Str} (hP : P ≠ []) (hp : ∀ p ∈ P, c0 ∉ chs p) (he : chs x = joinL [c0, c1] (P.map chs)) :
    Txt.split x ⟨#[c0, c1]⟩ = P ∧ (partsBetween x (occurrences x ⟨#[c0, c1]⟩ 0 x.length (x.length + 1)) (⟨#[c0, c1]⟩ : Str).length).length = P.length := by
  refine e1_2 (StrLaws.occ_tight x ⟨#[c0, c1]⟩ (by show 1 ≤ 2; decide)) ?_
  rintro f hG hn
  have key := parts_are x c0 c1 hc P 0 _ f hP hp (Nat.zero_le _) (by rw [List.drop_zero]; exact he) hG hn
  have key2 : partsBetween x (occurrences x ⟨#[c0, c1]⟩ 0 x.length (x.length + 1)) (⟨#[c0, c1]⟩ : Str).length = P := by
    refine rwl (StrLaws.partsBetween_eq _ _ _) ?_
    exact key
  refine ⟨?_, by rw [key2]⟩
  have one : x.length < 2 ∨ (occurrences x ⟨#[c0, c1]⟩ 0 x.length (x.length + 1)).isEmpty = true → [x] = P := fun z => by
    cases P with
    | nil => exact absurd rfl hP
    | cons p r =>
      cases r with
      | nil => congr 1; exact chs_inj he
      | cons q r =>
        exfalso
        have hl := congrArg List.length he
        have hx := chs_len x
        simp only [List.map_cons, joinL, List.length_append, List.length_cons, List.length_nil] at hl
        rcases z with z | z
        · have : x.length = x.cps.size := rfl
          lia
        · rw [List.isEmpty_iff] at z
          rw [z] at key
          simp [StrLaws.partsFrom] at key
  unfold Txt.split
  have hk : Builtin.Str.strKind (⟨#[c0, c1]⟩ : Str) = 1 := by
    unfold Builtin.Str.strKind
    rw [if_pos (by simp [h0, h1])]
  by_cases hs : (decide (x.length < (⟨#[c0, c1]⟩ : Str).length) || decide (Builtin.Str.strKind x < Builtin.Str.strKind (⟨#[c0, c1]⟩ : Str))) = true
  · refine rwl (if_pos hs) ?_
    refine one (.inl ?_)
    rw [hk] at hs
    have h3 : ¬ Builtin.Str.strKind x < 1 := by unfold Builtin.Str.strKind; split <;> (try split) <;> decide
    rw [decide_eq_false h3, Bool.or_false] at hs
    exact of_decide_eq_true hs
  · refine rwl (if_neg hs) ?_
    by_cases ho : (occurrences x ⟨#[c0, c1]⟩ 0 x.length (x.length + 1)).isEmpty = true
    · rw [if_pos ho]; exact one (.inr ho)
    · rw [if_neg ho]; exact key2
end

section
open PySem PySem.Builtin PySem.Builtin.Str PyProof.Rows
noncomputable def rowS (rows : List Str) (ds : List Nat) (goal k : Nat) : Str := ⟨(rowL rows ds goal [46] k).toArray⟩
theorem chs_mk (l : List Nat) : chs ⟨l.toArray⟩ = l := by simp
noncomputable def tparts (i : Nat) : List Str := (["", "", " ", "", "\x0c", "", ".."] : List Str) ++ (if (shuts.getD i "" != "") = true then ([""] : List Str) else [])
theorem tparts_ok : ∀ i, i < 4 → chs (tail1 i) = joinL [13, 10] ((tparts i).map chs) ∧ (∀ p ∈ tparts i, 13 ∉ chs p) ∧ tparts i ≠ [] ∧ (tparts i).length ≤ 8 := by decide +kernel
theorem crlf_is : ("\r\n" : Str) = ⟨#[13, 10]⟩ := by decide
theorem pageL_flat (rows : List Str) (ds : List Nat) (goal : Nat) (bare E : List Nat) : ∀ n, pageL rows ds goal bare (fun _ => E) n = (((List.range n).map fun k => rowL rows ds goal bare k).map (· ++ E)).flatten
  | 0 => rfl
  | n + 1 => by
    rw [pageL, pageL_flat, List.range_succ, List.map_append, List.map_append, List.flatten_append]
    simp
theorem page_split {rows : List Str} {ds : List Nat} {goal n i : Nat} (h : ∀ x ∈ rows, Clean x) (hi : i < 4) :
    Txt.split (pageTo rows ds goal "." ["\r\n"] n ++ tail1 i) "\r\n" = ((List.range n).map fun k => rowS rows ds goal k) ++ tparts i ∧
    (partsBetween (pageTo rows ds goal "." ["\r\n"] n ++ tail1 i) (occurrences (pageTo rows ds goal "." ["\r\n"] n ++ tail1 i) "\r\n" 0 (pageTo rows ds goal "." ["\r\n"] n ++ tail1 i).length ((pageTo rows ds goal "." ["\r\n"] n ++ tail1 i).length + 1)) ("\r\n" : Str).length).length = n + (tparts i).length := by
  refine e0_4 (tparts_ok i hi) ?_
  rintro t1 t2 t3 t4
  have e46 : chs "." = [46] := by decide
  have eE : (fun k => chs ((["\r\n"] : List Str).getD (k % (["\r\n"] : List Str).length) "")) = fun _ => [13, 10] := by
    funext k
    have : k % (["\r\n"] : List Str).length = 0 := Nat.mod_one k
    refine rwl this ?_
    decide
  have he : chs (pageTo rows ds goal "." ["\r\n"] n ++ tail1 i) = joinL [13, 10] ((((List.range n).map fun k => rowS rows ds goal k) ++ tparts i).map chs) := by
    rw [chs_append, chs_page, e46, eE, pageL_flat, t1, List.map_append, joinL_app _ _ _ (by simpa using t3)]
    congr 3
    refine rwl List.map_map ?_
    apply List.map_congr_left
    intro k _
    exact (chs_mk _).symm
  obtain ⟨a, b⟩ := split_is (c0 := 13) (c1 := 10) (by decide) (by decide) (by decide) (P := ((List.range n).map fun k => rowS rows ds goal k) ++ tparts i) (by simp [t3]) (fun p hp => by
    rcases List.mem_append.mp hp with hp | hp
    · refine e1_2 (List.mem_map.mp hp) ?_
      rintro k _ rfl
      intro hm
      unfold rowS at hm
      rw [chs_mk] at hm
      exact (rowL_plain h (by simp) k 13 hm).2 rfl
    · exact t2 p hp) he
  rw [← crlf_is] at a b
  refine ⟨a, ?_⟩
  rw [b, List.length_append, List.length_map, List.length_range]
theorem cnt_rep (c : Nat) : ∀ n, cnt c (List.replicate n c) = n
  | 0 => rfl
  | n + 1 => by rw [List.replicate_succ, cnt_cons, if_pos rfl, cnt_rep c n]; lia
theorem row_count {rows : List Str} {ds : List Nat} {goal : Nat} (h : ∀ x ∈ rows, Clean x) (k : Nat) : Txt.count (rowS rows ds goal k) "." = ((ds.getD k 0 + (if k = goal then 1 else 0) : Nat) : Int) := by
  have e : ("." : Str) = ⟨#[46]⟩ := by decide
  refine rwl e ?_
  refine rwl (count_is _ _) ?_
  show cnt 46 (chs (rowS rows ds goal k)) = _
  unfold rowS
  refine rwl (chs_mk _) ?_
  unfold rowL
  refine rwl (cnt_append _ _ _) ?_
  refine rwl (cnt_append _ _ _) ?_
  refine rwl (cnt_rep _ _) ?_
  refine rwl (cnt_none 46 (chs (rows.getD k "")) fun hm => (clean_getD h k 46 hm).2.2 rfl) ?_
  split
  · have : cnt 46 [46] = 1 := by rw [cnt_cons, if_pos rfl]; rfl
    rw [this]; lia
  · have : cnt 46 [32] = 0 := by rw [cnt_cons, if_neg (by decide)]; rfl
    rw [this]; lia
end

section
open PySem PySem.Builtin PySem.Builtin.Str PyProof.Rows
noncomputable def wd (b : Nat) : Str := wordOf (Int.ofNat b)
noncomputable def okWord (x : Str) : Bool := (chs x).all (fun c => okC c && c != 46 && c != 44) && decide ((chs x).length ≤ 20)
theorem words_ok : ∀ b, b < 32 → okWord (wd b) = true ∧ okWord (Txt.lower (wd b)) = true ∧ okWord (Txt.swapcase (wd b)) = true ∧ wd b ≠ "away" ∧ wd b ≠ "home" := by decide +kernel
theorem lower_swap : ∀ a, a < 32 → Txt.lower (Txt.swapcase (wd a)) = Txt.lower (wd a) := by decide +kernel
noncomputable def lows : List Str := (List.range 32).map fun b => Txt.lower (wd b)
theorem lows_nd : lows.Nodup := by decide +kernel
theorem outs_ok : ∀ n, n < 9 → okWord (hexT (n * 2 ^ 32)) = true := by decide +kernel
theorem ah_ok : okWord "away" = true ∧ okWord "home" = true ∧ ("away" : Str) ≠ "home" := by decide +kernel
end

section
noncomputable def sumTo (f : Nat → Int) : Nat → Int
  | 0 => 0
  | n + 1 => sumTo f n + f n
theorem sumTo_add (f g : Nat → Int) : ∀ n, sumTo (fun j => f j + g j) n = sumTo f n + sumTo g n
  | 0 => rfl
  | n + 1 => by simp only [sumTo]; rw [sumTo_add f g n]; lia
theorem sumTo_congr {f g : Nat → Int} : ∀ {n}, (∀ j, j < n → f j = g j) → sumTo f n = sumTo g n
  | 0, _ => rfl
  | n + 1, h => by simp only [sumTo]; rw [sumTo_congr (fun j hj => h j (by lia)), h n (by lia)]
theorem sumTo_le {f g : Nat → Int} : ∀ {n}, (∀ j, j < n → f j ≤ g j) → sumTo f n ≤ sumTo g n
  | 0, _ => Int.le_refl _
  | n + 1, h => by
    simp only [sumTo]
    have := sumTo_le (f := f) (g := g) (n := n) (fun j hj => h j (by lia))
    have := h n (by lia)
    lia
theorem sumTo_point (a : Nat) (x : Int) : ∀ n, sumTo (fun j => if j = a then x else 0) n = if a < n then x else 0
  | 0 => by simp [sumTo]
  | n + 1 => by
    simp only [sumTo]
    refine rwl (sumTo_point a x n) ?_
    by_cases h1 : a < n
    · rw [if_pos h1, if_neg (by lia), if_pos (by lia)]; lia
    · by_cases h2 : a = n
      · subst h2; rw [if_neg h1, if_pos rfl, if_pos (by lia)]; lia
      · rw [if_neg h1, if_neg (by lia), if_neg (by lia)]; decide

noncomputable def lin (A B : Nat → Int) (d : Nat → Nat) (ah : Nat → Bool) (n : Nat) : Int := sumTo (fun j => ((d (j + 1) : Int) - 1) * A j + (if ah j then B j else 0)) n
noncomputable def stepD (d : Nat → Nat) (h g : Nat) : Nat → Nat := fun k => (if k = h + 1 then d k - 1 else d k) + if k = g then 1 else 0
noncomputable def stepA (ah : Nat → Bool) (h : Nat) : Nat → Bool := fun j => if j = h then !ah j else ah j
theorem lin_step (A B : Nat → Int) {d : Nat → Nat} {ah : Nat → Bool} {n h g : Nat} (hh : h < n) (hd : 1 ≤ d (h + 1)) :
    lin A B (stepD d h g) (stepA ah h) n = lin A B d ah n + (if 1 ≤ g ∧ g - 1 < n then A (g - 1) else 0) - A h + (if ah h then -B h else B h) := by
  have key : ∀ j, j < n → ((stepD d h g (j + 1) : Int) - 1) * A j + (if stepA ah h j then B j else 0) =
      (((d (j + 1) : Int) - 1) * A j + (if ah j then B j else 0)) + ((if j = g - 1 then (if 1 ≤ g then A (g - 1) else 0) else 0) + (if j = h then (- A h + (if ah h then -B h else B h)) else 0)) := by
    intro j _
    unfold stepD stepA
    have e1 : (if j + 1 = g then (1 : Nat) else 0) = if j = g - 1 ∧ 1 ≤ g then 1 else 0 := by
      by_cases q : j + 1 = g
      · rw [if_pos q, if_pos (by lia)]
      · rw [if_neg q, if_neg (by lia)]
    refine rwl e1 ?_
    by_cases h1 : j = h
    · subst h1
      refine rwl (if_pos rfl) ?_
      refine rwl (if_pos rfl) ?_
      refine rwl (if_pos rfl) ?_
      by_cases h2 : j = g - 1
      · by_cases h3 : 1 ≤ g
        · refine rwl (if_pos ⟨h2, h3⟩) ?_
          refine rwl (if_pos h2) ?_
          refine rwl (if_pos h3) ?_
          refine rwr h2 ?_
          have : ((d (j + 1) - 1 + 1 : Nat) : Int) = (d (j + 1) : Int) := by lia
          refine rwl this ?_
          cases ah j <;> simp <;> lia
        · refine rwl (if_neg (by lia)) ?_
          refine rwl (if_pos h2) ?_
          refine rwl (if_neg h3) ?_
          have : ((d (j + 1) - 1 + 0 : Nat) : Int) - 1 = ((d (j + 1) : Int) - 1) - 1 := by lia
          refine rwl this ?_
          refine rwl (Int.sub_mul ((d (j + 1) : Int) - 1) 1 _) ?_
          refine rwl (Int.one_mul _) ?_
          cases ah j <;> simp <;> lia
      · refine rwl (if_neg (by lia)) ?_
        refine rwl (if_neg h2) ?_
        have : ((d (j + 1) - 1 + 0 : Nat) : Int) - 1 = ((d (j + 1) : Int) - 1) - 1 := by lia
        refine rwl this ?_
        refine rwl (Int.sub_mul ((d (j + 1) : Int) - 1) 1 _) ?_
        refine rwl (Int.one_mul _) ?_
        cases ah j <;> simp <;> lia
    · refine rwl (if_neg (by lia)) ?_
      refine rwl (if_neg h1) ?_
      refine rwl (if_neg h1) ?_
      by_cases h2 : j = g - 1
      · by_cases h3 : 1 ≤ g
        · refine rwl (if_pos ⟨h2, h3⟩) ?_
          refine rwl (if_pos h2) ?_
          refine rwl (if_pos h3) ?_
          refine rwr h2 ?_
          have : ((d (j + 1) + 1 : Nat) : Int) - 1 = ((d (j + 1) : Int) - 1) + 1 := by lia
          refine rwl this ?_
          refine rwl (Int.add_mul _ _ _) ?_
          refine rwl (Int.one_mul _) ?_
          lia
        · refine rwl (if_neg (by lia)) ?_
          refine rwl (if_pos h2) ?_
          refine rwl (if_neg h3) ?_
          simp
      · refine rwl (if_neg (by lia)) ?_
        refine rwl (if_neg h2) ?_
        simp
  unfold lin
  rw [sumTo_congr key, sumTo_add (fun j => ((d (j + 1) : Int) - 1) * A j + (if ah j then B j else 0)) (fun j => (if j = g - 1 then (if 1 ≤ g then A (g - 1) else 0) else 0) + (if j = h then (- A h + (if ah h then -B h else B h)) else 0)),
    sumTo_add (fun j => if j = g - 1 then (if 1 ≤ g then A (g - 1) else 0) else 0), sumTo_point, sumTo_point, if_pos hh]
  by_cases q : 1 ≤ g
  · by_cases q2 : g - 1 < n
    · simp only [q, q2, if_true, and_self]; lia
    · simp only [q, q2, if_true, if_false, and_false]; lia
  · simp only [q, if_false, false_and]
    split <;> lia

/- the streets -/
noncomputable def pl (s0 j : Nat) : Int := if j < s0 then (j : Int) + 1 else (j : Int) + 1 - s0
noncomputable def szs (s0 s1 j : Nat) : Int := if j < s0 then (s0 : Int) else s1
noncomputable def hgt (s0 s1 j : Nat) : Int := pl s0 j * (szs s0 s1 j + 1 - pl s0 j)
noncomputable def sgn (s0 s1 j : Nat) : Int := szs s0 s1 j + 1 - 2 * pl s0 j
noncomputable def goalOf (s0 : Nat) (ah : Nat → Bool) (h : Nat) : Nat := if ah h then h + 2 else if h = 0 ∨ h = s0 then 0 else h
noncomputable def overI (s0 : Nat) (ah : Nat → Bool) (h : Nat) : Nat := if ah h = true ∧ h + 1 = s0 then 1 else 0
noncomputable def onS0 (s0 j : Nat) : Int := if j < s0 then 1 else 0
noncomputable def onS1 (s0 j : Nat) : Int := if j < s0 then 0 else 1
noncomputable def pa0 (s0 j : Nat) : Int := pl s0 j * onS0 s0 j
noncomputable def pa1 (s0 j : Nat) : Int := pl s0 j * onS1 s0 j
noncomputable def sfB (s0 s1 h : Nat) : Bool :=
    decide ((if h + 1 < s0 + s1 then hgt s0 s1 (h + 1) else 0) - hgt s0 s1 h - sgn s0 s1 h = -1 + (if h + 1 = s0 then (s1 : Int) else 0)) &&
    decide ((if h = 0 ∨ h = s0 then 0 else hgt s0 s1 (h - 1)) - hgt s0 s1 h + sgn s0 s1 h = -1) &&
    decide ((if h + 1 < s0 + s1 then pa0 s0 (h + 1) else 0) - pa0 s0 h - onS0 s0 h = - (if h + 1 = s0 then (s0 : Int) + 1 else 0)) &&
    decide ((if h = 0 ∨ h = s0 then 0 else pa0 s0 (h - 1)) - pa0 s0 h + onS0 s0 h = 0) &&
    decide ((if h + 1 < s0 + s1 then pa1 s0 (h + 1) else 0) - pa1 s0 h - onS1 s0 h = (if h + 1 = s0 then 1 else 0) - (if h + 1 = s0 + s1 then (s1 : Int) + 1 else 0)) &&
    decide ((if h = 0 ∨ h = s0 then 0 else pa1 s0 (h - 1)) - pa1 s0 h + onS1 s0 h = 0) &&
    decide ((if h + 1 < s0 + s1 then onS0 s0 (h + 1) else 0) - onS0 s0 h ≤ - (if h + 1 = s0 then 1 else 0)) &&
    decide ((if h = 0 ∨ h = s0 then 0 else onS0 s0 (h - 1)) - onS0 s0 h ≤ 0) &&
    decide (0 ≤ hgt s0 s1 h) && decide (hgt s0 s1 h + s1 * onS0 s0 h ≤ 7) && decide (0 ≤ onS0 s0 h)
noncomputable def ssB (s0 s1 : Nat) : Bool := decide (sumTo (fun j => max 0 (sgn s0 s1 j)) (s0 + s1) ≤ 4) && decide (-4 ≤ sumTo (fun j => min 0 (sgn s0 s1 j)) (s0 + s1))
theorem sfB_all : ([1, 2, 3].all fun s0 => [1, 2, 3].all fun s1 => (List.range (s0 + s1)).all fun h => sfB s0 s1 h) = true := by decide +kernel
theorem ssB_all : ([1, 2, 3].all fun s0 => [1, 2, 3].all fun s1 => ssB s0 s1) = true := by decide +kernel
theorem mem3 {s : Nat} (h1 : 1 ≤ s) (h2 : s ≤ 3) : s ∈ [1, 2, 3] := by
  have : s = 1 ∨ s = 2 ∨ s = 3 := by lia
  rcases this with rfl | rfl | rfl <;> simp
theorem street_facts {s0 s1 h : Nat} (a1 : 1 ≤ s0) (a2 : s0 ≤ 3) (b1 : 1 ≤ s1) (b2 : s1 ≤ 3) (hh : h < s0 + s1) : sfB s0 s1 h = true :=
  List.all_eq_true.mp (List.all_eq_true.mp (List.all_eq_true.mp sfB_all s0 (mem3 a1 a2)) s1 (mem3 b1 b2)) h (List.mem_range.mpr hh)
theorem street_sums {s0 s1 : Nat} (a1 : 1 ≤ s0) (a2 : s0 ≤ 3) (b1 : 1 ≤ s1) (b2 : s1 ≤ 3) : ssB s0 s1 = true :=
  List.all_eq_true.mp (List.all_eq_true.mp ssB_all s0 (mem3 a1 a2)) s1 (mem3 b1 b2)
structure Inv (s0 s1 : Nat) (P0 S0 S1 N0 : Int) (d : Nat → Nat) (ah : Nat → Bool) (over t : Nat) : Prop where
  pos : ∀ k, k < s0 + s1 + 2 → 1 ≤ d k
  all : sumTo (fun j => (d j : Int) - 1) (s0 + s1 + 2) = 4
  phi : lin (hgt s0 s1) (sgn s0 s1) d ah (s0 + s1) + t = P0 + over * s1
  st0 : lin (pa0 s0) (onS0 s0) d ah (s0 + s1) + (s0 + 1) * over = S0
  st1 : lin (pa1 s0) (onS1 s0) d ah (s0 + s1) + (s1 + 1) * ((d (s0 + s1 + 1) : Int) - 1) = S1 + over
  bad : ∀ j, j + 1 < s0 + s1 → j + 1 ≠ s0 → ah j = false → ah (j + 1) = true → 1 < d (j + 1) ∨ 1 < d (j + 2)
  few : over + lin (onS0 s0) (fun _ => 0) d ah (s0 + s1) ≤ N0

theorem gA_on {s0 n h : Nat} {ah : Nat → Bool} (A : Nat → Int) (hh : h < n) (ha : ah h = true) : (if 1 ≤ goalOf s0 ah h ∧ goalOf s0 ah h - 1 < n then A (goalOf s0 ah h - 1) else 0) = if h + 1 < n then A (h + 1) else 0 := by
  unfold goalOf
  refine rwl (if_pos ha) ?_
  by_cases q : h + 1 < n
  · rw [if_pos ⟨by lia, by lia⟩, if_pos q]; rfl
  · rw [if_neg (by lia), if_neg q]
theorem gA_back {s0 n h : Nat} {ah : Nat → Bool} (A : Nat → Int) (hh : h < n) (ha : ah h = false) : (if 1 ≤ goalOf s0 ah h ∧ goalOf s0 ah h - 1 < n then A (goalOf s0 ah h - 1) else 0) = if h = 0 ∨ h = s0 then 0 else A (h - 1) := by
  unfold goalOf
  simp only [ha, Bool.false_eq_true, if_false]
  by_cases q : h = 0 ∨ h = s0
  · simp only [q, if_true]
    rw [if_neg (by lia)]
  · simp only [q, if_false]
    rw [if_pos ⟨by lia, by omega⟩]
theorem goal_lt {s0 n h : Nat} {ah : Nat → Bool} (hh : h < n) : goalOf s0 ah h < n + 2 := by
  unfold goalOf
  split
  · lia
  · split <;> lia
theorem goal_ne {s0 h : Nat} {ah : Nat → Bool} : goalOf s0 ah h ≠ h + 1 := by
  unfold goalOf
  split
  · lia
  · split <;> lia
theorem inv_step {s0 s1 : Nat} (a1 : 1 ≤ s0) (a2 : s0 ≤ 3) (b1 : 1 ≤ s1) (b2 : s1 ≤ 3) {P0 S0 S1 N0 : Int} {d : Nat → Nat} {ah : Nat → Bool} {over t h : Nat} (I : Inv s0 s1 P0 S0 S1 N0 d ah over t) (hh : h < s0 + s1) (hd : 1 < d (h + 1)) :
    Inv s0 s1 P0 S0 S1 N0 (stepD d h (goalOf s0 ah h)) (stepA ah h) (over + overI s0 ah h) (t + 1) := by
  have sf := street_facts a1 a2 b1 b2 hh
  unfold sfB at sf
  simp only [Bool.and_eq_true, decide_eq_true_eq] at sf
  obtain ⟨⟨⟨⟨⟨⟨⟨⟨⟨⟨f1, f2⟩, f3⟩, f4⟩, f5⟩, f6⟩, f7⟩, f8⟩, f9⟩, f10⟩, f11⟩ := sf
  have hd1 : 1 ≤ d (h + 1) := by lia
  have L := fun (A B : Nat → Int) => lin_step A B (ah := ah) (g := goalOf s0 ah h) hh hd1
  have e1 : (if h + 1 = s0 then (s1 : Int) else 0) = (if h + 1 = s0 then 1 else 0) * (s1 : Int) := by split <;> simp
  have e0 : (if h + 1 = s0 then (s0 : Int) + 1 else 0) = ((s0 : Int) + 1) * (if h + 1 = s0 then 1 else 0) := by split <;> simp
  have hov : ((over + overI s0 ah h : Nat) : Int) = over + if ah h = true ∧ h + 1 = s0 then 1 else 0 := by
    unfold overI
    split <;> simp
  have hend : ((stepD d h (goalOf s0 ah h) (s0 + s1 + 1) : Nat) : Int) = d (s0 + s1 + 1) + if ah h = true ∧ h + 1 = s0 + s1 then 1 else 0 := by
    unfold stepD
    refine rwl (if_neg (by lia)) ?_
    have : (s0 + s1 + 1 = goalOf s0 ah h) ↔ (ah h = true ∧ h + 1 = s0 + s1) := by
      unfold goalOf
      by_cases q : ah h = true
      · rw [if_pos q]; exact ⟨fun z => ⟨q, by lia⟩, fun z => by lia⟩
      · refine rwl (if_neg q) ?_
        refine ⟨fun z => ?_, fun z => absurd z.1 q⟩
        split at z <;> lia
    by_cases q : s0 + s1 + 1 = goalOf s0 ah h
    · rw [if_pos q, if_pos (this.mp q)]; lia
    · rw [if_neg q, if_neg (fun z => q (this.mpr z))]; lia
  refine ⟨fun k hk => ?_, ?_, ?_, ?_, ?_, ?_, ?_⟩
  · have := I.pos k hk
    unfold stepD
    by_cases q : k = h + 1
    · subst q; rw [if_pos rfl]; lia
    · rw [if_neg q]; lia
  · have key : ∀ j, j < s0 + s1 + 2 → ((stepD d h (goalOf s0 ah h) j : Nat) : Int) - 1 = ((d j : Int) - 1) + ((if j = goalOf s0 ah h then 1 else 0) + (if j = h + 1 then -1 else 0)) := by
      intro j hj
      unfold stepD
      by_cases q : j = h + 1
      · subst q
        rw [if_pos rfl, if_neg (fun z => goal_ne z.symm), if_neg (fun z => goal_ne z.symm), if_pos rfl]; lia
      · refine rwl (if_neg q) ?_
        refine rwl (if_neg q) ?_
        split <;> lia
    refine rwl (sumTo_congr key) ?_
    refine rwl (sumTo_add (fun j => (d j : Int) - 1) _ _) ?_
    refine rwl (sumTo_add (fun j => if j = goalOf s0 ah h then 1 else 0) _ _) ?_
    refine rwl (sumTo_point _ _ _) ?_
    refine rwl (sumTo_point _ _ _) ?_
    refine rwl (if_pos (goal_lt hh)) ?_
    refine rwl (if_pos (by lia)) ?_
    refine rwl I.all ?_
    rfl
  · refine rwl (L _ _) ?_
    refine rwl hov ?_
    have := I.phi
    cases q : ah h with
    | true =>
      refine rwl (gA_on _ hh q) ?_
      by_cases z : h + 1 = s0
      · rw [if_pos z] at f1 e1
        simp only [z, and_self, if_true]
        rw [z] at f1
        refine rwl (Int.add_mul _ _ _) ?_
        refine rwl (Int.one_mul _) ?_
        lia
      · rw [if_neg z] at f1
        simp only [z, and_false, if_false, if_true]
        refine rwl (Int.add_zero _) ?_
        lia
    | false =>
      refine rwl (gA_back _ hh q) ?_
      simp only [Bool.false_eq_true, if_false, false_and]
      refine rwl (Int.add_zero _) ?_
      lia
  · refine rwl (L _ _) ?_
    refine rwl hov ?_
    have := I.st0
    cases q : ah h with
    | true =>
      refine rwl (gA_on _ hh q) ?_
      by_cases z : h + 1 = s0
      · rw [if_pos z] at f3
        simp only [z, and_self, if_true]
        rw [z] at f3
        refine rwl (Int.mul_add _ _ _) ?_
        refine rwl (Int.mul_one _) ?_
        lia
      · rw [if_neg z] at f3
        simp only [z, and_false, if_false, if_true]
        refine rwl (Int.add_zero _) ?_
        lia
    | false =>
      refine rwl (gA_back _ hh q) ?_
      simp only [Bool.false_eq_true, if_false, false_and]
      refine rwl (Int.add_zero _) ?_
      lia
  · refine rwl (L _ _) ?_
    refine rwl hov ?_
    refine rwl hend ?_
    have := I.st1
    cases q : ah h with
    | true =>
      refine rwl (gA_on _ hh q) ?_
      by_cases z2 : h + 1 = s0 + s1
      · have z : h + 1 ≠ s0 := by lia
        rw [if_neg (by omega : ¬ h + 1 = s0), if_pos z2] at f5
        simp only [z, z2, and_false, and_self, if_false, if_true]
        rw [if_neg (by lia)] at f5
        simp only [Nat.lt_irrefl, if_false]
        refine rwl (show ((d (s0 + s1 + 1) : Int) + 1 - 1) = ((d (s0 + s1 + 1) : Int) - 1) + 1 by lia) ?_
        refine rwl (Int.mul_add _ _ _) ?_
        refine rwl (Int.mul_one _) ?_
        lia
      · rw [if_neg z2] at f5
        by_cases z : h + 1 = s0
        · rw [if_pos z] at f5
          have z3 : ¬ s0 = s0 + s1 := by lia
          simp only [z, z3, and_false, and_self, if_false, if_true]
          rw [z] at f5
          refine rwl (Int.add_zero _) ?_
          lia
        · rw [if_neg z] at f5
          simp only [z, z2, and_false, if_false, if_true]
          refine rwl (Int.add_zero _) ?_
          refine rwl (Int.add_zero _) ?_
          lia
    | false =>
      refine rwl (gA_back _ hh q) ?_
      simp only [Bool.false_eq_true, if_false, false_and]
      refine rwl (Int.add_zero _) ?_
      refine rwl (Int.add_zero _) ?_
      lia
  · intro j hj hjs h1 h2
    have old : ∀ k, k ≠ h + 1 → d k ≤ stepD d h (goalOf s0 ah h) k := fun k hk => by unfold stepD; rw [if_neg hk]; lia
    have newg : 1 < stepD d h (goalOf s0 ah h) (goalOf s0 ah h) := by
      unfold stepD
      refine rwl (if_neg (fun z => goal_ne z)) ?_
      refine rwl (if_pos rfl) ?_
      have := I.pos _ (goal_lt (ah := ah) (s0 := s0) hh)
      lia
    unfold stepA at h1 h2
    by_cases q : j = h
    · subst q
      rw [if_pos rfl] at h1
      rw [if_neg (by lia)] at h2
      have hah : ah j = true := by simpa using h1
      have hg : goalOf s0 ah j = j + 2 := by unfold goalOf; rw [if_pos hah]
      right
      rw [hg] at newg ⊢
      exact newg
    · rw [if_neg q] at h1
      by_cases q2 : j + 1 = h
      · subst q2
        rw [if_pos rfl] at h2
        have hah : ah (j + 1) = false := by simpa using h2
        have hg : goalOf s0 ah (j + 1) = j + 1 := by
          unfold goalOf
          rw [hah, if_neg (by decide), if_neg (by lia)]
        left
        rw [hg] at newg ⊢
        exact newg
      · rw [if_neg q2] at h2
        rcases I.bad j hj hjs h1 h2 with z | z
        · exact .inl (Nat.lt_of_lt_of_le z (old _ (by lia)))
        · exact .inr (Nat.lt_of_lt_of_le z (old _ (by lia)))
  · refine rwl (L _ _) ?_
    refine rwl hov ?_
    have := I.few
    cases q : ah h with
    | true =>
      refine rwl (gA_on _ hh q) ?_
      by_cases z : h + 1 = s0
      · rw [if_pos z] at f7
        simp only [z, and_self, if_true]
        rw [z] at f7
        lia
      · rw [if_neg z] at f7
        simp only [z, and_false, if_false, if_true]
        lia
    | false =>
      refine rwl (gA_back _ hh q) ?_
      simp only [Bool.false_eq_true, if_false, false_and]
      lia
theorem sumTo_nonneg {f : Nat → Int} : ∀ {n}, (∀ j, j < n → 0 ≤ f j) → 0 ≤ sumTo f n
  | 0, _ => Int.le_refl _
  | n + 1, h => by
    simp only [sumTo]
    have := sumTo_nonneg (f := f) (n := n) (fun j hj => h j (by lia))
    have := h n (by lia)
    lia
theorem inv_bound {s0 s1 : Nat} (a1 : 1 ≤ s0) (a2 : s0 ≤ 3) (b1 : 1 ≤ s1) (b2 : s1 ≤ 3) {P0 S0 S1 N0 : Int} (hP : P0 + N0 * s1 ≤ 32) {d : Nat → Nat} {ah : Nat → Bool} {over t : Nat} (I : Inv s0 s1 P0 S0 S1 N0 d ah over t) : t ≤ 36 := by
  have ss := street_sums a1 a2 b1 b2
  unfold ssB at ss
  simp only [Bool.and_eq_true, decide_eq_true_eq] at ss
  have h1 : sumTo (fun j => min 0 (sgn s0 s1 j)) (s0 + s1) ≤ lin (hgt s0 s1) (sgn s0 s1) d ah (s0 + s1) := by
    unfold lin
    refine sumTo_le fun j hj => ?_
    have sf := street_facts a1 a2 b1 b2 hj
    unfold sfB at sf
    simp only [Bool.and_eq_true, decide_eq_true_eq] at sf
    have h9 := sf.1.1.2
    have hp := I.pos (j + 1) (by lia)
    have : 0 ≤ ((d (j + 1) : Int) - 1) * hgt s0 s1 j := Int.mul_nonneg (by lia) h9
    split <;> omega
  have h2 : 0 ≤ lin (onS0 s0) (fun _ => 0) d ah (s0 + s1) := by
    unfold lin
    refine sumTo_nonneg fun j hj => ?_
    have hp := I.pos (j + 1) (by lia)
    have : 0 ≤ ((d (j + 1) : Int) - 1) * onS0 s0 j := Int.mul_nonneg (by lia) (by unfold onS0; split <;> decide)
    show 0 ≤ _ + (if ah j = true then (0 : Int) else 0)
    split <;> lia
  have h3 := I.few
  have h4 := I.phi
  have h5 : (over : Int) * s1 ≤ N0 * s1 := Int.mul_le_mul_of_nonneg_right (by lia) (by lia)
  lia

theorem prefix_of : ∀ (s : Nat) (f : Nat → Bool), (∀ j, j + 1 < s → f j = false → f (j + 1) = false) → ∃ a, a ≤ s ∧ ∀ j, j < s → f j = decide (j < a)
  | 0, f, _ => ⟨0, Nat.le_refl _, fun j hj => by lia⟩
  | s + 1, f, h => by
    refine e1_2 (prefix_of s f (fun j hj => h j (by lia))) ?_
    rintro a ha hf
    by_cases q : a = s
    · cases e : f s with
      | true =>
        refine ⟨s + 1, Nat.le_refl _, fun j hj => ?_⟩
        by_cases z : j = s
        · subst z; rw [e, decide_eq_true (by omega)]
        · rw [hf j (by lia), decide_eq_true (by lia), decide_eq_true (by omega)]
      | false =>
        refine ⟨s, by lia, fun j hj => ?_⟩
        by_cases z : j = s
        · subst z; rw [e, decide_eq_false (by lia)]
        · rw [hf j (by lia), q]
    · refine ⟨a, by lia, fun j hj => ?_⟩
      by_cases z : j = s
      · subst z
        refine rwl (decide_eq_false (by lia)) ?_
        have hs := h (j - 1) (by lia) (by rw [hf (j - 1) (by lia), decide_eq_false (by lia)])
        rw [show j - 1 + 1 = j by lia] at hs
        exact hs
      · exact hf j (by lia)

noncomputable def pre (s0 a0 a1 j : Nat) : Bool := if j < s0 then decide (j < a0) else decide (j - s0 < a1)
noncomputable def preS (s0 s1 a0 a1 : Nat) : Bool := decide (sumTo (fun j => if pre s0 a0 a1 j then sgn s0 s1 j else 0) (s0 + s1) = (a0 : Int) * (s0 - a0) + a1 * (s1 - a1)) &&
  decide (sumTo (fun j => if pre s0 a0 a1 j then onS0 s0 j else 0) (s0 + s1) = a0) && decide (sumTo (fun j => if pre s0 a0 a1 j then onS1 s0 j else 0) (s0 + s1) = a1)
theorem preS_all : ([1, 2, 3].all fun s0 => [1, 2, 3].all fun s1 => (List.range (s0 + 1)).all fun a0 => (List.range (s1 + 1)).all fun a1 => preS s0 s1 a0 a1) = true := by decide +kernel
theorem pre_sums {s0 s1 a0 a1 : Nat} (h1 : 1 ≤ s0) (h2 : s0 ≤ 3) (h3 : 1 ≤ s1) (h4 : s1 ≤ 3) (h5 : a0 ≤ s0) (h6 : a1 ≤ s1) : sumTo (fun j => if pre s0 a0 a1 j then sgn s0 s1 j else 0) (s0 + s1) = (a0 : Int) * (s0 - a0) + a1 * (s1 - a1) ∧
    sumTo (fun j => if pre s0 a0 a1 j then onS0 s0 j else 0) (s0 + s1) = a0 ∧ sumTo (fun j => if pre s0 a0 a1 j then onS1 s0 j else 0) (s0 + s1) = a1 := by
  have := List.all_eq_true.mp (List.all_eq_true.mp (List.all_eq_true.mp (List.all_eq_true.mp preS_all s0 (mem3 h1 h2)) s1 (mem3 h3 h4)) a0 (List.mem_range.mpr (by lia))) a1 (List.mem_range.mpr (by lia))
  unfold preS at this
  simp only [Bool.and_eq_true, decide_eq_true_eq] at this
  exact ⟨this.1.1, this.1.2, this.2⟩
theorem inv_end {s0 s1 : Nat} (a1 : 1 ≤ s0) (a2 : s0 ≤ 3) (b1 : 1 ≤ s1) (b2 : s1 ≤ 3) {P0 S0 S1 N0 : Int} {d : Nat → Nat} {ah : Nat → Bool} {over t : Nat} (I : Inv s0 s1 P0 S0 S1 N0 d ah over t) (hw : ∀ j, j < s0 + s1 → d (j + 1) ≤ 1) :
    ∃ e0 e1, e0 ≤ s0 ∧ e1 ≤ s1 ∧ (∀ j, j < s0 + s1 → ah j = pre s0 e0 e1 j) ∧ S0 = e0 + (s0 + 1) * over ∧ S1 + over = e1 + (s1 + 1) * ((d (s0 + s1 + 1) : Int) - 1) ∧ (t : Int) = P0 + over * s1 - ((e0 : Int) * (s0 - e0) + e1 * (s1 - e1)) := by
  have hb := fun j (h : j + 1 < s0 + s1) (hj : j + 1 ≠ s0) (h1 : ah j = false) => show ah (j + 1) = false from by
    cases e : ah (j + 1) with
    | false => rfl
    | true =>
      have := I.bad j h hj h1 e
      have := hw j (by lia)
      have := hw (j + 1) (by omega)
      rw [show j + 1 + 1 = j + 2 by lia] at this
      lia
  refine e1_2 (prefix_of s0 ah (fun j hj h1 => hb j (by lia) (by lia) h1)) ?_
  rintro e0 h0 f0
  refine e1_2 (prefix_of s1 (fun j => ah (s0 + j)) (fun j hj h1 => hb (s0 + j) (by lia) (by lia) h1)) ?_
  rintro e1 h1 f1
  have hpre : ∀ j, j < s0 + s1 → ah j = pre s0 e0 e1 j := fun j hj => by
    unfold pre
    by_cases q : j < s0
    · rw [if_pos q]; exact f0 j q
    · rw [if_neg q]
      have := f1 (j - s0) (by lia)
      rw [show s0 + (j - s0) = j by lia] at this
      exact this
  have L : ∀ A B : Nat → Int, lin A B d ah (s0 + s1) = sumTo (fun j => if pre s0 e0 e1 j then B j else 0) (s0 + s1) := fun A B => by
    unfold lin
    refine sumTo_congr fun j hj => ?_
    have h2 := hw j hj
    have h3 := I.pos (j + 1) (by lia)
    have : (d (j + 1) : Int) - 1 = 0 := by lia
    rw [this, Int.zero_mul, hpre j hj, Int.zero_add]
  refine e0_3 (pre_sums a1 a2 b1 b2 h0 h1) ?_
  rintro p1 p2 p3
  refine i2_6 e0 e1 h0 h1 hpre ?_ ?_ ?_
  · rw [← I.st0, L, p2]
  · rw [← I.st1, L, p3]
  · have := I.phi
    rw [L, p1] at this
    lia
end

section
open PySem PySem.W PyProof.Rows
set_option maxHeartbeats 0
noncomputable abbrev pw := PySem.Challenge.pw_uk0018_01
noncomputable abbrev rowU := PySem.Challenge.rw_uk0018_01.row
noncomputable def keepU : List Nat := [0, 29]
noncomputable def qU : Program := view pw keepU
noncomputable def looseU : List Str := ["_wall","_DIV_LIMIT","_div2n1n","_div3n2n","_int2digits","_digits2int","_divmod_pos","int_divmod","COMPILER_FLAG_NAMES","pretty_flags","_twin_re_1","_twin_re_2","CRLF","quotedata","tspecials","_name_disallowed_re","_value_disallowed_re","_formatparam","Headers","_law_cells","_law_word","_law_posts","_law_page"]

noncomputable def dFields : Data → Option (Array Value)
  | .fields vs => some vs
  | _ => none
noncomputable def dFunc : Data → Option FuncData
  | .func fd => some fd
  | _ => none
noncomputable def dCls : Data → Option ClassData
  | .cls cd => some cd
  | _ => none
noncomputable def vStr : Value → Option Str
  | .str x _ => some x
  | _ => none
noncomputable def vInt : Value → Option Int
  | .int x _ => some x
  | _ => none
noncomputable def vBool : Value → Option Bool
  | .bool b => some b
  | _ => none
noncomputable def fnV (h : Heap) (a : Addr) : Option (Value × FuncData) := (h.get? a).bind fun o => (dFunc o.data).bind fun fd => some (o.cls, { fd with pyModule := .none })
noncomputable def fnsU : List (Addr × Stmt × Str × Value) := [(45, topSt 4, "_div2n1n", .none), (52, topSt 5, "_div3n2n", .none), (59, topSt 6, "_int2digits", .none), (66, topSt 7, "_digits2int", .none), (73, topSt 8, "_divmod_pos", .none), (80, topSt 9, "int_divmod", .none),
  (88, topSt 12, "pretty_flags", .none), (105, topSt 17, "quotedata", .none), (143, methSt 0, qm "__init__", .ref 136), (150, methSt 1, qm "_convert_string_type", .none), (169, methSt 4, qm "__delitem__", .none), (188, methSt 7, qm "get_all", .none),
  (196, methSt 8, qm "get", .ref 189), (213, methSt 11, qm "items", .none), (246, methSt 16, qm "add_header", .none), (260, topSt 25, "_law_cells", .none), (267, topSt 26, "_law_word", .none), (274, topSt 27, "_law_posts", .none), (281, topSt 28, "_law_page", .none), (286, topSt 29, "law", .none)]
noncomputable def codeV (h : Heap) (a : Addr) : Option Str := (h.get? a).bind fun o => (dFields o.data).bind fun vs => vs[1]?.bind vStr
noncomputable def hdV (h : Heap) (c : Addr) : Option (Value × Option Value × Value) := (h.get? c).bind fun o => (dFields o.data).bind fun vs => (vStr (vs.getD 18 .none)).bind fun _ => (vInt (vs.getD 7 .none)).bind fun _ => (vBool (vs.getD 9 .none)).bind fun _ => (vInt (vs.getD 10 .none)).bind fun _ => some (o.cls, vs[11]?, vs.getD 11 .none)
noncomputable def hdG (P : Addr) : Option (Value × Option Value × Value) := some (.type "code", some (.ref P), .ref P)
noncomputable def patV (h : Heap) (a : Addr) : Option (Value × Option Addr × Array (Option Value) × List Value) := (h.get? a).bind fun o => (dFields o.data).bind fun vs => (vs.toList[0]?.bind vStr).bind fun _ => (vs.toList[1]?.bind vInt).bind fun _ => some (o.cls, o.dict, o.slots, vs.toList.drop 2)
noncomputable def clsV (h : Heap) : Option (Value × Option Addr × ClassData × Nat × Option (Option Value)) := (h.get? 249).bind fun o => (dCls o.data).bind fun cd => some (o.cls, o.dict, { cd with name := "", qualname := "" }, o.slots.toList.length, o.slots.toList[4]?)
noncomputable def boolsU (h : Heap) : Bool := (h.get? sysModules).isSome && h.isNs mainGlobals && h.isNs builtinsNs && h.isNs 248
noncomputable def noneU : List Str := ["__getattribute__", "__getattr__", "__setattr__", "_headers"]
noncomputable def crlfV (h : Heap) : Option Str := (h.nsMap mainGlobals "CRLF").bind vStr
noncomputable def limV (h : Heap) : Option Int := (h.nsMap mainGlobals "_DIV_LIMIT").bind vInt
noncomputable def gtabU : List (Str × Value) := ("law", .ref 286) :: gtab
noncomputable def objsU : List Addr := [54, 61, 81, 92, 97, 114, 119, 136, 189]
noncomputable abbrev AlphaU := List (Option (Value × FuncData)) × List (Option Str) × List (Option (Value × Option Addr × Array (Option Value) × List Value)) × Option (Value × Option Addr × ClassData × Nat × Option (Option Value)) × List (Option Obj) × Bool ×
  List (Option Value) × List (Option Value × Option Value) × List (Option Value) × List (Option Value) × Option Str × Option Int × List (Option (Value × Option Value × Value))
noncomputable def obsU (s : Shared) : AlphaU := (fnsU.map fun p => fnV s.heap p.1, fnsU.map fun p => codeV s.heap (p.1 - 1), [93, 98, 115, 120].map (patV s.heap), clsV s.heap, objsU.map s.heap.get?, boolsU s.heap,
  gtabU.map (fun p => s.heap.nsMap mainGlobals p.1), btab.map (fun p => (s.heap.nsMap mainGlobals p.1, s.heap.nsMap builtinsNs p.1)), metTab.map (fun p => s.heap.nsMap 248 p.1), noneU.map (fun x => s.heap.nsMap 248 x), crlfV s.heap, limV s.heap, [58, 65].map (hdV s.heap))
noncomputable def patG (wa : Addr) : Option (Value × Option Addr × Array (Option Value) × List Value) := some (.type "re.Pattern", none, #[], [.int 0 0, .none, .none, .ref wa, .int 0 0])
noncomputable def clsG : Option (Value × Option Addr × ClassData × Nat × Option (Option Value)) := some (.type "type", none,
  { name := "", bases := [.type "object"], mro := .ref 249 :: [.type "object"], ns := 248, qualname := "", hasDict := true, slotNames := [], subclasses := [], abstract := false, collection := none, hasDel := false }, 6, some (some (.builtin "object.__new__")))
noncomputable def goodU : AlphaU := (fnsU.map fun p => some (.type "function", fdOf p.2.1 p.2.2.1 p.2.2.2 .none (.ref (p.1 - 1))), fnsU.map fun p => some p.2.2.1, [92, 97, 114, 119].map patG, clsG,
  [some (tabObj #[]), some (tabObj #[]), some flagO, some (wordsO c1), some (wordsO c2), some (wordsO c3), some (wordsO c4), some (tupO #[.none]), some (tupO #[.none])], true,
  gtabU.map (fun p => some p.2), btab.map (fun p => (none, some p.2)), metTab.map (fun p => some (.ref p.2)), noneU.map (fun _ => none), some "\r\n", some 4000, [hdG 54, hdG 61])

noncomputable def xtU : Shared → Bool := fun s => xlAt qU [] s && recOk (RowW.records rowU.toRowW) s
theorem leftA : ∀ w : World, (fencedOpening treeTable pw w 3702).map (fun s₀ => (topFrom treeTable pw (w.withFollow "special-get-raises" false) 3702 s₀).map (fun s => (openSeen qU looseU (importedModules pw.main.body) (fun s => xlAt qU [] s && recOk (RowW.records rowU.toRowW) s) true s, obsU s))) =
    some (some (openGood qU looseU, goodU)) := by
  intro w
  kernel_rfl
theorem leftB : ∀ w : World, (fencedOpening treeTable pw w 3702).map (fun s₀ => (topFrom treeTable pw (w.withFollow "special-get-raises" true) 3702 s₀).map (fun s => (openSeen qU looseU (importedModules pw.main.body) (fun s => xlAt qU [] s && recOk (RowW.records rowU.toRowW) s) true s, obsU s))) =
    some (some (openGood qU looseU, goodU)) := by
  intro w
  kernel_rfl
theorem leftU : LeftO pw qU looseU (fun s => xlAt qU [] s && recOk (RowW.records rowU.toRowW) s) obsU (fun _ => goodU) 3702 := by
  refine LeftO.of_split "special-get-raises" ?_
  intro w
  obtain ⟨s0, e, a⟩ := Option.map_eq_some_iff.mp (leftA w)
  obtain ⟨s1, e1, b⟩ := Option.map_eq_some_iff.mp (leftB w)
  rw [e] at e1
  cases e1
  rw [e, Option.map_some, a, b]
end

section
open PySem PySem.P PyProof.Rows
section
variable {K : Cx} {σ : S} {P : AV → S → Prop} {PB : Bool → S → Prop}
theorem fmod_nat {a : Int} {b : Nat} (hb : 0 < b) : ∃ r : Nat, r < b ∧ a.fmod (b : Int) = (r : Int) := by
  have h1 := Int.fmod_nonneg_of_pos a (b := (b : Int)) (by lia)
  have h2 := Int.fmod_lt_of_pos a (b := (b : Int)) (by lia)
  exact ⟨(a.fmod b).toNat, by omega, by lia⟩
theorem bin_modN {a : Int} (b : Nat) (hb : 0 < b) (h : ∀ r : Nat, r < b → P (.int (r : Int)) σ) : Bin K .Mod (.int a) (.int (b : Int)) σ P := by
  refine e1_2 (fmod_nat (a := a) hb) ?_
  rintro r hr e
  exact bin_fmod (by lia) (by rw [e]; exact h r hr)
theorem bin_divN {a : Int} (b : Nat) (hb : 0 < b) (hs : b < 2 ^ 60) (h : P (.int (a.fdiv (b : Int))) σ) : Bin K .FloorDiv (.int a) (.int (b : Int)) σ P :=
  bin_fdiv (by lia) (PyProof.noPylong_of_log2 (by rw [Int.natAbs_natCast]; exact Nat.lt_of_lt_of_le (log2_of hs (by decide)) (by decide))) h
theorem bin_1add {b : Nat} (h : P (.int ((b + 1 : Nat) : Int)) σ) : Bin K .Add (.int 1) (.int (b : Int)) σ P := bin_add (by rw [show (1 : Int) + (b : Int) = ((b + 1 : Nat) : Int) by lia]; exact h)
end

theorem St.perm {B H : HF} {F : Frm} {σ : S} {h : Heap} (st : St B H F σ h) {mu' : Mu} (hp : mu'.Perm σ.mu) : St B H F { σ with mu := mu' } h := by
  refine ⟨⟨st.m.base, st.m.keep, fun p hq => st.m.own p (hp.mem_iff.mp hq), ?_⟩, st.new, st.ns, st.cell, ?_, st.fr, st.lenv, st.lenc⟩
  · exact (hp.map _).nodup_iff.mpr st.m.nd
  · exact ((hp.map (·.1)).append_left F.own).nodup_iff.mpr st.nd
theorem Le.perm {σ : S} (mu' : Mu) (hp : mu'.Perm σ.mu) : Le σ { σ with mu := mu' } := fun B H F h st => ⟨H, .refl _, st.perm hp⟩
theorem Le.swap {σ : S} {a b : Addr × MO} {r : Mu} {v c : List (Option AV)} : Le ⟨v, c, a :: b :: r⟩ ⟨v, c, b :: a :: r⟩ := Le.perm (σ := ⟨v, c, a :: b :: r⟩) (b :: a :: r) (List.Perm.swap a b r)
theorem Le.mu1 {v c : List (Option AV)} {a b : Addr × MO} {r : Mu} : Le ⟨v, c, a :: b :: r⟩ ⟨v, c, a :: r⟩ := Le.drop (σ := ⟨v, c, a :: b :: r⟩) (a :: r) ((List.sublist_cons_self b r).cons₂ a)
end

section
open PySem PySem.P PyProof.Rows
local macro_rules | `(tactic| tb_start) => pure (sxMore "bN_add bN_add1 bin_1add")

noncomputable abbrev lawNs : List Str := (("script" : Str) :: ("sizes" : Str) :: ("first" : Str) :: ("before" : Str) :: ("j" : Str) :: ("book" : Str) :: ("table" : Str) :: ("rows" : Str) :: ("over" : Str) :: ("turn" : Str) :: ("inside" : Str) :: ("out" : Str) :: ("words" : Str) :: ("text" : Str) :: ("pick" : Str) :: ("house" : Str) :: ("word" : Str) :: ("ways" : Str) :: ("goal" : Str) :: ("ends" : Str) :: ("shut" : Str) :: ("sent" : Str) :: ("tail" : Str) :: ("facing" : Str) :: ("after" : Str) :: ("due" : Str) :: ("told" : Str) :: ("home" : Str) :: ("sums" : Str) :: ("steps" : Str) :: ("street" : Str) :: ("low" : Str) :: ("high" : Str) :: ("unit" : Str) :: ("far" : Str) :: ("near" : Str) :: ("side" : Str) :: ("one" : Str) :: ("two" : Str) :: [])
theorem lawOk (pm : Value) : FnOk (fdOf (topSt 29) "law" .none pm (.ref (286 - 1))) lawNs := FnOk.of
section
variable {prog : Program} {w : World} {B : HF} {mg mb : Str → Option Value}
noncomputable abbrev LK (prog : Program) (w : World) (B : HF) {mg mb : Str → Option Value} (T : TopOk B mg mb) (A : Around) (fit : Fit A 13) (pm : Value) (L : Addr) : Cx :=
  cxOf prog w B T A fit (fdOf (topSt 29) "law" .none pm (.ref (286 - 1))) lawNs (lawOk pm) 286 L
noncomputable abbrev lawB (i : Nat) : List Stmt := (fbody (topSt 29)).drop i
theorem segA1 (T : TopOk B mg mb) {A : Around} {fit : Fit A 13} {pm : Value} {L : Addr} {xs : List Int} (hx : xs.length ≤ 63) {PF : AF → S → Prop}
    (h : ∀ (cs : List Int) (s0 s1 b0 b1 p : Nat), cs.length = 8 → 1 ≤ s0 → s0 ≤ 3 → 1 ≤ s1 → s1 ≤ 3 → b0 ≤ s0 → b1 ≤ s1 → p ≤ 26 → Xs (LK prog w B T A fit pm L) (lawB 5) (⟨(some (.lst (xs.map AV.int)) :: some (.tup [.int (s0 : Int), .int (s1 : Int)]) :: some (.int (s0 : Int)) :: some (.tup [.int (b0 : Int), .int (b1 : Int)]) :: none :: none :: none :: none :: none :: none :: none :: none :: none :: none :: none :: none :: none :: none :: none :: none :: none :: none :: none :: none :: none :: none :: none :: none :: none :: none :: none :: none :: none :: none :: none :: none :: none :: none :: none :: []), (none :: none :: none :: none :: none :: none :: none :: some (.int (p : Int)) :: some (.int ((s0 + s1 : Nat) : Int)) :: some (.lst (cs.map AV.int)) :: []), [(54, tab6), (61, tab7)]⟩ : S) PF) :
    Xs (LK prog w B T A fit pm L) (lawB 0) (⟨(some (.lst (xs.map AV.int)) :: none :: none :: none :: none :: none :: none :: none :: none :: none :: none :: none :: none :: none :: none :: none :: none :: none :: none :: none :: none :: none :: none :: none :: none :: none :: none :: none :: none :: none :: none :: none :: none :: none :: none :: none :: none :: none :: none :: []), (none :: none :: none :: none :: none :: none :: none :: none :: none :: none :: []), [(54, tab6), (61, tab7)]⟩ : S) PF := by
  refine e2_3 T.f260 ?_
  rintro o260 pm260 ho260 hd260 _
  refine xs_cons ?_
  refine x_assign ?_ rfl
  refine ev_freeze ?_
  refine ev_callF (a := 260) ho260 hd260 ?_ rfl
  repeat tb_start
  refine Con.callK ((con_cells T hx).mono ?_) (Nat.le_of_ble_eq_true rfl)
  rintro v m hz0
  refine e2_3 hz0 ?_
  clear hz0
  rintro a cs hcs rfl rfl
  refine i3_3 a _ _ rfl rfl ?_
  obtain ⟨c0, c1, c2, c3, c4, c5, c6, c7, rfl⟩ : ∃ c0 c1 c2 c3 c4 c5 c6 c7 : Int, cs = [c0, c1, c2, c3, c4, c5, c6, c7] := by
    match cs, hcs with
    | [c0, c1, c2, c3, c4, c5, c6, c7], _ => exact ⟨c0, c1, c2, c3, c4, c5, c6, c7, rfl⟩
  repeat tb_start
  refine ev_tuple ?_
  repeat tb_start
  refine s_lst (by decide) (by decide) rfl ?_
  repeat tb_start
  refine bin_modN 3 (by decide) fun r0 hr0 => ?_
  repeat tb_start
  refine s_lst (by decide) (by decide) rfl ?_
  repeat tb_start
  refine bin_divN 3 (by decide) (by decide) ?_
  repeat tb_start
  refine bin_modN 3 (by decide) fun r1 hr1 => ?_
  repeat tb_start
  refine ⟨by rw [sizeLine_eq]; exact Nat.le_of_ble_eq_true rfl, ?_⟩
  repeat tb_start
  refine x_tup ?_ (fun _ => rfl) rfl rfl
  refine ev_tuple ?_
  repeat tb_start
  refine s_tup (j := 0) rfl rfl ?_
  repeat tb_start
  refine s_tup (j := 0) rfl rfl ?_
  repeat tb_start
  refine s_tup (j := 1) rfl rfl ?_
  repeat tb_start
  refine ⟨by rw [sizeLine_eq]; exact Nat.le_of_ble_eq_true rfl, _, rfl, rfl, ?_⟩
  repeat tb_start
  refine ev_tuple ?_
  repeat tb_start
  refine s_lst (by decide) (by decide) rfl ?_
  repeat tb_start
  refine s_tup (j := 0) rfl rfl ?_
  repeat tb_start
  refine bin_modN (r0 + 1 + 1) (by lia) fun b0 hb0 => ?_
  repeat tb_start
  refine s_lst (by decide) (by decide) rfl ?_
  repeat tb_start
  refine bin_divN 4 (by decide) (by decide) ?_
  repeat tb_start
  refine s_tup (j := 1) rfl rfl ?_
  repeat tb_start
  refine bin_modN (r1 + 1 + 1) (by lia) fun b1 hb1 => ?_
  repeat tb_start
  refine ⟨by rw [sizeLine_eq]; exact Nat.le_of_ble_eq_true rfl, ?_⟩
  repeat tb_start
  refine s_lst (by decide) (by decide) rfl ?_
  repeat tb_start
  refine bin_modN 27 (by decide) fun p hp => ?_
  tb_start
  tb_start
  refine then_next ?_
  exact h [c0, c1, c2, c3, c4, c5, c6, c7] (r0 + 1) (r1 + 1) b0 b1 p rfl (by lia) (by lia) (by lia) (by lia) (by lia) (by lia) (by lia)
end
noncomputable def nmL (p n : Nat) : List Str := (List.range n).map fun j => wd (p + j)
theorem nmL_len (p n : Nat) : (nmL p n).length = n := by unfold nmL; rw [List.length_map, List.length_range]
theorem nmL_succ (p n : Nat) : nmL p (n + 1) = nmL p n ++ [wd (p + n)] := by unfold nmL; rw [List.range_succ, List.map_append]; rfl
theorem nmL_get {p n j : Nat} (h : j < n) : (nmL p n)[j]? = some (wd (p + j)) := by
  unfold nmL; rw [List.getElem?_map, List.getElem?_range h]; rfl
theorem nmL_D {p n j : Nat} (h : j < n) : (nmL p n).getD j "" = wd (p + j) := by rw [List.getD_eq_getElem?_getD, nmL_get h]; rfl
theorem sT_at {l : List Str} {k : Nat} {x : Str} (h : l[k]? = some x) : (sT l)[((k : Int)).toNat]? = some (.str x) := by
  rw [Int.toNat_natCast, sT, List.getElem?_map, h]; rfl
theorem sT_len (l : List Str) : (sT l).length = l.length := List.length_map _
theorem sN_len (l : List Nat) : (sN l).length = l.length := List.length_map _
theorem sN_app (l m : List Nat) : sN (l ++ m) = sN l ++ sN m := List.map_append
theorem sT_app (l m : List Str) : sT (l ++ m) = sT l ++ sT m := List.map_append
theorem small_len {n : Nat} (h : n ≤ 1000) : n ≤ sizeLine := by rw [sizeLine_eq]; lia

section
variable {prog : Program} {w : World} {B : HF} {mg mb : Str → Option Value}
theorem segA2 (T : TopOk B mg mb) {A : Around} {fit : Fit A 13} {pm : Value} {L : Addr} {PF : AF → S → Prop} {xs cs : List Int} {s0 s1 b0 b1 p : Nat} (a1 : s0 ≤ 3) (a2 : s1 ≤ 3) (a3 : p ≤ 26)
    (h : Xs (LK prog w B T A fit pm L) (lawB 6) (⟨(some (.lst (xs.map AV.int)) :: some (.tup [.int (s0 : Int), .int (s1 : Int)]) :: some (.int (s0 : Int)) :: some (.tup [.int (b0 : Int), .int (b1 : Int)]) :: none :: none :: none :: none :: none :: none :: none :: none :: none :: none :: none :: none :: none :: none :: none :: none :: none :: none :: none :: none :: none :: none :: none :: none :: none :: none :: none :: none :: none :: none :: none :: none :: none :: none :: none :: []), (none :: none :: none :: none :: none :: none :: some (.lst (sT (nmL p (s0 + s1)))) :: some (.int (p : Int)) :: some (.int ((s0 + s1 : Nat) : Int)) :: some (.lst (cs.map AV.int)) :: []), [(54, tab6), (61, tab7)]⟩ : S) PF) :
    Xs (LK prog w B T A fit pm L) (lawB 5) (⟨(some (.lst (xs.map AV.int)) :: some (.tup [.int (s0 : Int), .int (s1 : Int)]) :: some (.int (s0 : Int)) :: some (.tup [.int (b0 : Int), .int (b1 : Int)]) :: none :: none :: none :: none :: none :: none :: none :: none :: none :: none :: none :: none :: none :: none :: none :: none :: none :: none :: none :: none :: none :: none :: none :: none :: none :: none :: none :: none :: none :: none :: none :: none :: none :: none :: none :: []), (none :: none :: none :: none :: none :: none :: none :: some (.int (p : Int)) :: some (.int ((s0 + s1 : Nat) : Int)) :: some (.lst (cs.map AV.int)) :: []), [(54, tab6), (61, tab7)]⟩ : S) PF := by
  refine e2_3 T.f267 ?_
  rintro o267 pm267 ho267 hd267 _
  refine xs_cons ?_
  refine x_assign ?_ rfl
  refine ev_freeze ?_
  refine ev_comp [("place", L + 3)] ?_ (fun _ => rfl) rfl rfl (by decide +kernel)
  refine ev_callT (T := "range") ?_
  repeat tb_start
  refine c_range fun t1 t2 t3 => ?_
  let JJ : List AV → Prop := fun out => out = sT (nmL p (upto (s0 + s1)).length)
  refine ⟨JJ, ⟨⟨_, _, ["j"], [("place", .int (p : Int))], ⟨rfl, by decide +kernel, by decide +kernel, by decide +kernel, by decide, by simp; decide +kernel⟩, walk_range (by lia), ⟨⟨7, _, rfl, rfl, rfl⟩, True.intro⟩, fun D Cc => ?_⟩⟩, ?_⟩
  · refine loop1 (J := fun i out => out = sT (nmL p i)) (fun _ => True.intro) rfl ?_
    rintro i v out hv rfl
    refine e0_2 (upto_get hv) ?_
    rintro hi rfl
    repeat tb_start
    refine ev_callF (a := 267) ho267 hd267 ?_ rfl
    repeat tb_start
    refine Con.callK ((con_word T (p := ((p + i : Nat) : Int)) (by lia) (by lia)).mono ?_) (Nat.le_of_ble_eq_true rfl)
    refine q0_2 ?_
    refine ⟨_, rfl, small_len (by rw [sT_len, nmL_len]; lia), _, Le.vars [false], ?_⟩
    refine rwl (nmL_succ _ _) ?_
    refine rwl (sT_app _ _) ?_
    rfl
  · rintro D out rfl
    refine i3_3 D _ _ rfl rfl ?_
    refine rwl (upto_len _) ?_
    tb_start
    refine then_next ?_
    exact h
theorem segA3 (T : TopOk B mg mb) {A : Around} {fit : Fit A 13} {pm : Value} {L : Addr} {PF : AF → S → Prop} {xs cs : List Int} {s0 s1 b0 b1 p : Nat} (a1 : s0 ≤ 3) (a2 : s1 ≤ 3) (a3 : p ≤ 26) (a4 : 1 ≤ s0) (hc : cs.length = 8)
    (h : ∀ sts : List Nat, sts.length = 4 → (∀ x ∈ sts, x < s0 + s1) → Xs (LK prog w B T A fit pm L) (lawB 7) (⟨(some (.lst (xs.map AV.int)) :: some (.tup [.int (s0 : Int), .int (s1 : Int)]) :: some (.int (s0 : Int)) :: some (.tup [.int (b0 : Int), .int (b1 : Int)]) :: none :: none :: none :: none :: none :: none :: none :: none :: none :: none :: none :: none :: none :: none :: none :: none :: none :: none :: none :: none :: none :: none :: none :: none :: none :: none :: none :: none :: none :: none :: none :: none :: none :: none :: none :: []), (none :: none :: none :: none :: none :: some (.lst (sN sts)) :: some (.lst (sT (nmL p (s0 + s1)))) :: some (.int (p : Int)) :: some (.int ((s0 + s1 : Nat) : Int)) :: some (.lst (cs.map AV.int)) :: []), [(54, tab6), (61, tab7)]⟩ : S) PF) :
    Xs (LK prog w B T A fit pm L) (lawB 6) (⟨(some (.lst (xs.map AV.int)) :: some (.tup [.int (s0 : Int), .int (s1 : Int)]) :: some (.int (s0 : Int)) :: some (.tup [.int (b0 : Int), .int (b1 : Int)]) :: none :: none :: none :: none :: none :: none :: none :: none :: none :: none :: none :: none :: none :: none :: none :: none :: none :: none :: none :: none :: none :: none :: none :: none :: none :: none :: none :: none :: none :: none :: none :: none :: none :: none :: none :: []), (none :: none :: none :: none :: none :: none :: some (.lst (sT (nmL p (s0 + s1)))) :: some (.int (p : Int)) :: some (.int ((s0 + s1 : Nat) : Int)) :: some (.lst (cs.map AV.int)) :: []), [(54, tab6), (61, tab7)]⟩ : S) PF := by
  refine xs_cons ?_
  refine x_assign ?_ rfl
  refine ev_freeze ?_
  refine ev_comp [("houses", L + 2), ("cells", L + 1)] ?_ (fun _ => rfl) rfl rfl (by decide +kernel)
  refine ev_tuple ?_
  repeat tb_start
  refine ⟨by rw [sizeLine_eq]; exact Nat.le_of_ble_eq_true rfl, ?_⟩
  refine ⟨fun out => ∃ sts : List Nat, sts.length = 4 ∧ (∀ x ∈ sts, x < s0 + s1) ∧ out = sN sts, ⟨⟨_, _, ["k"], [("cells", .lst (cs.map AV.int)), ("houses", .int ((s0 + s1 : Nat) : Int))], ⟨rfl, by decide +kernel, by decide +kernel, by decide +kernel, by decide, by simp; decide +kernel⟩, walk_tup, ⟨⟨9, _, rfl, rfl, rfl⟩, ⟨8, _, rfl, rfl, rfl⟩, True.intro⟩, fun D Cc => ?_⟩⟩, ?_⟩
  · refine loop1 (J := fun i out => ∃ sts : List Nat, sts.length = i ∧ (∀ x ∈ sts, x < s0 + s1) ∧ out = sN sts) (fun _ => True.intro) ⟨[], rfl, fun x hx => absurd hx List.not_mem_nil, rfl⟩ ?_
    rintro i v out hv hz0
    refine e1_3 hz0 ?_
    clear hz0
    rintro sts hl hx rfl
    have hi : i < 4 := by
      have := (List.getElem?_eq_some_iff.mp hv).1
      simpa using this
    obtain ⟨k, hk, rfl⟩ : ∃ k : Nat, k < 8 ∧ v = .int (k : Int) := by
      match i, hv with
      | 0, e => exact ⟨3, by decide, (Option.some.inj e).symm⟩
      | 1, e => exact ⟨4, by decide, (Option.some.inj e).symm⟩
      | 2, e => exact ⟨5, by decide, (Option.some.inj e).symm⟩
      | 3, e => exact ⟨6, by decide, (Option.some.inj e).symm⟩
    repeat tb_start
    refine s_lst (v := .int (cs[k]'(by lia))) (by lia) (by lia) (by rw [Int.toNat_natCast, List.getElem?_map, List.getElem?_eq_getElem (by lia)]; rfl) ?_
    repeat tb_start
    refine bin_modN (s0 + s1) (by lia) fun r hr => ?_
    refine ⟨_, rfl, small_len (by rw [sN_len]; lia), _, Le.vars [false], sts ++ [r], by rw [List.length_append, hl]; rfl, ?_, by rw [sN_app]; rfl⟩
    intro x hm
    rcases List.mem_append.mp hm with hm | hm
    · exact hx x hm
    · rw [List.mem_singleton.mp hm]; exact hr
  · rintro D out hz0
    refine e1_3 hz0 ?_
    clear hz0
    rintro sts hl hx rfl
    refine ⟨D, _, _, rfl, rfl, ?_⟩
    tb_start
    refine then_next ?_
    exact h sts hl hx
theorem segA4 (T : TopOk B mg mb) {A : Around} {fit : Fit A 13} {pm : Value} {L : Addr} {PF : AF → S → Prop} {xs cs : List Int} {sts : List Nat} {s0 s1 b0 b1 p : Nat} (a1 : s0 ≤ 3) (a2 : s1 ≤ 3) (a4 : 1 ≤ s0)
    (h : Xs (LK prog w B T A fit pm L) (lawB 8) (⟨(some (.lst (xs.map AV.int)) :: some (.tup [.int (s0 : Int), .int (s1 : Int)]) :: some (.int (s0 : Int)) :: some (.tup [.int (b0 : Int), .int (b1 : Int)]) :: none :: none :: none :: none :: none :: none :: none :: none :: none :: none :: none :: none :: none :: none :: none :: none :: none :: none :: none :: none :: none :: none :: none :: none :: none :: none :: none :: none :: none :: none :: none :: none :: none :: none :: none :: []), (none :: none :: none :: none :: some (.lst (postsOf (nmL p (s0 + s1)) s0 b0 b1)) :: some (.lst (sN sts)) :: some (.lst (sT (nmL p (s0 + s1)))) :: some (.int (p : Int)) :: some (.int ((s0 + s1 : Nat) : Int)) :: some (.lst (cs.map AV.int)) :: []), [(54, tab6), (61, tab7)]⟩ : S) PF) :
    Xs (LK prog w B T A fit pm L) (lawB 7) (⟨(some (.lst (xs.map AV.int)) :: some (.tup [.int (s0 : Int), .int (s1 : Int)]) :: some (.int (s0 : Int)) :: some (.tup [.int (b0 : Int), .int (b1 : Int)]) :: none :: none :: none :: none :: none :: none :: none :: none :: none :: none :: none :: none :: none :: none :: none :: none :: none :: none :: none :: none :: none :: none :: none :: none :: none :: none :: none :: none :: none :: none :: none :: none :: none :: none :: none :: []), (none :: none :: none :: none :: none :: some (.lst (sN sts)) :: some (.lst (sT (nmL p (s0 + s1)))) :: some (.int (p : Int)) :: some (.int ((s0 + s1 : Nat) : Int)) :: some (.lst (cs.map AV.int)) :: []), [(54, tab6), (61, tab7)]⟩ : S) PF := by
  refine e2_3 T.f274 ?_
  rintro o274 pm274 ho274 hd274 _
  refine xs_cons ?_
  refine x_assign ?_ rfl
  refine ev_freeze ?_
  refine ev_callF (a := 274) ho274 hd274 ?_ rfl
  repeat tb_start
  refine Con.callK ((con_posts T (by rw [nmL_len]; lia) (by rw [nmL_len]; lia) (by lia) (.inl rfl)).mono ?_) (Nat.le_of_ble_eq_true rfl)
  refine q1_2 ?_
  intro a
  refine i3_3 a _ _ rfl rfl ?_
  tb_start
  refine then_next ?_
  exact h
end
noncomputable def selT (k : Nat) (q : Str × Str) : Str := if k = 0 then q.1 else q.2
noncomputable def bkP (p : Nat) (W : Nat → Str × Str) (k i : Nat) : List (Str × Str) := (List.range i).map fun j => (wd (p + j), selT k (W j))
noncomputable def bkT (p : Nat) (W : Nat → Str × Str) (n : Nat) : Nat → List (Str × Str)
  | 0 => []
  | k + 1 => bkT p W n k ++ bkP p W k n
noncomputable def bkL (p : Nat) (W : Nat → Str × Str) (n : Nat) : List (Str × Str) := bkT p W n 2
theorem bkP_succ (p : Nat) (W : Nat → Str × Str) (k i : Nat) : bkP p W k (i + 1) = bkP p W k i ++ [(wd (p + i), selT k (W i))] := by unfold bkP; rw [List.range_succ, List.map_append]; rfl
theorem bkP_len (p : Nat) (W : Nat → Str × Str) (k i : Nat) : (bkP p W k i).length = i := by unfold bkP; rw [List.length_map, List.length_range]
theorem bkT_len (p : Nat) (W : Nat → Str × Str) (n : Nat) : ∀ k, (bkT p W n k).length = k * n
  | 0 => by rw [Nat.zero_mul]; rfl
  | k + 1 => by unfold bkT; rw [List.length_append, bkT_len p W n k, bkP_len, Nat.add_mul, Nat.one_mul]
noncomputable def rowsL (p n : Nat) : List Str := [("away" : Str)] ++ nmL p n ++ [("home" : Str)]
noncomputable def d0 (sts : List Nat) (k : Nat) : Nat := (sts.map Int.ofNat).count ((k : Int) - 1) + 1
noncomputable def ds0 (sts : List Nat) (n : Nat) : List Nat := (List.range n).map (d0 sts)
theorem ds0_succ (sts : List Nat) (n : Nat) : ds0 sts (n + 1) = ds0 sts n ++ [d0 sts n] := by unfold ds0; rw [List.range_succ, List.map_append]; rfl
theorem ds0_len (sts : List Nat) (n : Nat) : (ds0 sts n).length = n := by unfold ds0; rw [List.length_map, List.length_range]
theorem sN_ints (l : List Nat) : sN l = (l.map Int.ofNat).map AV.int := by unfold sN; rw [List.map_map]; rfl
theorem posts_at {names : List Str} {s0 b0 b1 j : Nat} (h : j < names.length) : (postsOf names s0 b0 b1)[((j : Int)).toNat]? = some (pairT (postOf names s0 b0 b1 j)) := by
  unfold postsOf; rw [Int.toNat_natCast, List.getElem?_map, List.getElem?_range h]; rfl

section
variable {prog : Program} {w : World} {B : HF} {mg mb : Str → Option Value}
theorem segA5 (T : TopOk B mg mb) {A : Around} {fit : Fit A 13} {pm : Value} {L : Addr} {PF : AF → S → Prop} {xs cs : List Int} {sts : List Nat} {s0 s1 b0 b1 p : Nat} (a1 : s0 ≤ 3) (a2 : s1 ≤ 3)
    (h : ∀ l, Xs (LK prog w B T A fit pm L) (lawB 9) (⟨(some (.lst (xs.map AV.int)) :: some (.tup [.int (s0 : Int), .int (s1 : Int)]) :: some (.int (s0 : Int)) :: some (.tup [.int (b0 : Int), .int (b1 : Int)]) :: none :: some (.raw (.ref l)) :: none :: none :: none :: none :: none :: none :: none :: none :: none :: none :: none :: none :: none :: none :: none :: none :: none :: none :: none :: none :: none :: none :: none :: none :: none :: none :: none :: none :: none :: none :: none :: none :: none :: []), (none :: none :: none :: none :: some (.lst (postsOf (nmL p (s0 + s1)) s0 b0 b1)) :: some (.lst (sN sts)) :: some (.lst (sT (nmL p (s0 + s1)))) :: some (.int (p : Int)) :: some (.int ((s0 + s1 : Nat) : Int)) :: some (.lst (cs.map AV.int)) :: []), ((l, .list ((bkL p (postOf (nmL p (s0 + s1)) s0 b0 b1) (s0 + s1)).map pairT)) :: [(54, tab6), (61, tab7)])⟩ : S) PF) :
    Xs (LK prog w B T A fit pm L) (lawB 8) (⟨(some (.lst (xs.map AV.int)) :: some (.tup [.int (s0 : Int), .int (s1 : Int)]) :: some (.int (s0 : Int)) :: some (.tup [.int (b0 : Int), .int (b1 : Int)]) :: none :: none :: none :: none :: none :: none :: none :: none :: none :: none :: none :: none :: none :: none :: none :: none :: none :: none :: none :: none :: none :: none :: none :: none :: none :: none :: none :: none :: none :: none :: none :: none :: none :: none :: none :: []), (none :: none :: none :: none :: some (.lst (postsOf (nmL p (s0 + s1)) s0 b0 b1)) :: some (.lst (sN sts)) :: some (.lst (sT (nmL p (s0 + s1)))) :: some (.int (p : Int)) :: some (.int ((s0 + s1 : Nat) : Int)) :: some (.lst (cs.map AV.int)) :: []), [(54, tab6), (61, tab7)]⟩ : S) PF := by
  refine xs_cons ?_
  refine x_comp [("posts", L + 6), ("names", L + 4), ("houses", L + 2)] ?_ rfl (fun _ => rfl) rfl rfl (by decide +kernel)
  refine ev_tuple ?_
  repeat tb_start
  refine ⟨by rw [sizeLine_eq]; exact Nat.le_of_ble_eq_true rfl, ?_⟩
  refine ⟨fun out => out = (bkL p (postOf (nmL p (s0 + s1)) s0 b0 b1) (s0 + s1)).map pairT, ⟨⟨_, _, ["k", "j"], [("names", .lst (sT (nmL p (s0 + s1)))), ("posts", .lst (postsOf (nmL p (s0 + s1)) s0 b0 b1)), ("houses", .int ((s0 + s1 : Nat) : Int))], ⟨rfl, by decide +kernel, by decide +kernel, by decide +kernel, by decide, by simp; decide +kernel⟩, walk_tup, ⟨⟨6, _, rfl, rfl, rfl⟩, ⟨4, _, rfl, rfl, rfl⟩, ⟨8, _, rfl, rfl, rfl⟩, True.intro⟩, fun D Cc => ?_⟩⟩, ?_⟩
  · refine loop2 (J := fun i out => out = (bkT p (postOf (nmL p (s0 + s1)) s0 b0 b1) (s0 + s1) i).map pairT) (fun _ => True.intro) rfl ?_ (fun _ => rfl)
    rintro i v out hv rfl
    have hi : i < 2 := by
      have := (List.getElem?_eq_some_iff.mp hv).1
      simpa using this
    obtain rfl : v = .int (i : Int) := by
      match i, hv with
      | 0, e => exact (Option.some.inj e).symm
      | 1, e => exact (Option.some.inj e).symm
    repeat tb_start
    refine ev_callT (T := "range") ?_
    repeat tb_start
    refine c_range (n := ((s0 + s1 : Nat) : Int)) fun t1 t2 t3 => ?_
    refine i4_4 _ _ _ _ rfl (walk_range (by lia)) (loop2in (J := fun m out => out = (bkT p (postOf (nmL p (s0 + s1)) s0 b0 b1) (s0 + s1) i ++ bkP p (postOf (nmL p (s0 + s1)) s0 b0 b1) i m).map pairT) (fun _ => True.intro) (by show _ = List.map pairT (_ ++ []); rw [List.append_nil]) ?_) ?_
    · rintro j v out hv rfl
      obtain ⟨hj, rfl⟩ := upto_get hv
      repeat tb_start
      refine ev_tuple ?_
      repeat tb_start
      refine s_lst (by lia) (by lia) (sT_at (nmL_get hj)) ?_
      repeat tb_start
      refine s_lst (by lia) (by lia) (posts_at (by rw [nmL_len]; exact hj)) ?_
      repeat tb_start
      refine s_tup (j := i) (v := .str (selT i (postOf (nmL p (s0 + s1)) s0 b0 b1 j))) ?_ ?_ ?_
      · match i, hi with
        | 0, _ => rfl
        | 1, _ => rfl
      · match i, hi with
        | 0, _ => rfl
        | 1, _ => rfl
      repeat tb_start
      refine ⟨by rw [sizeLine_eq]; exact Nat.le_of_ble_eq_true rfl, _, rfl, small_len (by rw [List.length_map, List.length_append, bkT_len, bkP_len]; have := Nat.mul_le_mul (Nat.le_of_lt_succ hi) (Nat.add_le_add a1 a2); lia), _, Le.vars [true, false], ?_⟩
      refine rwl (bkP_succ _ _ _ _) ?_
      refine rwr (List.append_assoc _ _ _) ?_
      refine rwl (List.map_append (l₂ := [_])) ?_
      rfl
    · rintro out1 rfl
      exact ⟨_, Le.vars [false, false], by rw [upto_len]; rfl⟩
  · rintro D out rfl
    tb_start
    refine then_next ?_
    exact h D
theorem segA6 (T : TopOk B mg mb) (P : Pats B) (C : ClsOk B) {A : Around} {fit : Fit A 13} {pm : Value} {L : Addr} {PF : AF → S → Prop} {xs cs : List Int} {sts : List Nat} {s0 s1 b0 b1 p : Nat} {l : Addr} (hp : ∀ q ∈ (bkL p (postOf (nmL p (s0 + s1)) s0 b0 b1) (s0 + s1)), Plain q.1 ∧ Plain q.2)
    (h : ∀ x dx ox od, InsOk x dx l ox od → Xs (LK prog w B T A fit pm L) (lawB 10) (⟨(some (.lst (xs.map AV.int)) :: some (.tup [.int (s0 : Int), .int (s1 : Int)]) :: some (.int (s0 : Int)) :: some (.tup [.int (b0 : Int), .int (b1 : Int)]) :: none :: some (.raw (.ref l)) :: some (.raw (.ref x)) :: none :: none :: none :: none :: none :: none :: none :: none :: none :: none :: none :: none :: none :: none :: none :: none :: none :: none :: none :: none :: none :: none :: none :: none :: none :: none :: none :: none :: none :: none :: none :: none :: []), (none :: none :: none :: none :: some (.lst (postsOf (nmL p (s0 + s1)) s0 b0 b1)) :: some (.lst (sN sts)) :: some (.lst (sT (nmL p (s0 + s1)))) :: some (.int (p : Int)) :: some (.int ((s0 + s1 : Nat) : Int)) :: some (.lst (cs.map AV.int)) :: []), ((x, .ob ox) :: (dx, .ob od) :: ((l, .list ((bkL p (postOf (nmL p (s0 + s1)) s0 b0 b1) (s0 + s1)).map pairT)) :: [(54, tab6), (61, tab7)]))⟩ : S) PF) :
    Xs (LK prog w B T A fit pm L) (lawB 9) (⟨(some (.lst (xs.map AV.int)) :: some (.tup [.int (s0 : Int), .int (s1 : Int)]) :: some (.int (s0 : Int)) :: some (.tup [.int (b0 : Int), .int (b1 : Int)]) :: none :: some (.raw (.ref l)) :: none :: none :: none :: none :: none :: none :: none :: none :: none :: none :: none :: none :: none :: none :: none :: none :: none :: none :: none :: none :: none :: none :: none :: none :: none :: none :: none :: none :: none :: none :: none :: none :: none :: []), (none :: none :: none :: none :: some (.lst (postsOf (nmL p (s0 + s1)) s0 b0 b1)) :: some (.lst (sN sts)) :: some (.lst (sT (nmL p (s0 + s1)))) :: some (.int (p : Int)) :: some (.int ((s0 + s1 : Nat) : Int)) :: some (.lst (cs.map AV.int)) :: []), ((l, .list ((bkL p (postOf (nmL p (s0 + s1)) s0 b0 b1) (s0 + s1)).map pairT)) :: [(54, tab6), (61, tab7)])⟩ : S) PF := by
  refine xs_cons ?_
  refine x_assign ?_ rfl
  refine ev_callC C ?_ rfl
  repeat tb_start
  refine c_new C (m := 2) (Nat.le_of_ble_eq_true rfl) fun x dx ox od io => (con_init T P C io hp (k := 0) rfl).mono ?_
  rintro v mu' ⟨rfl, ox1, od1, io1, rfl⟩
  refine ⟨rfl, ?_⟩
  tb_start
  refine then_next ?_
  exact h x dx ox1 od1 io1
theorem segA7 (T : TopOk B mg mb) {A : Around} {fit : Fit A 13} {pm : Value} {L : Addr} {PF : AF → S → Prop} {xs cs : List Int} {sts : List Nat} {s0 s1 b0 b1 p : Nat} {x dx l : Addr} {ox od : Obj} (a1 : s0 ≤ 3) (a2 : s1 ≤ 3)
    (h : Xs (LK prog w B T A fit pm L) (lawB 11) (⟨(some (.lst (xs.map AV.int)) :: some (.tup [.int (s0 : Int), .int (s1 : Int)]) :: some (.int (s0 : Int)) :: some (.tup [.int (b0 : Int), .int (b1 : Int)]) :: none :: some (.raw (.ref l)) :: some (.raw (.ref x)) :: some (.lst (sT (rowsL p (s0 + s1)))) :: none :: none :: none :: none :: none :: none :: none :: none :: none :: none :: none :: none :: none :: none :: none :: none :: none :: none :: none :: none :: none :: none :: none :: none :: none :: none :: none :: none :: none :: none :: none :: []), (none :: none :: none :: none :: some (.lst (postsOf (nmL p (s0 + s1)) s0 b0 b1)) :: some (.lst (sN sts)) :: some (.lst (sT (nmL p (s0 + s1)))) :: some (.int (p : Int)) :: some (.int ((s0 + s1 : Nat) : Int)) :: some (.lst (cs.map AV.int)) :: []), ((x, .ob ox) :: (dx, .ob od) :: ((l, .list ((bkL p (postOf (nmL p (s0 + s1)) s0 b0 b1) (s0 + s1)).map pairT)) :: [(54, tab6), (61, tab7)]))⟩ : S) PF) :
    Xs (LK prog w B T A fit pm L) (lawB 10) (⟨(some (.lst (xs.map AV.int)) :: some (.tup [.int (s0 : Int), .int (s1 : Int)]) :: some (.int (s0 : Int)) :: some (.tup [.int (b0 : Int), .int (b1 : Int)]) :: none :: some (.raw (.ref l)) :: some (.raw (.ref x)) :: none :: none :: none :: none :: none :: none :: none :: none :: none :: none :: none :: none :: none :: none :: none :: none :: none :: none :: none :: none :: none :: none :: none :: none :: none :: none :: none :: none :: none :: none :: none :: none :: []), (none :: none :: none :: none :: some (.lst (postsOf (nmL p (s0 + s1)) s0 b0 b1)) :: some (.lst (sN sts)) :: some (.lst (sT (nmL p (s0 + s1)))) :: some (.int (p : Int)) :: some (.int ((s0 + s1 : Nat) : Int)) :: some (.lst (cs.map AV.int)) :: []), ((x, .ob ox) :: (dx, .ob od) :: ((l, .list ((bkL p (postOf (nmL p (s0 + s1)) s0 b0 b1) (s0 + s1)).map pairT)) :: [(54, tab6), (61, tab7)]))⟩ : S) PF := by
  refine xs_cons ?_
  refine x_assign ?_ rfl
  repeat tb_start
  refine ev_listF ?_
  repeat tb_start
  refine ⟨by rw [sizeLine_eq]; exact Nat.le_of_ble_eq_true rfl, ?_⟩
  repeat tb_start
  refine b_lcat LstAt.lst LstAt.lst (small_len (by rw [sT_len, nmL_len]; show 1 + _ ≤ _; lia)) ?_
  refine ev_listF ?_
  repeat tb_start
  refine ⟨by rw [sizeLine_eq]; exact Nat.le_of_ble_eq_true rfl, ?_⟩
  refine b_lcat LstAt.lst LstAt.lst (small_len (by rw [List.length_append, sT_len, nmL_len]; show 1 + _ + 1 ≤ _; lia)) ?_
  refine rwl (show ([AV.str "away"] ++ sT (nmL p (s0 + s1))) ++ [AV.str "home"] = sT (rowsL p (s0 + s1)) from by unfold rowsL; rw [sT_app, sT_app]; rfl) ?_
  tb_start
  refine then_next ?_
  exact h
theorem segA8 (T : TopOk B mg mb) {A : Around} {fit : Fit A 13} {pm : Value} {L : Addr} {PF : AF → S → Prop} {xs cs : List Int} {sts : List Nat} {s0 s1 b0 b1 p : Nat} {x dx l : Addr} {ox od : Obj} (a1 : s0 ≤ 3) (a2 : s1 ≤ 3)
    (h : ∀ D, Xs (LK prog w B T A fit pm L) (lawB 12) (⟨(some (.lst (xs.map AV.int)) :: some (.tup [.int (s0 : Int), .int (s1 : Int)]) :: some (.int (s0 : Int)) :: some (.tup [.int (b0 : Int), .int (b1 : Int)]) :: none :: some (.raw (.ref l)) :: some (.raw (.ref x)) :: some (.lst (sT (rowsL p (s0 + s1)))) :: none :: none :: none :: none :: none :: none :: none :: none :: none :: none :: none :: none :: none :: none :: none :: none :: none :: none :: none :: none :: none :: none :: none :: none :: none :: none :: none :: none :: none :: none :: none :: []), (none :: none :: none :: some (.raw (.ref D)) :: some (.lst (postsOf (nmL p (s0 + s1)) s0 b0 b1)) :: some (.lst (sN sts)) :: some (.lst (sT (nmL p (s0 + s1)))) :: some (.int (p : Int)) :: some (.int ((s0 + s1 : Nat) : Int)) :: some (.lst (cs.map AV.int)) :: []), ((D, .list (sN (ds0 sts (s0 + s1 + 2)))) :: ((x, .ob ox) :: (dx, .ob od) :: ((l, .list ((bkL p (postOf (nmL p (s0 + s1)) s0 b0 b1) (s0 + s1)).map pairT)) :: [(54, tab6), (61, tab7)])))⟩ : S) PF) :
    Xs (LK prog w B T A fit pm L) (lawB 11) (⟨(some (.lst (xs.map AV.int)) :: some (.tup [.int (s0 : Int), .int (s1 : Int)]) :: some (.int (s0 : Int)) :: some (.tup [.int (b0 : Int), .int (b1 : Int)]) :: none :: some (.raw (.ref l)) :: some (.raw (.ref x)) :: some (.lst (sT (rowsL p (s0 + s1)))) :: none :: none :: none :: none :: none :: none :: none :: none :: none :: none :: none :: none :: none :: none :: none :: none :: none :: none :: none :: none :: none :: none :: none :: none :: none :: none :: none :: none :: none :: none :: none :: []), (none :: none :: none :: none :: some (.lst (postsOf (nmL p (s0 + s1)) s0 b0 b1)) :: some (.lst (sN sts)) :: some (.lst (sT (nmL p (s0 + s1)))) :: some (.int (p : Int)) :: some (.int ((s0 + s1 : Nat) : Int)) :: some (.lst (cs.map AV.int)) :: []), ((x, .ob ox) :: (dx, .ob od) :: ((l, .list ((bkL p (postOf (nmL p (s0 + s1)) s0 b0 b1) (s0 + s1)).map pairT)) :: [(54, tab6), (61, tab7)]))⟩ : S) PF := by
  refine xs_cons ?_
  refine x_assign ?_ rfl
  refine ev_comp [("starts", L + 5)] ?_ (fun _ => rfl) rfl rfl (by decide +kernel)
  refine ev_callT (T := "range") ?_
  repeat tb_start
  refine c_range (n := ((s0 + s1 + 2 : Nat) : Int)) fun t1 t2 t3 => ?_
  let JJ : List AV → Prop := fun out => out = sN (ds0 sts (upto (s0 + s1 + 2)).length)
  refine ⟨JJ, ⟨⟨_, _, ["k"], [("starts", .lst (sN sts))], ⟨rfl, by decide +kernel, by decide +kernel, by decide +kernel, by decide, by simp; decide +kernel⟩, walk_range (by lia), ⟨⟨5, _, rfl, rfl, rfl⟩, True.intro⟩, fun D Cc => ?_⟩⟩, ?_⟩
  · refine loop1 (J := fun i out => out = sN (ds0 sts i)) (fun _ => True.intro) rfl ?_
    rintro i v out hv rfl
    obtain ⟨hi, rfl⟩ := upto_get hv
    repeat tb_start
    refine m_count ?_ ⟨rfl, rfl, rfl⟩
    repeat tb_start
    refine ⟨hasT_lst, ?_⟩
    repeat tb_start
    refine c_count (xs := sts.map Int.ofNat) (by rw [sN_ints]; exact LstAt.lst) ?_
    repeat tb_start
    refine ⟨_, rfl, small_len (by rw [sN_len, ds0_len]; lia), _, Le.vars [false], ?_⟩
    refine rwl (ds0_succ _ _) ?_
    refine rwl (sN_app _ _) ?_
    rfl
  · rintro D out rfl
    refine rwl (upto_len _) ?_
    tb_start
    refine then_next ?_
    exact h D
theorem segA9 (T : TopOk B mg mb) {A : Around} {fit : Fit A 13} {pm : Value} {L : Addr} {PF : AF → S → Prop} {xs cs : List Int} {sts : List Nat} {s0 s1 b0 b1 p : Nat} {x dx l D : Addr} {ox od : Obj}
    (h : ∀ O, Xs (LK prog w B T A fit pm L) (lawB 14) (⟨(some (.lst (xs.map AV.int)) :: some (.tup [.int (s0 : Int), .int (s1 : Int)]) :: some (.int (s0 : Int)) :: some (.tup [.int (b0 : Int), .int (b1 : Int)]) :: none :: some (.raw (.ref l)) :: some (.raw (.ref x)) :: some (.lst (sT (rowsL p (s0 + s1)))) :: some (.int 0) :: none :: none :: none :: none :: none :: none :: none :: none :: none :: none :: none :: none :: none :: none :: none :: none :: none :: none :: none :: none :: none :: none :: none :: none :: none :: none :: none :: none :: none :: none :: []), (none :: none :: some (.raw (.ref O)) :: some (.raw (.ref D)) :: some (.lst (postsOf (nmL p (s0 + s1)) s0 b0 b1)) :: some (.lst (sN sts)) :: some (.lst (sT (nmL p (s0 + s1)))) :: some (.int (p : Int)) :: some (.int ((s0 + s1 : Nat) : Int)) :: some (.lst (cs.map AV.int)) :: []), ((O, .list []) :: ((D, .list (sN (ds0 sts (s0 + s1 + 2)))) :: ((x, .ob ox) :: (dx, .ob od) :: ((l, .list ((bkL p (postOf (nmL p (s0 + s1)) s0 b0 b1) (s0 + s1)).map pairT)) :: [(54, tab6), (61, tab7)]))))⟩ : S) PF) :
    Xs (LK prog w B T A fit pm L) (lawB 12) (⟨(some (.lst (xs.map AV.int)) :: some (.tup [.int (s0 : Int), .int (s1 : Int)]) :: some (.int (s0 : Int)) :: some (.tup [.int (b0 : Int), .int (b1 : Int)]) :: none :: some (.raw (.ref l)) :: some (.raw (.ref x)) :: some (.lst (sT (rowsL p (s0 + s1)))) :: none :: none :: none :: none :: none :: none :: none :: none :: none :: none :: none :: none :: none :: none :: none :: none :: none :: none :: none :: none :: none :: none :: none :: none :: none :: none :: none :: none :: none :: none :: none :: []), (none :: none :: none :: some (.raw (.ref D)) :: some (.lst (postsOf (nmL p (s0 + s1)) s0 b0 b1)) :: some (.lst (sN sts)) :: some (.lst (sT (nmL p (s0 + s1)))) :: some (.int (p : Int)) :: some (.int ((s0 + s1 : Nat) : Int)) :: some (.lst (cs.map AV.int)) :: []), ((D, .list (sN (ds0 sts (s0 + s1 + 2)))) :: ((x, .ob ox) :: (dx, .ob od) :: ((l, .list ((bkL p (postOf (nmL p (s0 + s1)) s0 b0 b1) (s0 + s1)).map pairT)) :: [(54, tab6), (61, tab7)])))⟩ : S) PF := by
  refine xs_cons ?_
  refine x_assign ?_ rfl
  refine ev_list ?_
  repeat tb_start
  refine ⟨by rw [sizeLine_eq]; exact Nat.le_of_ble_eq_true rfl, fun O => ?_⟩
  tb_start
  refine then_next ?_
  refine xs_cons ?_
  refine x_assign ?_ rfl
  tb_start
  tb_start
  refine then_next ?_
  exact h O
end
noncomputable def insL (ds : List Nat) (n : Nat) : List Nat := (List.range n).filter fun j => decide (1 < ds.getD (j + 1) 0)
noncomputable def outN (ds : List Nat) (n : Nat) : Nat := ds.getD 0 0 + ds.getD (n + 1) 0 - 2
noncomputable def outW (out : Nat) : List Str := if 0 < out then [hexT (out * 2 ^ 32)] else []
noncomputable def wordsL (p : Nat) (ins : List Nat) (out : Nat) : List Str := (ins.map fun j => wd (p + j)) ++ outW out
noncomputable def bitB (p n : Nat) (ds : List Nat) (b : Nat) : Bool := decide (p ≤ b ∧ b < p + n) && decide (1 < ds.getD (b - p + 1) 0)
theorem filter_none {α : Type} {f : α → Bool} {l : List α} (h : ∀ x ∈ l, f x = false) : l.filter f = [] := by
  rw [List.filter_eq_nil_iff]
  intro x hx
  rw [h x hx]
  exact Bool.false_ne_true
theorem filter_bits {p n : Nat} (ds : List Nat) (h : p + n ≤ 32) : (List.range 32).filter (bitB p n ds) = (insL ds n).map fun j => p + j := by
  obtain ⟨m, hm⟩ : ∃ m, 32 = p + n + m := ⟨32 - (p + n), by omega⟩
  refine rwl hm ?_
  refine rwl List.range_add ?_
  refine rwl List.range_add ?_
  refine rwl (List.filter_append _ _) ?_
  refine rwl (List.filter_append _ _) ?_
  rw [filter_none (l := List.range p), filter_none (l := List.map _ (List.range m))]
  · rw [List.nil_append, List.append_nil, List.filter_map]
    unfold insL
    congr 1
    refine List.filter_congr fun j hj => ?_
    have hj := List.mem_range.mp hj
    show (decide (p ≤ p + j ∧ p + j < p + n) && decide (1 < ds.getD (p + j - p + 1) 0)) = _
    rw [decide_eq_true (by lia), Nat.add_sub_cancel_left, Bool.true_and]
  · intro b hb
    refine e1_2 (List.mem_map.mp hb) ?_
    rintro c hc rfl
    unfold bitB
    rw [decide_eq_false (by lia)]; rfl
  · intro b hb
    have := List.mem_range.mp hb
    unfold bitB
    rw [decide_eq_false (by lia)]; rfl
theorem bits_words {p n : Nat} (ds : List Nat) (h : p + n ≤ 32) : bitWords (bitB p n ds) 32 = (insL ds n).map fun j => wd (p + j) := by
  unfold bitWords
  refine rwl (show (List.range 32).take 32 = List.range 32 from rfl) ?_
  refine rwl (filter_bits ds h) ?_
  refine rwl List.map_map ?_
  rfl
theorem flag_is {p n : Nat} (ds : List Nat) (h : p + n ≤ 32) (out : Nat) : flagText (bitB p n ds) out = Txt.join ", " (wordsL p (insL ds n) out) := by
  unfold flagText wordsL outW
  rw [bits_words ds h]
theorem sum_filter (f : Nat → Bool) (g : Nat → Nat) : ∀ l : List Nat, (l.map fun b => if f b then g b else 0).sum = ((l.filter f).map g).sum
  | [] => rfl
  | a :: l => by
    refine rwl List.map_cons ?_
    refine rwl List.sum_cons ?_
    refine rwl (sum_filter f g l) ?_
    refine rwl List.filter_cons ?_
    cases f a with
    | true => rw [if_pos rfl, if_pos rfl, List.map_cons, List.sum_cons]
    | false => rw [if_neg Bool.false_ne_true, if_neg Bool.false_ne_true, Nat.zero_add]
theorem bitsF_is {p n : Nat} (ds : List Nat) (h : p + n ≤ 32) (out : Nat) : bitsF (bitB p n ds) out 0 = ((insL ds n).map fun j => 2 ^ (p + j)).sum + out * 2 ^ 32 := by
  unfold bitsF
  rw [List.drop_zero, sum_filter, filter_bits ds h, List.map_map]
  rfl
theorem sum_ofNat : ∀ l : List Nat, (l.map Int.ofNat).sum = ((l.sum : Nat) : Int)
  | [] => rfl
  | a :: l => by rw [List.map_cons, List.sum_cons, List.sum_cons, sum_ofNat l]; exact (Int.natCast_add a l.sum).symm
theorem insL_mem {ds : List Nat} {n j : Nat} (h : j ∈ insL ds n) : j < n ∧ 1 < ds.getD (j + 1) 0 := by
  refine e0_2 (List.mem_filter.mp h) ?_
  rintro h1 h2
  exact ⟨List.mem_range.mp h1, of_decide_eq_true h2⟩
theorem insL_len (ds : List Nat) (n : Nat) : (insL ds n).length ≤ n := by
  have := List.length_filter_le (fun j => decide (1 < ds.getD (j + 1) 0)) (List.range n)
  rw [List.length_range] at this
  exact this
theorem insL_nil {ds : List Nat} {n : Nat} (h : insL ds n = []) : ∀ j, j < n → ds.getD (j + 1) 0 ≤ 1 := by
  intro j hj
  have := (List.filter_eq_nil_iff.mp h) j (List.mem_range.mpr hj)
  have : ¬ (1 < ds.getD (j + 1) 0) := fun z => this (decide_eq_true z)
  lia
theorem wordsL_len (p : Nat) (ds : List Nat) (n out : Nat) : (wordsL p (insL ds n) out).length ≤ n + 1 := by
  unfold wordsL outW
  have := insL_len ds n
  refine rwl List.length_append ?_
  refine rwl (List.length_map _) ?_
  split <;> simp <;> lia

/- join and split -/
theorem foldl_sep (sep : Str) : ∀ (l : List Str) (acc : Array Nat), (l.foldl (fun acc p => acc ++ sep.cps ++ p.cps) acc).toList = acc.toList ++ (l.map fun p => chs sep ++ chs p).flatten
  | [], acc => by simp
  | a :: r, acc => by
    refine rwl List.foldl_cons ?_
    refine rwl (foldl_sep sep r _) ?_
    simp [List.append_assoc]
theorem joinL_cons (sep : List Nat) : ∀ (l : List (List Nat)) (a : List Nat), joinL sep (a :: l) = a ++ (l.map fun q => sep ++ q).flatten
  | [], a => by simp [joinL]
  | b :: l, a => by rw [joinL, joinL_cons sep l b]; simp [List.append_assoc]
theorem chs_join (sep : Str) (l : List Str) : chs (Txt.join sep l) = joinL (chs sep) (l.map chs) := by
  cases l with
  | nil => rfl
  | cons a r =>
    show ((r.foldl (fun acc p => acc ++ sep.cps ++ p.cps) a.cps)).toList = _
    refine rwl (foldl_sep _ _ _) ?_
    refine rwl List.map_cons ?_
    refine rwl (joinL_cons _ _ _) ?_
    refine rwl List.map_map ?_
    rfl
theorem okWord_parts {x : Str} (h : okWord x = true) : (∀ c ∈ chs x, okC c = true ∧ c ≠ 46 ∧ c ≠ 44) ∧ (chs x).length ≤ 20 := by
  unfold okWord at h
  rw [Bool.and_eq_true] at h
  refine ⟨fun c hc => ?_, of_decide_eq_true h.2⟩
  have := List.all_eq_true.mp h.1 c hc
  simp only [Bool.and_eq_true, bne_iff_ne, ne_eq] at this
  exact ⟨this.1.1, this.1.2, this.2⟩
theorem words_split {l : List Str} (hl : l ≠ []) (h : ∀ x ∈ l, okWord x = true) :
    Txt.split (Txt.join ", " l) ", " = l ∧ (Builtin.Str.partsBetween (Txt.join ", " l) (Builtin.Str.occurrences (Txt.join ", " l) ", " 0 (Txt.join ", " l).length ((Txt.join ", " l).length + 1)) (", " : Str).length).length = l.length :=
  split_is (c0 := 44) (c1 := 32) (by decide) (by decide) (by decide) hl (fun x hx z => ((okWord_parts (h x hx)).1 44 z).2.2 rfl) (chs_join ", " l)
noncomputable def forBody : Stmt → List Stmt
  | .For _ _ b _ _ => b
  | _ => []
noncomputable abbrev turnB (i : Nat) : List Stmt := (forBody ((fbody (topSt 29)).getD 14 (.Pass default))).drop i
theorem sN_at {l : List Nat} {k : Nat} (h : k < l.length) : (sN l)[((k : Int)).toNat]? = some (.int ((l.getD k 0 : Nat) : Int)) := by
  rw [Int.toNat_natCast, sN, List.getElem?_map, List.getD_eq_getElem?_getD, List.getElem?_eq_getElem h]; rfl
theorem insL_succ (ds : List Nat) (j : Nat) : insL ds (j + 1) = insL ds j ++ if 1 < ds.getD (j + 1) 0 then [j] else [] := by
  unfold insL
  refine rwl List.range_succ ?_
  refine rwl (List.filter_append _ _) ?_
  refine rwl List.filter_cons ?_
  by_cases h : 1 < ds.getD (j + 1) 0
  · rw [if_pos (decide_eq_true h), if_pos h]; rfl
  · rw [if_neg (fun z => h (of_decide_eq_true z)), if_neg h]; rfl

section
variable {prog : Program} {w : World} {B : HF} {mg mb : Str → Option Value}
theorem segTA (T : TopOk B mg mb) {A : Around} {fit : Fit A 13} {pm : Value} {L : Addr} {PF : AF → S → Prop} {xs cs : List Int} {sts ds ords : List Nat} {s0 s1 b0 b1 p i ov : Nat} {x dx l D O : Addr} {ox od : Obj} {ps : List (Str × Str)} (a1 : s0 ≤ 3) (a2 : s1 ≤ 3) (hd : ds.length = s0 + s1 + 2) (hd0 : 1 ≤ ds.getD 0 0) (hd1 : 1 ≤ ds.getD (s0 + s1 + 1) 0)
    (h : ∀ ins ou, ins = insL ds (s0 + s1) → ou = outN ds (s0 + s1) → Xs (LK prog w B T A fit pm L) (turnB 2) (⟨(some (.lst (xs.map AV.int)) :: some (.tup [.int (s0 : Int), .int (s1 : Int)]) :: some (.int (s0 : Int)) :: some (.tup [.int (b0 : Int), .int (b1 : Int)]) :: none :: some (.raw (.ref l)) :: some (.raw (.ref x)) :: some (.lst (sT (rowsL p (s0 + s1)))) :: some (.int (ov : Int)) :: some (.int (i : Int)) :: some (.lst (sN ins)) :: some (.int (ou : Int)) :: none :: none :: none :: none :: none :: none :: none :: none :: none :: none :: none :: none :: none :: none :: none :: none :: none :: none :: none :: none :: none :: none :: none :: none :: none :: none :: none :: []), (none :: none :: some (.raw (.ref O)) :: some (.raw (.ref D)) :: some (.lst (postsOf (nmL p (s0 + s1)) s0 b0 b1)) :: some (.lst (sN sts)) :: some (.lst (sT (nmL p (s0 + s1)))) :: some (.int (p : Int)) :: some (.int ((s0 + s1 : Nat) : Int)) :: some (.lst (cs.map AV.int)) :: []), ((D, .list (sN ds)) :: (O, .list (sN ords)) :: (x, .ob ox) :: (dx, .ob od) :: (l, .list (ps.map pairT)) :: [(54, tab6), (61, tab7)])⟩ : S) PF) :
    Xs (LK prog w B T A fit pm L) (turnB 0) (⟨(some (.lst (xs.map AV.int)) :: some (.tup [.int (s0 : Int), .int (s1 : Int)]) :: some (.int (s0 : Int)) :: some (.tup [.int (b0 : Int), .int (b1 : Int)]) :: none :: some (.raw (.ref l)) :: some (.raw (.ref x)) :: some (.lst (sT (rowsL p (s0 + s1)))) :: some (.int (ov : Int)) :: some (.int (i : Int)) :: none :: none :: none :: none :: none :: none :: none :: none :: none :: none :: none :: none :: none :: none :: none :: none :: none :: none :: none :: none :: none :: none :: none :: none :: none :: none :: none :: none :: none :: []), (none :: none :: some (.raw (.ref O)) :: some (.raw (.ref D)) :: some (.lst (postsOf (nmL p (s0 + s1)) s0 b0 b1)) :: some (.lst (sN sts)) :: some (.lst (sT (nmL p (s0 + s1)))) :: some (.int (p : Int)) :: some (.int ((s0 + s1 : Nat) : Int)) :: some (.lst (cs.map AV.int)) :: []), ((D, .list (sN ds)) :: (O, .list (sN ords)) :: (x, .ob ox) :: (dx, .ob od) :: (l, .list (ps.map pairT)) :: [(54, tab6), (61, tab7)])⟩ : S) PF := by
  refine xs_cons ?_
  refine x_comp [("dots", L + 7)] ?_ rfl (fun _ => rfl) rfl rfl (by decide +kernel)
  refine ev_callT (T := "range") ?_
  repeat tb_start
  refine c_range (n := ((s0 + s1 : Nat) : Int)) fun t1 t2 t3 => ?_
  refine ⟨fun out => out = sN (insL ds (upto (s0 + s1)).length), ⟨⟨_, _, ["j"], [("dots", .raw (.ref D))], ⟨rfl, by decide +kernel, by decide +kernel, by decide +kernel, by decide, by simp; decide +kernel⟩, walk_range (by lia), ⟨⟨3, _, rfl, rfl, rfl⟩, True.intro⟩, fun D' Cc => ?_⟩⟩, ?_⟩
  · refine loop1if (J := fun i out => out = sN (insL ds i)) (fun _ => True.intro) rfl ?_
    rintro j v out hv rfl
    obtain ⟨hj, rfl⟩ := upto_get hv
    repeat tb_start
    refine s_mu 1 rfl (by lia) (by lia) (sN_at (by lia)) ?_
    repeat tb_start
    refine ite_both (fun hc => ?_) fun hc => ?_
    · repeat tb_start
      have hc' : 1 < ds.getD (j + 1) 0 := by have := of_decide_eq_true hc; lia
      refine ⟨_, rfl, small_len (by rw [sN_len]; have := insL_len ds j; lia), _, Le.vars [false], ?_⟩
      refine rwl (insL_succ _ _) ?_
      refine rwl (if_pos hc') ?_
      refine rwl (sN_app _ _) ?_
      rfl
    · have hc' : ¬ 1 < ds.getD (j + 1) 0 := by have := of_decide_eq_false hc; lia
      refine ⟨_, Le.vars [false], ?_⟩
      rw [insL_succ, if_neg hc', List.append_nil]
  · rintro D' out rfl
    refine rwl (upto_len _) ?_
    tb_start
    refine then_next (Tri.le (Le.settleV (i := 10) (j := 0) rfl rfl) ?_)
    refine xs_cons ?_
    repeat tb_start
    refine s_mu 0 rfl (by decide) (by decide) (sN_at (k := 0) (by lia)) ?_
    repeat tb_start
    refine s_mu 0 rfl (by lia) (by lia) (sN_at (by lia)) ?_
    tb_start
    tb_start
    refine bN_sub (a := ds.getD 0 0 + ds.getD (s0 + s1 + 1) 0) (b := 2) (by lia) ?_
    tb_start
    refine then_next ?_
    exact h _ _ rfl rfl
theorem segTB (T : TopOk B mg mb) {A : Around} {fit : Fit A 13} {pm : Value} {L : Addr} {PF : AF → S → Prop} {xs cs : List Int} {sts ds ords : List Nat} {s0 s1 b0 b1 p i ov : Nat} {x dx l D O : Addr} {ox od : Obj} {ps : List (Str × Str)} {ins : List Nat} {ou : Nat} (a1 : s0 ≤ 3) (a2 : s1 ≤ 3) (a3 : p ≤ 26) (hi : ∀ j ∈ ins, j < s0 + s1) (hil : ins.length ≤ s0 + s1) (ho : ou ≤ 8)
    (h : Xs (LK prog w B T A fit pm L) (turnB 3) (⟨(some (.lst (xs.map AV.int)) :: some (.tup [.int (s0 : Int), .int (s1 : Int)]) :: some (.int (s0 : Int)) :: some (.tup [.int (b0 : Int), .int (b1 : Int)]) :: none :: some (.raw (.ref l)) :: some (.raw (.ref x)) :: some (.lst (sT (rowsL p (s0 + s1)))) :: some (.int (ov : Int)) :: some (.int (i : Int)) :: some (.lst (sN ins)) :: some (.int (ou : Int)) :: some (.lst (sT (wordsL p ins ou))) :: none :: none :: none :: none :: none :: none :: none :: none :: none :: none :: none :: none :: none :: none :: none :: none :: none :: none :: none :: none :: none :: none :: none :: none :: none :: none :: []), (none :: none :: some (.raw (.ref O)) :: some (.raw (.ref D)) :: some (.lst (postsOf (nmL p (s0 + s1)) s0 b0 b1)) :: some (.lst (sN sts)) :: some (.lst (sT (nmL p (s0 + s1)))) :: some (.int (p : Int)) :: some (.int ((s0 + s1 : Nat) : Int)) :: some (.lst (cs.map AV.int)) :: []), ((D, .list (sN ds)) :: (O, .list (sN ords)) :: (x, .ob ox) :: (dx, .ob od) :: (l, .list (ps.map pairT)) :: [(54, tab6), (61, tab7)])⟩ : S) PF) :
    Xs (LK prog w B T A fit pm L) (turnB 2) (⟨(some (.lst (xs.map AV.int)) :: some (.tup [.int (s0 : Int), .int (s1 : Int)]) :: some (.int (s0 : Int)) :: some (.tup [.int (b0 : Int), .int (b1 : Int)]) :: none :: some (.raw (.ref l)) :: some (.raw (.ref x)) :: some (.lst (sT (rowsL p (s0 + s1)))) :: some (.int (ov : Int)) :: some (.int (i : Int)) :: some (.lst (sN ins)) :: some (.int (ou : Int)) :: none :: none :: none :: none :: none :: none :: none :: none :: none :: none :: none :: none :: none :: none :: none :: none :: none :: none :: none :: none :: none :: none :: none :: none :: none :: none :: none :: []), (none :: none :: some (.raw (.ref O)) :: some (.raw (.ref D)) :: some (.lst (postsOf (nmL p (s0 + s1)) s0 b0 b1)) :: some (.lst (sN sts)) :: some (.lst (sT (nmL p (s0 + s1)))) :: some (.int (p : Int)) :: some (.int ((s0 + s1 : Nat) : Int)) :: some (.lst (cs.map AV.int)) :: []), ((D, .list (sN ds)) :: (O, .list (sN ords)) :: (x, .ob ox) :: (dx, .ob od) :: (l, .list (ps.map pairT)) :: [(54, tab6), (61, tab7)])⟩ : S) PF := by
  refine xs_cons ?_
  refine x_assign ?_ rfl
  refine ev_binop ?_
  refine ev_freeze ?_
  refine ev_comp [("names", L + 4)] ?_ (fun _ => rfl) rfl rfl (by decide +kernel)
  repeat tb_start
  refine ⟨fun out => out = sT ((ins.take (sN ins).length).map fun j => wd (p + j)), ⟨⟨_, _, ["j"], [("names", .lst (sT (nmL p (s0 + s1))))], ⟨rfl, by decide +kernel, by decide +kernel, by decide +kernel, by decide, by simp; decide +kernel⟩, walk_lst, ⟨⟨6, _, rfl, rfl, rfl⟩, True.intro⟩, fun D' Cc => ?_⟩⟩, ?_⟩
  · refine loop1 (J := fun i out => out = sT ((ins.take i).map fun j => wd (p + j))) (fun _ => True.intro) rfl ?_
    rintro k v out hv rfl
    unfold sN at hv
    rw [List.getElem?_map] at hv
    cases e : ins[k]? with
    | none => rw [e] at hv; cases hv
    | some j =>
      rw [e] at hv
      obtain rfl : v = .int (j : Int) := (Option.some.inj hv).symm
      have hj := hi j (List.mem_of_getElem? e)
      repeat tb_start
      refine s_lst (by lia) (by lia) (sT_at (nmL_get hj)) ?_
      refine ⟨_, rfl, small_len (by rw [sT_len, List.length_map, List.length_take]; lia), _, Le.vars [false], ?_⟩
      refine rwl (show ins.take (k + 1) = ins.take k ++ [j] from by rw [List.take_add_one, e]; rfl) ?_
      refine rwl List.map_append ?_
      refine rwl (sT_app _ _) ?_
      rfl
  · rintro D' out rfl
    refine i3_3 D' _ _ rfl rfl ?_
    refine rwl (sN_len _) ?_
    refine rwl List.take_length ?_
    refine ev_det (.lst (sT (outW ou))) ?_ ?_
    · refine ev_ifexp ?_
      repeat tb_start
      refine ite_both (fun hc => ?_) fun hc => ?_
      · have hc' : 0 < ou := by have := of_decide_eq_true hc; lia
        refine ev_listF ?_
        repeat tb_start
        refine ev_callB (id := "hex") ?_
        repeat tb_start
        refine bN_shl (b := 32) (by have := nb_le (n := ou) (k := 4) (by lia); lia) ?_
        repeat tb_start
        refine c_hex (hex_fits (by rw [Int.natAbs_natCast]; lia)) ?_
        repeat tb_start
        exact ⟨by rw [sizeLine_eq]; exact Nat.le_of_ble_eq_true rfl, by unfold outW; rw [if_pos hc']; rfl, rfl⟩
      · have hc' : ¬ 0 < ou := by have := of_decide_eq_false hc; lia
        refine ev_listF ?_
        repeat tb_start
        exact ⟨by rw [sizeLine_eq]; exact Nat.le_of_ble_eq_true rfl, by unfold outW; rw [if_neg hc']; rfl, rfl⟩
    refine b_lcat LstAt.lst LstAt.lst (small_len (by rw [sT_len, sT_len, List.length_map]; unfold outW; split <;> simp <;> lia)) ?_
    refine rwr (sT_app _ _) ?_
    tb_start
    refine then_next ?_
    exact h
end
theorem word_ok {p j n : Nat} (h : p + n ≤ 32) (hj : j < n) : okWord (wd (p + j)) = true := (words_ok _ (by lia)).1
theorem wordsL_ok {p n : Nat} {ds : List Nat} {ou : Nat} (h : p + n ≤ 32) (ho : ou ≤ 8) : ∀ x ∈ wordsL p (insL ds n) ou, okWord x = true := by
  intro x hx
  unfold wordsL outW at hx
  rcases List.mem_append.mp hx with hx | hx
  · refine e1_2 (List.mem_map.mp hx) ?_
    rintro j hj rfl
    exact word_ok h (insL_mem hj).1
  · split at hx
    · refine rwl (List.mem_singleton.mp hx) ?_
      exact outs_ok ou (by lia)
    · cases hx
theorem okWord_len {x : Str} (h : okWord x = true) : x.length ≤ 20 := by
  have := (okWord_parts h).2
  rw [chs_len] at this
  exact this
theorem sum_len_ok {l : List Str} (h : ∀ x ∈ l, okWord x = true) : (l.map (·.length)).sum ≤ 20 * l.length := joinlen fun x hx => okWord_len (h x hx)
theorem joinL_len (sep : List Nat) : ∀ l : List (List Nat), (joinL sep l).length ≤ (l.map (·.length)).sum + l.length * sep.length
  | [] => Nat.zero_le _
  | [a] => by simp [joinL]
  | a :: b :: r => by
    have := joinL_len sep (b :: r)
    rw [joinL, List.length_append, List.length_append, List.map_cons, List.sum_cons, List.length_cons, Nat.add_mul]
    lia
theorem join_len (sep : Str) (l : List Str) : (Txt.join sep l).length ≤ (l.map (·.length)).sum + l.length * sep.length := by
  have h := joinL_len (chs sep) (l.map chs)
  rw [← chs_join, List.map_map, List.length_map] at h
  exact h
theorem bne_self' (x : Str) : (x != x) = false := by simp
theorem lst_sN {K : Cx} {σ : S} {l : List Nat} : LstAt K σ (.lst (sN l)) ((l.map Int.ofNat).map AV.int) := by rw [← sN_ints]; exact LstAt.lst
theorem mu_sN {K : Cx} {σ : S} {i : Nat} {a : Addr} {l : List Nat} (h : σ.mu[i]? = some (a, .list (sN l))) : LstAt K σ (.raw (.ref a)) ((l.map Int.ofNat).map AV.int) := by rw [← sN_ints]; exact LstAt.mu h
section
variable {prog : Program} {w : World} {B : HF} {mg mb : Str → Option Value}
theorem segTC (T : TopOk B mg mb) (hd81 : B 81 = some flagO) {A : Around} {fit : Fit A 13} {pm : Value} {L : Addr} {PF : AF → S → Prop} {xs cs : List Int} {sts ds ords : List Nat} {s0 s1 b0 b1 p i ov : Nat} {x dx l D O : Addr} {ox od : Obj} {ps : List (Str × Str)} {ins : List Nat} {ou : Nat} (a1 : s0 ≤ 3) (a2 : s1 ≤ 3) (a3 : p ≤ 26) (hi : ins = insL ds (s0 + s1)) (ho : ou ≤ 8)
    (hne : ((insL ds (s0 + s1)).map fun j => 2 ^ (p + j)).sum + ou * 2 ^ 32 ≠ 0)
    (h : Xs (LK prog w B T A fit pm L) (turnB 5) (⟨(some (.lst (xs.map AV.int)) :: some (.tup [.int (s0 : Int), .int (s1 : Int)]) :: some (.int (s0 : Int)) :: some (.tup [.int (b0 : Int), .int (b1 : Int)]) :: none :: some (.raw (.ref l)) :: some (.raw (.ref x)) :: some (.lst (sT (rowsL p (s0 + s1)))) :: some (.int (ov : Int)) :: some (.int (i : Int)) :: some (.lst (sN ins)) :: some (.int (ou : Int)) :: some (.lst (sT (wordsL p ins ou))) :: some (.str (Txt.join ", " (wordsL p ins ou))) :: none :: none :: none :: none :: none :: none :: none :: none :: none :: none :: none :: none :: none :: none :: none :: none :: none :: none :: none :: none :: none :: none :: none :: none :: none :: []), (none :: none :: some (.raw (.ref O)) :: some (.raw (.ref D)) :: some (.lst (postsOf (nmL p (s0 + s1)) s0 b0 b1)) :: some (.lst (sN sts)) :: some (.lst (sT (nmL p (s0 + s1)))) :: some (.int (p : Int)) :: some (.int ((s0 + s1 : Nat) : Int)) :: some (.lst (cs.map AV.int)) :: []), ((D, .list (sN ds)) :: (O, .list (sN ords)) :: (x, .ob ox) :: (dx, .ob od) :: (l, .list (ps.map pairT)) :: [(54, tab6), (61, tab7)])⟩ : S) PF) :
    Xs (LK prog w B T A fit pm L) (turnB 3) (⟨(some (.lst (xs.map AV.int)) :: some (.tup [.int (s0 : Int), .int (s1 : Int)]) :: some (.int (s0 : Int)) :: some (.tup [.int (b0 : Int), .int (b1 : Int)]) :: none :: some (.raw (.ref l)) :: some (.raw (.ref x)) :: some (.lst (sT (rowsL p (s0 + s1)))) :: some (.int (ov : Int)) :: some (.int (i : Int)) :: some (.lst (sN ins)) :: some (.int (ou : Int)) :: some (.lst (sT (wordsL p ins ou))) :: none :: none :: none :: none :: none :: none :: none :: none :: none :: none :: none :: none :: none :: none :: none :: none :: none :: none :: none :: none :: none :: none :: none :: none :: none :: none :: []), (none :: none :: some (.raw (.ref O)) :: some (.raw (.ref D)) :: some (.lst (postsOf (nmL p (s0 + s1)) s0 b0 b1)) :: some (.lst (sN sts)) :: some (.lst (sT (nmL p (s0 + s1)))) :: some (.int (p : Int)) :: some (.int ((s0 + s1 : Nat) : Int)) :: some (.lst (cs.map AV.int)) :: []), ((D, .list (sN ds)) :: (O, .list (sN ords)) :: (x, .ob ox) :: (dx, .ob od) :: (l, .list (ps.map pairT)) :: [(54, tab6), (61, tab7)])⟩ : S) PF := by
  refine e2_3 T.f88 ?_
  rintro o88 pm88 ho88 hd88 _
  have hil := insL_len ds (s0 + s1)
  rw [← hi] at hil
  have hij : ∀ j ∈ ins, j < s0 + s1 := fun j hj => by rw [hi] at hj; exact (insL_mem hj).1
  refine xs_cons ?_
  refine x_assign ?_ rfl
  refine ev_callF (a := 88) ho88 hd88 ?_ rfl
  repeat tb_start
  refine ev_callB (id := "sum") ?_
  repeat tb_start
  refine ev_freeze ?_
  refine ev_comp [("place", L + 3)] ?_ (fun _ => rfl) rfl rfl (by decide +kernel)
  repeat tb_start
  refine ⟨fun out => out = sN ((ins.take (sN ins).length).map fun j => 2 ^ (p + j)), ⟨⟨_, _, ["j"], [("place", .int (p : Int))], ⟨rfl, by decide +kernel, by decide +kernel, by decide +kernel, by decide, by simp; decide +kernel⟩, walk_lst, ⟨⟨7, _, rfl, rfl, rfl⟩, True.intro⟩, fun D' Cc => ?_⟩⟩, ?_⟩
  · refine loop1 (J := fun i out => out = sN ((ins.take i).map fun j => 2 ^ (p + j))) (fun _ => True.intro) rfl ?_
    rintro k v out hv rfl
    unfold sN at hv
    rw [List.getElem?_map] at hv
    cases e : ins[k]? with
    | none => rw [e] at hv; cases hv
    | some j =>
      rw [e] at hv
      obtain rfl : v = .int (j : Int) := (Option.some.inj hv).symm
      have hj := hij j (List.mem_of_getElem? e)
      repeat tb_start
      refine bN_shl1 (b := p + j) (by lia) ?_
      refine ⟨_, rfl, small_len (by rw [sN_len, List.length_map, List.length_take]; lia), _, Le.vars [false], ?_⟩
      refine rwl (show ins.take (k + 1) = ins.take k ++ [j] from by rw [List.take_add_one, e]; rfl) ?_
      refine rwl List.map_append ?_
      refine rwl (sN_app _ _) ?_
      rfl
  · rintro D' out rfl
    refine i3_3 D' _ _ rfl rfl ?_
    refine rwl (sN_len _) ?_
    refine rwl List.take_length ?_
    repeat tb_start
    refine c_sum (xs := (ins.map fun j => 2 ^ (p + j)).map Int.ofNat) lst_sN ?_
    refine rwl (sum_ofNat _) ?_
    repeat tb_start
    refine bN_shl (a := ou) (b := 32) (by have := nb_le (n := ou) (k := 4) (by lia); lia) ?_
    repeat tb_start
    refine rwl hi ?_
    refine rwr (bitsF_is ds (by lia) ou) ?_
    rw [← bitsF_is ds (by lia) ou] at hne
    refine Con.callK ((con_pretty T hd81 ho hne).mono ?_) (Nat.le_of_ble_eq_true rfl)
    refine q0_2 ?_
    refine rwl (flag_is ds (by lia) _) ?_
    tb_start
    refine then_next ?_
    refine xs_cons ?_
    repeat tb_start
    refine m_join ?_ ⟨rfl, rfl, rfl⟩
    repeat tb_start
    refine ⟨hasT_str, ?_⟩
    repeat tb_start
    refine c_join LstAt.lst (by
      have h1 := sum_len_ok (wordsL_ok (p := p) (n := s0 + s1) (ds := ds) (ou := ou) (by lia) ho)
      have h2 := wordsL_len p ds (s0 + s1) ou
      have : (", " : Str).length = 2 := rfl
      refine rwl this ?_
      lia) ?_
    refine cmp_nes ?_
    tb_start
    refine ite_f (bne_self' _) ?_
    refine xs_nil ?_
    refine then_next ?_
    refine rwr hi ?_
    exact h
theorem segTD (T : TopOk B mg mb) {A : Around} {fit : Fit A 13} {pm : Value} {L : Addr} {PF : AF → S → Prop} {xs cs : List Int} {sts ds ords : List Nat} {s0 s1 b0 b1 p i ov : Nat} {x dx l D O : Addr} {ox od : Obj} {ps : List (Str × Str)} {ins : List Nat} {ou : Nat}
    (hbrk : ins = [] → PF .brk (⟨(some (.lst (xs.map AV.int)) :: some (.tup [.int (s0 : Int), .int (s1 : Int)]) :: some (.int (s0 : Int)) :: some (.tup [.int (b0 : Int), .int (b1 : Int)]) :: none :: some (.raw (.ref l)) :: some (.raw (.ref x)) :: some (.lst (sT (rowsL p (s0 + s1)))) :: some (.int (ov : Int)) :: some (.int (i : Int)) :: some (.lst (sN ins)) :: some (.int (ou : Int)) :: some (.lst (sT (wordsL p ins ou))) :: some (.str (Txt.join ", " (wordsL p ins ou))) :: none :: none :: none :: none :: none :: none :: none :: none :: none :: none :: none :: none :: none :: none :: none :: none :: none :: none :: none :: none :: none :: none :: none :: none :: none :: []), (none :: none :: some (.raw (.ref O)) :: some (.raw (.ref D)) :: some (.lst (postsOf (nmL p (s0 + s1)) s0 b0 b1)) :: some (.lst (sN sts)) :: some (.lst (sT (nmL p (s0 + s1)))) :: some (.int (p : Int)) :: some (.int ((s0 + s1 : Nat) : Int)) :: some (.lst (cs.map AV.int)) :: []), ((D, .list (sN ds)) :: (O, .list (sN ords)) :: (x, .ob ox) :: (dx, .ob od) :: (l, .list (ps.map pairT)) :: [(54, tab6), (61, tab7)])⟩ : S)) (h : ins ≠ [] → Xs (LK prog w B T A fit pm L) (turnB 6) (⟨(some (.lst (xs.map AV.int)) :: some (.tup [.int (s0 : Int), .int (s1 : Int)]) :: some (.int (s0 : Int)) :: some (.tup [.int (b0 : Int), .int (b1 : Int)]) :: none :: some (.raw (.ref l)) :: some (.raw (.ref x)) :: some (.lst (sT (rowsL p (s0 + s1)))) :: some (.int (ov : Int)) :: some (.int (i : Int)) :: some (.lst (sN ins)) :: some (.int (ou : Int)) :: some (.lst (sT (wordsL p ins ou))) :: some (.str (Txt.join ", " (wordsL p ins ou))) :: none :: none :: none :: none :: none :: none :: none :: none :: none :: none :: none :: none :: none :: none :: none :: none :: none :: none :: none :: none :: none :: none :: none :: none :: none :: []), (none :: none :: some (.raw (.ref O)) :: some (.raw (.ref D)) :: some (.lst (postsOf (nmL p (s0 + s1)) s0 b0 b1)) :: some (.lst (sN sts)) :: some (.lst (sT (nmL p (s0 + s1)))) :: some (.int (p : Int)) :: some (.int ((s0 + s1 : Nat) : Int)) :: some (.lst (cs.map AV.int)) :: []), ((D, .list (sN ds)) :: (O, .list (sN ords)) :: (x, .ob ox) :: (dx, .ob od) :: (l, .list (ps.map pairT)) :: [(54, tab6), (61, tab7)])⟩ : S) PF) :
    Xs (LK prog w B T A fit pm L) (turnB 5) (⟨(some (.lst (xs.map AV.int)) :: some (.tup [.int (s0 : Int), .int (s1 : Int)]) :: some (.int (s0 : Int)) :: some (.tup [.int (b0 : Int), .int (b1 : Int)]) :: none :: some (.raw (.ref l)) :: some (.raw (.ref x)) :: some (.lst (sT (rowsL p (s0 + s1)))) :: some (.int (ov : Int)) :: some (.int (i : Int)) :: some (.lst (sN ins)) :: some (.int (ou : Int)) :: some (.lst (sT (wordsL p ins ou))) :: some (.str (Txt.join ", " (wordsL p ins ou))) :: none :: none :: none :: none :: none :: none :: none :: none :: none :: none :: none :: none :: none :: none :: none :: none :: none :: none :: none :: none :: none :: none :: none :: none :: none :: []), (none :: none :: some (.raw (.ref O)) :: some (.raw (.ref D)) :: some (.lst (postsOf (nmL p (s0 + s1)) s0 b0 b1)) :: some (.lst (sN sts)) :: some (.lst (sT (nmL p (s0 + s1)))) :: some (.int (p : Int)) :: some (.int ((s0 + s1 : Nat) : Int)) :: some (.lst (cs.map AV.int)) :: []), ((D, .list (sN ds)) :: (O, .list (sN ords)) :: (x, .ob ox) :: (dx, .ob od) :: (l, .list (ps.map pairT)) :: [(54, tab6), (61, tab7)])⟩ : S) PF := by
  refine xs_cons ?_
  repeat tb_start
  refine ev_listF ?_
  repeat tb_start
  refine ⟨by rw [sizeLine_eq]; exact Nat.le_of_ble_eq_true rfl, ?_⟩
  have isd : AV.isDs (sN ins) = true := by
    unfold sN
    clear h hbrk
    induction ins with
    | nil => rfl
    | cons a r ih => exact ih
  refine cmp_eqd (Has.self isd) (Has.self rfl) isd rfl (by
    have : ∀ l : List Nat, AV.deeps (sN l) = 0 := fun l => by
      unfold sN
      induction l with
      | nil => rfl
      | cons a r ih =>
        show max 0 (AV.deeps (List.map (fun d : Nat => AV.int (Int.ofNat d)) r)) = 0
        rw [ih]; rfl
    show AV.deeps (sN ins) + 1 ≤ 8
    rw [this]; decide) fun c hc => ?_
  tb_start
  cases c with
  | true =>
    refine ite_t rfl ?_
    have e : sN ins = [] := AV.lst.inj (hc.mp rfl)
    have e : ins = [] := by
      cases ins with
      | nil => rfl
      | cons a r => cases e
    repeat tb_start
    exact hbrk e
  | false =>
    refine ite_f rfl ?_
    refine xs_nil ?_
    refine then_next ?_
    refine h fun e => ?_
    rw [e] at hc
    exact Bool.false_ne_true (hc.mpr rfl)
theorem segTE (T : TopOk B mg mb) {A : Around} {fit : Fit A 13} {pm : Value} {L : Addr} {PF : AF → S → Prop} {xs cs : List Int} {sts ds ords : List Nat} {s0 s1 b0 b1 p i ov : Nat} {x dx l D O : Addr} {ox od : Obj} {ps : List (Str × Str)} {ins : List Nat} {ou : Nat} (hc : cs.length = 8) (hil : ins.length ≤ 6) (hine : ins ≠ []) (hi40 : i < 40)
    (h : ∀ pk, pk < ins.length → Xs (LK prog w B T A fit pm L) (turnB 7) (⟨(some (.lst (xs.map AV.int)) :: some (.tup [.int (s0 : Int), .int (s1 : Int)]) :: some (.int (s0 : Int)) :: some (.tup [.int (b0 : Int), .int (b1 : Int)]) :: none :: some (.raw (.ref l)) :: some (.raw (.ref x)) :: some (.lst (sT (rowsL p (s0 + s1)))) :: some (.int (ov : Int)) :: some (.int (i : Int)) :: some (.lst (sN ins)) :: some (.int (ou : Int)) :: some (.lst (sT (wordsL p ins ou))) :: some (.str (Txt.join ", " (wordsL p ins ou))) :: some (.int (pk : Int)) :: none :: none :: none :: none :: none :: none :: none :: none :: none :: none :: none :: none :: none :: none :: none :: none :: none :: none :: none :: none :: none :: none :: none :: none :: []), (none :: none :: some (.raw (.ref O)) :: some (.raw (.ref D)) :: some (.lst (postsOf (nmL p (s0 + s1)) s0 b0 b1)) :: some (.lst (sN sts)) :: some (.lst (sT (nmL p (s0 + s1)))) :: some (.int (p : Int)) :: some (.int ((s0 + s1 : Nat) : Int)) :: some (.lst (cs.map AV.int)) :: []), ((D, .list (sN ds)) :: (O, .list (sN ords)) :: (x, .ob ox) :: (dx, .ob od) :: (l, .list (ps.map pairT)) :: [(54, tab6), (61, tab7)])⟩ : S) PF) :
    Xs (LK prog w B T A fit pm L) (turnB 6) (⟨(some (.lst (xs.map AV.int)) :: some (.tup [.int (s0 : Int), .int (s1 : Int)]) :: some (.int (s0 : Int)) :: some (.tup [.int (b0 : Int), .int (b1 : Int)]) :: none :: some (.raw (.ref l)) :: some (.raw (.ref x)) :: some (.lst (sT (rowsL p (s0 + s1)))) :: some (.int (ov : Int)) :: some (.int (i : Int)) :: some (.lst (sN ins)) :: some (.int (ou : Int)) :: some (.lst (sT (wordsL p ins ou))) :: some (.str (Txt.join ", " (wordsL p ins ou))) :: none :: none :: none :: none :: none :: none :: none :: none :: none :: none :: none :: none :: none :: none :: none :: none :: none :: none :: none :: none :: none :: none :: none :: none :: none :: []), (none :: none :: some (.raw (.ref O)) :: some (.raw (.ref D)) :: some (.lst (postsOf (nmL p (s0 + s1)) s0 b0 b1)) :: some (.lst (sN sts)) :: some (.lst (sT (nmL p (s0 + s1)))) :: some (.int (p : Int)) :: some (.int ((s0 + s1 : Nat) : Int)) :: some (.lst (cs.map AV.int)) :: []), ((D, .list (sN ds)) :: (O, .list (sN ords)) :: (x, .ob ox) :: (dx, .ob od) :: (l, .list (ps.map pairT)) :: [(54, tab6), (61, tab7)])⟩ : S) PF := by
  have hpos : 0 < ins.length := List.length_pos_iff.mpr hine
  refine xs_cons ?_
  repeat tb_start
  refine s_lst (v := .int (cs[7]'(by lia))) (by decide) (by decide) (by rw [show ((7 : Int)).toNat = 7 from rfl, List.getElem?_map, List.getElem?_eq_getElem (by lia)]; rfl) ?_
  repeat tb_start
  refine bin_divN (i + 1) (by lia) (by lia) ?_
  refine ev_callB (id := "len") ?_
  repeat tb_start
  refine c_len_lst (by rw [sN_len]; lia) ?_
  refine rwl (sN_len _) ?_
  refine bin_modN ins.length hpos fun r hr => ?_
  tb_start
  refine then_next ?_
  exact h r hr
theorem segTF (T : TopOk B mg mb) {A : Around} {fit : Fit A 13} {pm : Value} {L : Addr} {PF : AF → S → Prop} {xs cs : List Int} {sts ds ords : List Nat} {s0 s1 b0 b1 p i ov : Nat} {x dx l D O : Addr} {ox od : Obj} {ps : List (Str × Str)} {ins : List Nat} {ou pk : Nat} (a1 : s0 ≤ 3) (a2 : s1 ≤ 3) (a3 : p ≤ 26) (hi : ins = insL ds (s0 + s1)) (ho : ou ≤ 8) (hpk : pk < ins.length)
    (h : ∀ hs, hs ∈ ins → Xs (LK prog w B T A fit pm L) (turnB 8) (⟨(some (.lst (xs.map AV.int)) :: some (.tup [.int (s0 : Int), .int (s1 : Int)]) :: some (.int (s0 : Int)) :: some (.tup [.int (b0 : Int), .int (b1 : Int)]) :: none :: some (.raw (.ref l)) :: some (.raw (.ref x)) :: some (.lst (sT (rowsL p (s0 + s1)))) :: some (.int (ov : Int)) :: some (.int (i : Int)) :: some (.lst (sN ins)) :: some (.int (ou : Int)) :: some (.lst (sT (wordsL p ins ou))) :: some (.str (Txt.join ", " (wordsL p ins ou))) :: some (.int (pk : Int)) :: some (.int (hs : Int)) :: some (.str (wd (p + hs))) :: none :: none :: none :: none :: none :: none :: none :: none :: none :: none :: none :: none :: none :: none :: none :: none :: none :: none :: none :: none :: none :: none :: []), (none :: none :: some (.raw (.ref O)) :: some (.raw (.ref D)) :: some (.lst (postsOf (nmL p (s0 + s1)) s0 b0 b1)) :: some (.lst (sN sts)) :: some (.lst (sT (nmL p (s0 + s1)))) :: some (.int (p : Int)) :: some (.int ((s0 + s1 : Nat) : Int)) :: some (.lst (cs.map AV.int)) :: []), ((D, .list (sN ds)) :: (O, .list (sN ords)) :: (x, .ob ox) :: (dx, .ob od) :: (l, .list (ps.map pairT)) :: [(54, tab6), (61, tab7)])⟩ : S) PF) :
    Xs (LK prog w B T A fit pm L) (turnB 7) (⟨(some (.lst (xs.map AV.int)) :: some (.tup [.int (s0 : Int), .int (s1 : Int)]) :: some (.int (s0 : Int)) :: some (.tup [.int (b0 : Int), .int (b1 : Int)]) :: none :: some (.raw (.ref l)) :: some (.raw (.ref x)) :: some (.lst (sT (rowsL p (s0 + s1)))) :: some (.int (ov : Int)) :: some (.int (i : Int)) :: some (.lst (sN ins)) :: some (.int (ou : Int)) :: some (.lst (sT (wordsL p ins ou))) :: some (.str (Txt.join ", " (wordsL p ins ou))) :: some (.int (pk : Int)) :: none :: none :: none :: none :: none :: none :: none :: none :: none :: none :: none :: none :: none :: none :: none :: none :: none :: none :: none :: none :: none :: none :: none :: none :: []), (none :: none :: some (.raw (.ref O)) :: some (.raw (.ref D)) :: some (.lst (postsOf (nmL p (s0 + s1)) s0 b0 b1)) :: some (.lst (sN sts)) :: some (.lst (sT (nmL p (s0 + s1)))) :: some (.int (p : Int)) :: some (.int ((s0 + s1 : Nat) : Int)) :: some (.lst (cs.map AV.int)) :: []), ((D, .list (sN ds)) :: (O, .list (sN ords)) :: (x, .ob ox) :: (dx, .ob od) :: (l, .list (ps.map pairT)) :: [(54, tab6), (61, tab7)])⟩ : S) PF := by
  have hil := insL_len ds (s0 + s1)
  rw [← hi] at hil
  have hne : wordsL p ins ou ≠ [] := by
    unfold wordsL
    intro z
    have := List.map_eq_nil_iff.mp (List.append_eq_nil_iff.mp z).1
    rw [this] at hpk
    exact Nat.not_lt_zero _ hpk
  have hok : ∀ x ∈ wordsL p ins ou, okWord x = true := by rw [hi]; exact wordsL_ok (by lia) ho
  refine e0_2 (words_split hne hok) ?_
  rintro e1 e2
  have hw : (wordsL p ins ou).length ≤ 7 := by
    have := wordsL_len p ds (s0 + s1) ou
    rw [← hi] at this
    lia
  refine xs_cons ?_
  refine x_swap ["house", "word"] ?_ rfl rfl
  refine ev_tuple ?_
  repeat tb_start
  refine s_lst (v := .int ((ins[pk] : Nat) : Int)) (by lia) (by lia) (by rw [Int.toNat_natCast, sN, List.getElem?_map, List.getElem?_eq_getElem hpk]; rfl) ?_
  repeat tb_start
  refine m_split ?_ ⟨rfl, rfl, rfl⟩
  repeat tb_start
  refine ⟨hasT_str, ?_⟩
  repeat tb_start
  refine c_split rfl (small_len (by
      have h1 := sum_len_ok hok
      have h2 := join_len ", " (wordsL p ins ou)
      have h3 : (", " : Str).length = 2 := rfl
      rw [h3] at h2
      lia)) (by rw [e2]; exact small_len (by lia)) ?_
  refine rwl e1 ?_
  repeat tb_start
  refine s_lst (v := .str (wd (p + ins[pk]))) (by lia) (by lia) (sT_at (by
    unfold wordsL
    rw [List.getElem?_append_left (by rw [List.length_map]; exact hpk), List.getElem?_map, List.getElem?_eq_getElem hpk]; rfl)) ?_
  repeat tb_start
  refine ⟨by rw [sizeLine_eq]; exact Nat.le_of_ble_eq_true rfl, _, rfl, rfl, ?_⟩
  refine stol_cons (e := "word") ?_
  tb_start
  refine stol_cons (e := "house") ?_
  tb_start
  refine stol_nil ?_
  refine then_next ?_
  exact h _ (List.getElem_mem hpk)
end
noncomputable def wayOf (p n s0 : Nat) (b : Bool) (j : Nat) : Str × Str :=
  let back := if j = 0 ∨ j = s0 then ("away" : Str) else (nmL p n).getD (j - 1) ""
  let on := if j = (nmL p n).length - 1 then ("home" : Str) else (nmL p n).getD (j + 1) ""
  if b then (on, back) else (back, on)
theorem post_way (p n s0 a0 a1 j : Nat) : postOf (nmL p n) s0 a0 a1 j = wayOf p n s0 (pre s0 a0 a1 j) j := rfl
theorem way_not (p n s0 : Nat) (b : Bool) (j : Nat) : wayOf p n s0 (!b) j = ((wayOf p n s0 b j).2, (wayOf p n s0 b j).1) := by cases b <;> rfl
noncomputable def stillL (ords : List Nat) (n : Nat) : List Nat := (List.range n).filter fun j => !ords.contains j
noncomputable def tabS (p : Nat) (f : Nat → Str × Str) (k : Nat) (js : List Nat) : List (Str × Str) := js.map fun j => (wd (p + j), selT k (f j))
noncomputable def tabO (p : Nat) (f : Nat → Str × Str) : List Nat → List (Str × Str)
  | [] => []
  | j :: js => (wd (p + j), (f j).1) :: (wd (p + j), (f j).2) :: tabO p f js
noncomputable def tabOf (p : Nat) (f : Nat → Str × Str) (ords : List Nat) (n : Nat) : List (Str × Str) := tabS p f 0 (stillL ords n) ++ tabS p f 1 (stillL ords n) ++ tabO p f ords
theorem low_inj {a b : Nat} (ha : a < 32) (hb : b < 32) (e : Txt.lower (wd a) = Txt.lower (wd b)) : a = b := by
  have ga : lows[a]? = some (Txt.lower (wd a)) := by unfold lows; rw [List.getElem?_map, List.getElem?_range ha]; rfl
  have gb : lows[b]? = some (Txt.lower (wd a)) := by unfold lows; rw [List.getElem?_map, List.getElem?_range hb, e]; rfl
  exact nodup_idx lows_nd ga gb
theorem has_wd {p n h j : Nat} (hp : p + n ≤ 32) (hh : h < n) (hj : j < n) (y : Str) : hasN (Txt.lower (wd (p + h))) (wd (p + j), y) = decide (j = h) := by
  unfold hasN
  by_cases e : j = h
  · subst e
    rw [decide_eq_true rfl]; exact beq_self_eq_true _
  · rw [decide_eq_false e]
    refine beq_eq_false_iff_ne.mpr fun z => e ?_
    have := low_inj (by lia) (by lia) z
    lia
section
variable {p n h : Nat} {f f' : Nat → Str × Str} (hp : p + n ≤ 32) (hh : h < n)
theorem tabS_filter (g : Bool → Bool) (k : Nat) {js : List Nat} (hj : ∀ j ∈ js, j < n) (hp : p + n ≤ 32) (hh : h < n) :
    (tabS p f k js).filter (fun q => g (hasN (Txt.lower (wd (p + h))) q)) = tabS p f k (js.filter fun j => g (decide (j = h))) := by
  unfold tabS
  rw [List.filter_map]
  congr 1
  refine List.filter_congr fun j hm => ?_
  show g (hasN (Txt.lower (wd (p + h))) (wd (p + j), _)) = _
  rw [has_wd hp hh (hj j hm)]
theorem tabO_filter (g : Bool → Bool) : ∀ {js : List Nat} (hj : ∀ j ∈ js, j < n) (hp : p + n ≤ 32) (hh : h < n),
    (tabO p f js).filter (fun q => g (hasN (Txt.lower (wd (p + h))) q)) = tabO p f (js.filter fun j => g (decide (j = h)))
  | [], _, _, _ => rfl
  | j :: js, hj, hp, hh => by
    have h1 := hj j (.head _)
    rw [tabO, List.filter_cons, List.filter_cons, List.filter_cons, has_wd hp hh h1, has_wd hp hh h1, tabO_filter g (fun i hi => hj i (.tail _ hi)) hp hh]
    cases g (decide (j = h)) with
    | true => rw [if_pos rfl, if_pos rfl, if_pos rfl]; rfl
    | false => rw [if_neg Bool.false_ne_true, if_neg Bool.false_ne_true, if_neg Bool.false_ne_true]
end
theorem filter_eq_one : ∀ {js : List Nat} (h : Nat), js.Nodup → h ∈ js → js.filter (fun j => decide (j = h)) = [h]
  | [], _, _, hm => absurd hm List.not_mem_nil
  | j :: js, h, nd, hm => by
    have nd' := List.nodup_cons.mp nd
    refine rwl List.filter_cons ?_
    by_cases e : j = h
    · subst e
      rw [if_pos (decide_eq_true rfl), filter_none]
      intro x hx
      exact decide_eq_false fun z => nd'.1 (z ▸ hx)
    · refine rwl (if_neg (fun z => e (of_decide_eq_true z))) ?_
      refine filter_eq_one h nd'.2 ?_
      rcases List.mem_cons.mp hm with z | z
      · exact absurd z.symm e
      · exact z
theorem filter_eq_nil {js : List Nat} (h : Nat) (hm : h ∉ js) : js.filter (fun j => decide (j = h)) = [] := filter_none fun x hx => decide_eq_false fun z => hm (z ▸ hx)
theorem still_mem {ords : List Nat} {n j : Nat} : j ∈ stillL ords n ↔ j < n ∧ j ∉ ords := by
  unfold stillL
  rw [List.mem_filter, List.mem_range]
  simp
theorem still_nd (ords : List Nat) (n : Nat) : (stillL ords n).Nodup := List.Nodup.sublist List.filter_sublist List.nodup_range
theorem tab_get {p n h : Nat} {f : Nat → Str × Str} {ords : List Nat} (hp : p + n ≤ 32) (hh : h < n) (ho : ∀ j ∈ ords, j < n) (nd : ords.Nodup) :
    (tabOf p f ords n).filter (hasN (Txt.lower (wd (p + h)))) = [(wd (p + h), (f h).1), (wd (p + h), (f h).2)] := by
  unfold tabOf
  refine rwl (List.filter_append _ _) ?_
  refine rwl (List.filter_append _ _) ?_
  have s1 := fun k => tabS_filter (f := f) (fun b => b) k (js := stillL ords n) (fun j hj => (still_mem.mp hj).1) hp hh
  have s2 := tabO_filter (f := f) (fun b => b) ho hp hh
  refine rwl (show (hasN (Txt.lower (wd (p + h)))) = fun q => hasN (Txt.lower (wd (p + h))) q from rfl) ?_
  refine rwl (s1 _) ?_
  refine rwl (s1 _) ?_
  refine rwl s2 ?_
  by_cases hm : h ∈ ords
  · rw [filter_eq_nil h (fun z => (still_mem.mp z).2 hm), filter_eq_one h nd hm]; rfl
  · rw [filter_eq_one h (still_nd ords n) (still_mem.mpr ⟨hh, hm⟩), filter_eq_nil h hm]; rfl
noncomputable def ordTo (ords : List Nat) (h : Nat) : List Nat := (ords.filter fun j => !decide (j = h)) ++ [h]
theorem ordTo_mem {ords : List Nat} {h j : Nat} : j ∈ ordTo ords h ↔ j ∈ ords ∨ j = h := by
  unfold ordTo
  rw [List.mem_append, List.mem_filter, List.mem_singleton]
  by_cases e : j = h <;> simp [e]
theorem ordTo_nd {ords : List Nat} {h : Nat} (nd : ords.Nodup) : (ordTo ords h).Nodup := by
  unfold ordTo
  refine List.nodup_append.mpr ⟨List.Nodup.sublist List.filter_sublist nd, (List.nodup_cons.mpr ⟨List.not_mem_nil, List.nodup_nil⟩), ?_⟩
  intro a ha b hb e
  rw [List.mem_singleton] at hb
  have := (List.mem_filter.mp ha).2
  simp [e, hb] at this
theorem still_step (ords : List Nat) (n h : Nat) : stillL (ordTo ords h) n = (stillL ords n).filter fun j => !decide (j = h) := by
  unfold stillL
  refine rwl List.filter_filter ?_
  refine List.filter_congr fun j _ => ?_
  rw [Bool.eq_iff_iff]
  have e := @ordTo_mem ords h j
  by_cases z : j = h <;> by_cases y : j ∈ ords <;> simp [z, y] at e ⊢ <;> simp [e]
theorem tabS_congr {p k : Nat} {f f' : Nat → Str × Str} {js : List Nat} (h : ∀ j ∈ js, f' j = f j) : tabS p f' k js = tabS p f k js := List.map_congr_left fun j hj => by rw [h j hj]
theorem tabO_congr {p : Nat} {f f' : Nat → Str × Str} : ∀ {js : List Nat}, (∀ j ∈ js, f' j = f j) → tabO p f' js = tabO p f js
  | [], _ => rfl
  | j :: js, h => by rw [tabO, tabO, h j (.head _), tabO_congr fun i hi => h i (.tail _ hi)]
theorem tabO_app {p : Nat} {f : Nat → Str × Str} : ∀ (js : List Nat) (h : Nat), tabO p f (js ++ [h]) = tabO p f js ++ [(wd (p + h), (f h).1), (wd (p + h), (f h).2)]
  | [], _ => rfl
  | j :: js, h => by rw [List.cons_append, tabO, tabO, tabO_app js h]; rfl
theorem tab_step {p n h : Nat} {f f' : Nat → Str × Str} {ords : List Nat} (hp : p + n ≤ 32) (hh : h < n) (ho : ∀ j ∈ ords, j < n) (hf : ∀ j, j ≠ h → f' j = f j) (hfh : f' h = ((f h).2, (f h).1)) :
    (tabOf p f ords n).filter (fun q => !hasN (Txt.lower (wd (p + h))) q) ++ [(wd (p + h), (f h).2)] ++ [(wd (p + h), (f h).1)] = tabOf p f' (ordTo ords h) n := by
  unfold tabOf
  refine rwl (List.filter_append _ _) ?_
  refine rwl (List.filter_append _ _) ?_
  have s1 := fun k => tabS_filter (f := f) (fun b => !b) k (js := stillL ords n) (fun j hj => (still_mem.mp hj).1) hp hh
  have s2 := tabO_filter (f := f) (fun b => !b) ho hp hh
  have ne : ∀ {js : List Nat}, ∀ j ∈ js.filter (fun j => !decide (j = h)), f' j = f j := fun j hj => hf j (by have := (List.mem_filter.mp hj).2; simpa using this)
  refine rwl (s1 _) ?_
  refine rwl (s1 _) ?_
  refine rwl s2 ?_
  refine rwl (still_step _ _ _) ?_
  refine rwl (tabS_congr ne) ?_
  refine rwl (tabS_congr ne) ?_
  unfold ordTo
  refine rwl (tabO_app _ _) ?_
  refine rwl (tabO_congr ne) ?_
  refine rwl hfh ?_
  simp [List.append_assoc]
theorem erase_filter : ∀ {ords : List Nat} {m h : Nat}, ords.Nodup → ords[m]? = some h → ords.eraseIdx m = ords.filter fun j => !decide (j = h)
  | [], m, h, _, e => by simp at e
  | a :: r, 0, h, nd, e => by
    obtain rfl : a = h := Option.some.inj e
    have nd' := List.nodup_cons.mp nd
    rw [List.filter_cons, if_neg (by simp), List.eraseIdx_cons_zero, List.filter_eq_self.mpr]
    intro x hx
    have : x ≠ a := fun z => nd'.1 (z ▸ hx)
    simp [this]
  | a :: r, m + 1, h, nd, e => by
    have nd' := List.nodup_cons.mp nd
    have e' : r[m]? = some h := e
    have : a ≠ h := fun z => nd'.1 (z ▸ List.mem_of_getElem? e')
    rw [List.filter_cons, if_pos (by simp [this]), List.eraseIdx_cons_succ, erase_filter nd'.2 e']
theorem no_filter {ords : List Nat} {h : Nat} (hm : h ∉ ords) : (ords.filter fun j => !decide (j = h)) = ords := by
  rw [List.filter_eq_self]
  intro x hx
  have : x ≠ h := fun z => hm (z ▸ hx)
  simp [this]
theorem okC_lt {c : Nat} (h : okC c = true) : 32 ≤ c ∧ c < 127 := by
  unfold okC at h
  rw [Bool.and_eq_true] at h
  exact ⟨of_decide_eq_true h.1, of_decide_eq_true h.2⟩
theorem plain_ok {x : Str} (h : okWord x = true) : Plain x := by
  refine e0_2 (okWord_parts h) ?_
  rintro h1 h2
  rw [chs_len] at h2
  refine ⟨by lia, fun p hp => ?_⟩
  refine rwl (getD_chs _ _) ?_
  refine rwl List.getD_eq_getElem?_getD ?_
  refine rwl (List.getElem?_eq_getElem (by rw [chs_len]; exact hp)) ?_
  exact (h1 _ (List.getElem_mem _)).1
theorem strOk_ok {x : Str} (h : okWord x = true) : PyData.strOk x = true := by
  unfold PyData.strOk
  refine rwr Array.all_toList ?_
  refine List.all_eq_true.mpr fun c hc => ?_
  have := okC_lt ((okWord_parts h).1 c hc).1
  exact decide_eq_true (by lia)
theorem clean_ok {x : Str} (h : okWord x = true) : Clean x := fun c hc => by
  have h1 := (okWord_parts h).1 c hc
  have := okC_lt h1.1
  exact ⟨by lia, by lia, h1.2.1⟩
theorem not_long_ok {x : Str} (h : okWord x = true) : Builtin.Str.tooLong x.length = false := not_long (by have := okWord_len h; lia)
theorem isDs_str : ∀ {l : List Str}, (∀ x ∈ l, okWord x = true) → AV.isDs (l.map AV.str) = true
  | [], _ => rfl
  | x :: l, h => by
    show (PyData.strOk x && AV.isDs (l.map AV.str)) = true
    rw [strOk_ok (h x (.head _)), isDs_str fun y hy => h y (.tail _ hy)]; rfl
theorem deeps_str : ∀ l : List Str, AV.deeps (l.map AV.str) = 0
  | [] => rfl
  | x :: l => by
    show max 0 (AV.deeps (l.map AV.str)) = 0
    rw [deeps_str l]; rfl
theorem HOk.filter {ps : List (Str × Str)} (h : HOk ps) (f : Str × Str → Bool) : HOk (ps.filter f) :=
  ⟨Nat.le_trans (List.length_filter_le _ _) h.1, fun q hq => h.2 q (List.mem_filter.mp hq).1⟩
theorem HOk.snoc {ps : List (Str × Str)} (h : HOk ps) {q : Str × Str} (hl : ps.length < 1000) (hq : okWord (Txt.lower q.1) = true) : HOk (ps ++ [q]) := by
  refine ⟨by rw [List.length_append]; exact hl, fun r hr => ?_⟩
  rcases List.mem_append.mp hr with z | z
  · exact h.2 r z
  · rw [List.mem_singleton.mp z]; have := okWord_len hq; lia
/- two texts sorted -/
theorem lt_total : ∀ {a b : List Nat}, Spec.ltCps a b = false → Spec.ltCps b a = false → a = b
  | [], [], _, _ => rfl
  | [], _ :: _, h, _ => by cases h
  | _ :: _, [], _, h => by cases h
  | a :: r, b :: t, h, k => by
    unfold Spec.ltCps at h k
    rw [Bool.or_eq_false_iff] at h k
    have h1 := of_decide_eq_false h.1
    have k1 := of_decide_eq_false k.1
    have e : a = b := by lia
    subst e
    have h2 := h.2
    have k2 := k.2
    rw [beq_self_eq_true, Bool.true_and] at h2 k2
    rw [lt_total h2 k2]
theorem perm_two {a b : Str} {l : List Str} (h : l.Perm [a, b]) : l = [a, b] ∨ l = [b, a] := by
  have hl := h.length_eq
  match l, hl, h with
  | [c, d], _, h =>
    have hc : c ∈ [a, b] := h.mem_iff.mp (.head _)
    rcases List.mem_cons.mp hc with e | e
    · subst e
      have := List.perm_singleton.mp (List.Perm.cons_inv h)
      cases this
      exact .inl rfl
    · have e : c = b := List.mem_singleton.mp e
      subst e
      have h2 : [c, d].Perm [c, a] := h.trans (List.Perm.swap c a [])
      have := List.perm_singleton.mp (List.Perm.cons_inv h2)
      cases this
      exact .inr rfl
theorem sorted_two {a b : Str} {l m : List Str} (hl : l.Perm [a, b]) (hm : m.Perm [a, b]) (sl : sortedS l = true) (sm : sortedS m = true) : l = m := by
  have key : ∀ {c d : Str}, sortedS [c, d] = true → Spec.ltCps (chs d) (chs c) = false := fun {c d} h => by
    unfold sortedS risingS at h
    rw [Bool.and_eq_true] at h
    have := h.1
    simpa using this
  have eq : sortedS [a, b] = true → sortedS [b, a] = true → a = b := fun h k => chs_inj (lt_total (key k) (key h))
  rcases perm_two hl with rfl | rfl <;> rcases perm_two hm with rfl | rfl
  · rfl
  · rw [eq sl sm]
  · rw [eq sm sl]
  · rfl
section
variable {prog : Program} {w : World} {B : HF} {mg mb : Str → Option Value}
theorem segTG (T : TopOk B mg mb) (P : Pats B) (C : ClsOk B) {A : Around} {fit : Fit A 13} {pm : Value} {L : Addr} {PF : AF → S → Prop} {xs cs : List Int} {sts ds ords : List Nat} {s0 s1 b0 b1 p i ov : Nat} {x dx l D O : Addr} {ox od : Obj} {ps : List (Str × Str)} {ins : List Nat} {ou pk hs : Nat} {w0 w1 : Str} (io : InsOk x dx l ox od) (a3 : p + (s0 + s1) ≤ 32) (hh : hs < s0 + s1) (hk : HOk ps)
    (hget : ps.filter (hasN (Txt.lower (wd (p + hs)))) = [(wd (p + hs), w0), (wd (p + hs), w1)])
    (hw : postOf (nmL p (s0 + s1)) s0 b0 b1 hs = (w0, w1) ∨ postOf (nmL p (s0 + s1)) s0 b0 b1 hs = (w1, w0)) (o0 : okWord w0 = true) (o1 : okWord w1 = true)
    (h : Xs (LK prog w B T A fit pm L) (turnB 10) (⟨(some (.lst (xs.map AV.int)) :: some (.tup [.int (s0 : Int), .int (s1 : Int)]) :: some (.int (s0 : Int)) :: some (.tup [.int (b0 : Int), .int (b1 : Int)]) :: none :: some (.raw (.ref l)) :: some (.raw (.ref x)) :: some (.lst (sT (rowsL p (s0 + s1)))) :: some (.int (ov : Int)) :: some (.int (i : Int)) :: some (.lst (sN ins)) :: some (.int (ou : Int)) :: some (.lst (sT (wordsL p ins ou))) :: some (.str (Txt.join ", " (wordsL p ins ou))) :: some (.int (pk : Int)) :: some (.int (hs : Int)) :: some (.str (wd (p + hs))) :: some (.lst (sT [w0, w1])) :: none :: none :: none :: none :: none :: none :: none :: none :: none :: none :: none :: none :: none :: none :: none :: none :: none :: none :: none :: none :: none :: []), (none :: none :: some (.raw (.ref O)) :: some (.raw (.ref D)) :: some (.lst (postsOf (nmL p (s0 + s1)) s0 b0 b1)) :: some (.lst (sN sts)) :: some (.lst (sT (nmL p (s0 + s1)))) :: some (.int (p : Int)) :: some (.int ((s0 + s1 : Nat) : Int)) :: some (.lst (cs.map AV.int)) :: []), ((D, .list (sN ds)) :: (O, .list (sN ords)) :: (x, .ob ox) :: (dx, .ob od) :: (l, .list (ps.map pairT)) :: [(54, tab6), (61, tab7)])⟩ : S) PF) :
    Xs (LK prog w B T A fit pm L) (turnB 8) (⟨(some (.lst (xs.map AV.int)) :: some (.tup [.int (s0 : Int), .int (s1 : Int)]) :: some (.int (s0 : Int)) :: some (.tup [.int (b0 : Int), .int (b1 : Int)]) :: none :: some (.raw (.ref l)) :: some (.raw (.ref x)) :: some (.lst (sT (rowsL p (s0 + s1)))) :: some (.int (ov : Int)) :: some (.int (i : Int)) :: some (.lst (sN ins)) :: some (.int (ou : Int)) :: some (.lst (sT (wordsL p ins ou))) :: some (.str (Txt.join ", " (wordsL p ins ou))) :: some (.int (pk : Int)) :: some (.int (hs : Int)) :: some (.str (wd (p + hs))) :: none :: none :: none :: none :: none :: none :: none :: none :: none :: none :: none :: none :: none :: none :: none :: none :: none :: none :: none :: none :: none :: none :: []), (none :: none :: some (.raw (.ref O)) :: some (.raw (.ref D)) :: some (.lst (postsOf (nmL p (s0 + s1)) s0 b0 b1)) :: some (.lst (sN sts)) :: some (.lst (sT (nmL p (s0 + s1)))) :: some (.int (p : Int)) :: some (.int ((s0 + s1 : Nat) : Int)) :: some (.lst (cs.map AV.int)) :: []), ((D, .list (sN ds)) :: (O, .list (sN ords)) :: (x, .ob ox) :: (dx, .ob od) :: (l, .list (ps.map pairT)) :: [(54, tab6), (61, tab7)])⟩ : S) PF := by
  refine e0_5 (words_ok (p + hs) (by lia)) ?_
  rintro k1 k2 k3 k4 k5
  refine xs_cons ?_
  refine x_assign ?_ rfl
  refine ev_freeze ?_
  refine ev_imeth C 188 rfl C.m188.isFn lk_get_all (by decide) ?_ ⟨rfl, rfl, rfl⟩
  repeat tb_start
  refine i2_3 x l rfl (HdrAt.mu (i := 2) (j := 3) io rfl rfl) ?_
  repeat tb_start
  refine m_swapcase ?_ ⟨rfl, rfl, rfl⟩
  repeat tb_start
  refine ⟨hasT_str, ?_⟩
  repeat tb_start
  refine c_swapcase (not_long_ok k3) ?_
  repeat tb_start
  refine Con.callW (m := 2) ((con_getall T P C (ps := ps) io (by rw [lower_swap _ (by lia)]; exact plain_ok k2) hk (i := 2) (j := 3) (k := 4) rfl rfl rfl).mono ?_) (Nat.le_of_ble_eq_true rfl)
  rintro v m hz0
  refine e1_2 hz0 ?_
  clear hz0
  rintro D' rfl rfl
  refine i3_3 D' _ _ rfl rfl ?_
  unfold allT
  refine rwl (lower_swap _ (by lia)) ?_
  refine rwl hget ?_
  tb_start
  refine then_next ?_
  refine xs_cons ?_
  repeat tb_start
  refine ev_callB (id := "sorted") ?_
  repeat tb_start
  refine c_sorted (ss := [w0, w1]) (SeqOf.of LstAt.lst) (Nat.le_of_ble_eq_true rfl) fun ss hp1 hs1 => ?_
  repeat tb_start
  refine ev_callB (id := "sorted") ?_
  repeat tb_start
  refine s_lst (by lia) (by lia) (posts_at (by rw [nmL_len]; exact hh)) ?_
  repeat tb_start
  refine c_sorted (ss := [(postOf (nmL p (s0 + s1)) s0 b0 b1 hs).1, (postOf (nmL p (s0 + s1)) s0 b0 b1 hs).2]) SeqOf.tup (Nat.le_of_ble_eq_true rfl) fun ss' hp2 hs2 => ?_
  have hp2' : ss'.Perm [w0, w1] := by
    rcases hw with e | e
    · rw [e] at hp2; exact hp2
    · rw [e] at hp2; exact hp2.trans (List.Perm.swap _ _ _)
  have ess : ss' = ss := sorted_two hp2' hp1 hs2 hs1
  have hok : ∀ y ∈ ss, okWord y = true := fun y hy => by
    have := hp1.mem_iff.mp hy
    rcases List.mem_cons.mp this with e | e
    · rw [e]; exact o0
    · rw [List.mem_singleton.mp e]; exact o1
  refine rwl ess ?_
  refine cmp_ned (Has.self (isDs_str hok)) (Has.self (isDs_str hok)) (isDs_str hok) (isDs_str hok) (by show AV.deeps _ + 1 ≤ 8; rw [deeps_str]; decide) fun c hc => ?_
  tb_start
  refine ite_f (by
    cases c with
    | false => rfl
    | true => exact absurd rfl (hc.mp rfl)) ?_
  refine xs_nil ?_
  refine then_next ?_
  exact h
theorem segTH (T : TopOk B mg mb) (P : Pats B) (C : ClsOk B) {A : Around} {fit : Fit A 13} {pm : Value} {L : Addr} {PF : AF → S → Prop} {xs cs : List Int} {sts ds ords : List Nat} {s0 s1 b0 b1 p i ov : Nat} {x dx l D O : Addr} {ox od : Obj} {ps : List (Str × Str)} {ins : List Nat} {ou pk hs : Nat} {w0 w1 : Str} {ps2 : List (Str × Str)} (io : InsOk x dx l ox od) (a3 : p + (s0 + s1) ≤ 32) (hh : hs < s0 + s1) (hk : HOk ps) (hl : ps.length < 900)
    (o0 : okWord w0 = true) (o1 : okWord w1 = true)
    (h2 : ps.filter (fun q => !hasN (Txt.lower (wd (p + hs))) q) ++ [(wd (p + hs), w1)] ++ [(wd (p + hs), w0)] = ps2)
    (h : Xs (LK prog w B T A fit pm L) (turnB 12) (⟨(some (.lst (xs.map AV.int)) :: some (.tup [.int (s0 : Int), .int (s1 : Int)]) :: some (.int (s0 : Int)) :: some (.tup [.int (b0 : Int), .int (b1 : Int)]) :: none :: some (.raw (.ref l)) :: some (.raw (.ref x)) :: some (.lst (sT (rowsL p (s0 + s1)))) :: some (.int (ov : Int)) :: some (.int (i : Int)) :: some (.lst (sN ins)) :: some (.int (ou : Int)) :: some (.lst (sT (wordsL p ins ou))) :: some (.str (Txt.join ", " (wordsL p ins ou))) :: some (.int (pk : Int)) :: some (.int (hs : Int)) :: some (.str (wd (p + hs))) :: some (.lst (sT [w0, w1])) :: none :: none :: none :: none :: none :: none :: none :: none :: none :: none :: none :: none :: none :: none :: none :: none :: none :: none :: none :: none :: none :: []), (none :: none :: some (.raw (.ref O)) :: some (.raw (.ref D)) :: some (.lst (postsOf (nmL p (s0 + s1)) s0 b0 b1)) :: some (.lst (sN sts)) :: some (.lst (sT (nmL p (s0 + s1)))) :: some (.int (p : Int)) :: some (.int ((s0 + s1 : Nat) : Int)) :: some (.lst (cs.map AV.int)) :: []), ((D, .list (sN ds)) :: (O, .list (sN ords)) :: (x, .ob ox) :: (dx, .ob od) :: (l, .list (ps2.map pairT)) :: [(54, tab6), (61, tab7)])⟩ : S) PF) :
    Xs (LK prog w B T A fit pm L) (turnB 10) (⟨(some (.lst (xs.map AV.int)) :: some (.tup [.int (s0 : Int), .int (s1 : Int)]) :: some (.int (s0 : Int)) :: some (.tup [.int (b0 : Int), .int (b1 : Int)]) :: none :: some (.raw (.ref l)) :: some (.raw (.ref x)) :: some (.lst (sT (rowsL p (s0 + s1)))) :: some (.int (ov : Int)) :: some (.int (i : Int)) :: some (.lst (sN ins)) :: some (.int (ou : Int)) :: some (.lst (sT (wordsL p ins ou))) :: some (.str (Txt.join ", " (wordsL p ins ou))) :: some (.int (pk : Int)) :: some (.int (hs : Int)) :: some (.str (wd (p + hs))) :: some (.lst (sT [w0, w1])) :: none :: none :: none :: none :: none :: none :: none :: none :: none :: none :: none :: none :: none :: none :: none :: none :: none :: none :: none :: none :: none :: []), (none :: none :: some (.raw (.ref O)) :: some (.raw (.ref D)) :: some (.lst (postsOf (nmL p (s0 + s1)) s0 b0 b1)) :: some (.lst (sN sts)) :: some (.lst (sT (nmL p (s0 + s1)))) :: some (.int (p : Int)) :: some (.int ((s0 + s1 : Nat) : Int)) :: some (.lst (cs.map AV.int)) :: []), ((D, .list (sN ds)) :: (O, .list (sN ords)) :: (x, .ob ox) :: (dx, .ob od) :: (l, .list (ps.map pairT)) :: [(54, tab6), (61, tab7)])⟩ : S) PF := by
  refine e0_5 (words_ok (p + hs) (by lia)) ?_
  rintro k1 k2 k3 k4 k5
  have hk1 := hk.filter fun q => !hasN (Txt.lower (wd (p + hs))) q
  have hl1 : (ps.filter fun q => !hasN (Txt.lower (wd (p + hs))) q).length < 900 := Nat.lt_of_le_of_lt (List.length_filter_le _ _) hl
  have hk2 := hk1.snoc (q := (wd (p + hs), w1)) (by lia) k2
  refine xs_cons ?_
  refine x_delitem C ?_
  repeat tb_start
  refine i2_2 x l rfl ?_
  refine m_swapcase ?_ ⟨rfl, rfl, rfl⟩
  repeat tb_start
  refine ⟨hasT_str, ?_⟩
  repeat tb_start
  refine c_swapcase (not_long_ok k3) ?_
  repeat tb_start
  refine ⟨HdrAt.mu (i := 2) (j := 3) io rfl rfl, ?_⟩
  refine Con.callW (m := 2) ((con_del T P C (ps := ps) io (by rw [lower_swap _ (by lia)]; exact plain_ok k2) hk (i := 2) (j := 3) (k := 4) rfl rfl rfl).mono ?_) (Nat.le_of_ble_eq_true rfl)
  rintro v m rfl
  refine rwl (lower_swap _ (by lia)) ?_
  refine then_next ?_
  refine xs_cons ?_
  repeat tb_start
  refine ev_imeth C 246 rfl C.m246.isFn lk_add (by decide) ?_ ⟨rfl, rfl, rfl⟩
  repeat tb_start
  refine i2_3 x l rfl (HdrAt.mu (i := 2) (j := 3) io rfl rfl) ?_
  repeat tb_start
  refine s_lst (v := .str w1) (by decide) (by decide) rfl ?_
  repeat tb_start
  refine Con.callW (m := 2) ((con_add T P C (ps := ps.filter fun q => !hasN (Txt.lower (wd (p + hs))) q) io (plain_ok k1) (plain_ok o1) hk1 (i := 2) (j := 3) (k := 4) rfl rfl rfl).mono ?_) (Nat.le_of_ble_eq_true rfl)
  refine q0_2 ?_
  repeat tb_start
  refine cmp_isnotNN ?_
  repeat tb_start
  refine ev_imeth C 246 rfl C.m246.isFn lk_add (by decide) ?_ ⟨rfl, rfl, rfl⟩
  repeat tb_start
  refine i2_3 x l rfl (HdrAt.mu (i := 2) (j := 3) io rfl rfl) ?_
  repeat tb_start
  refine s_lst (v := .str w0) (by decide) (by decide) rfl ?_
  repeat tb_start
  refine Con.callW (m := 2) ((con_add T P C (ps := (ps.filter fun q => !hasN (Txt.lower (wd (p + hs))) q) ++ [(wd (p + hs), w1)]) io (plain_ok k1) (plain_ok o0) hk2 (i := 2) (j := 3) (k := 4) rfl rfl rfl).mono ?_) (Nat.le_of_ble_eq_true rfl)
  refine q0_2 ?_
  repeat tb_start
  refine cmp_isnotNN ?_
  tb_start
  refine ite_f rfl ?_
  tb_start
  refine ite_f rfl ?_
  refine xs_nil ?_
  refine then_next ?_
  refine rwl h2 ?_
  exact h
end
end

section
open PySem PySem.P PyProof.Rows
local macro_rules | `(tactic| tb_start) => pure (sxMore "bN_add bN_add1 iN_add1 cN_eq bin_1add")

theorem contains_nat (l : List Nat) (h : Nat) : (l.map Int.ofNat).contains (h : Int) = l.contains h := by
  induction l with
  | nil => rfl
  | cons a r ih =>
    refine rwl List.map_cons ?_
    refine rwl List.contains_cons ?_
    refine rwl List.contains_cons ?_
    refine rwl ih ?_
    congr 1
    rw [Bool.eq_iff_iff]
    simp
    lia
theorem map_eraseN (l : List Nat) (j : Nat) : ((l.map Int.ofNat).eraseIdx j).map AV.int = sN (l.eraseIdx j) := by rw [← map_erase, ← sN_ints]
section
variable {prog : Program} {w : World} {B : HF} {mg mb : Str → Option Value}
theorem segTI (T : TopOk B mg mb) {A : Around} {fit : Fit A 13} {pm : Value} {L : Addr} {PF : AF → S → Prop} {xs cs : List Int} {sts ds ords : List Nat} {s0 s1 b0 b1 p i ov : Nat} {x dx l D O : Addr} {ox od : Obj} {ps : List (Str × Str)} {ins : List Nat} {ou pk hs g ov2 : Nat} {w0 w1 : Str} {ps2 : List (Str × Str)} (nd : ords.Nodup) (hol : ords.length ≤ 6)
    (h : Xs (LK prog w B T A fit pm L) (turnB 14) (⟨(some (.lst (xs.map AV.int)) :: some (.tup [.int (s0 : Int), .int (s1 : Int)]) :: some (.int (s0 : Int)) :: some (.tup [.int (b0 : Int), .int (b1 : Int)]) :: none :: some (.raw (.ref l)) :: some (.raw (.ref x)) :: some (.lst (sT (rowsL p (s0 + s1)))) :: some (.int (ov : Int)) :: some (.int (i : Int)) :: some (.lst (sN ins)) :: some (.int (ou : Int)) :: some (.lst (sT (wordsL p ins ou))) :: some (.str (Txt.join ", " (wordsL p ins ou))) :: some (.int (pk : Int)) :: some (.int (hs : Int)) :: some (.str (wd (p + hs))) :: some (.lst (sT [w0, w1])) :: none :: none :: none :: none :: none :: none :: none :: none :: none :: none :: none :: none :: none :: none :: none :: none :: none :: none :: none :: none :: none :: []), (none :: none :: some (.raw (.ref O)) :: some (.raw (.ref D)) :: some (.lst (postsOf (nmL p (s0 + s1)) s0 b0 b1)) :: some (.lst (sN sts)) :: some (.lst (sT (nmL p (s0 + s1)))) :: some (.int (p : Int)) :: some (.int ((s0 + s1 : Nat) : Int)) :: some (.lst (cs.map AV.int)) :: []), ((D, .list (sN ds)) :: (O, .list (sN (ordTo ords hs))) :: (x, .ob ox) :: (dx, .ob od) :: (l, .list (ps2.map pairT)) :: [(54, tab6), (61, tab7)])⟩ : S) PF) :
    Xs (LK prog w B T A fit pm L) (turnB 12) (⟨(some (.lst (xs.map AV.int)) :: some (.tup [.int (s0 : Int), .int (s1 : Int)]) :: some (.int (s0 : Int)) :: some (.tup [.int (b0 : Int), .int (b1 : Int)]) :: none :: some (.raw (.ref l)) :: some (.raw (.ref x)) :: some (.lst (sT (rowsL p (s0 + s1)))) :: some (.int (ov : Int)) :: some (.int (i : Int)) :: some (.lst (sN ins)) :: some (.int (ou : Int)) :: some (.lst (sT (wordsL p ins ou))) :: some (.str (Txt.join ", " (wordsL p ins ou))) :: some (.int (pk : Int)) :: some (.int (hs : Int)) :: some (.str (wd (p + hs))) :: some (.lst (sT [w0, w1])) :: none :: none :: none :: none :: none :: none :: none :: none :: none :: none :: none :: none :: none :: none :: none :: none :: none :: none :: none :: none :: none :: []), (none :: none :: some (.raw (.ref O)) :: some (.raw (.ref D)) :: some (.lst (postsOf (nmL p (s0 + s1)) s0 b0 b1)) :: some (.lst (sN sts)) :: some (.lst (sT (nmL p (s0 + s1)))) :: some (.int (p : Int)) :: some (.int ((s0 + s1 : Nat) : Int)) :: some (.lst (cs.map AV.int)) :: []), ((D, .list (sN ds)) :: (O, .list (sN ords)) :: (x, .ob ox) :: (dx, .ob od) :: (l, .list (ps2.map pairT)) :: [(54, tab6), (61, tab7)])⟩ : S) PF := by
  have key : ∀ {os : List Nat}, os = ords.filter (fun j => !decide (j = hs)) → os.length ≤ 6 → Xs (LK prog w B T A fit pm L) (turnB 13) (⟨(some (.lst (xs.map AV.int)) :: some (.tup [.int (s0 : Int), .int (s1 : Int)]) :: some (.int (s0 : Int)) :: some (.tup [.int (b0 : Int), .int (b1 : Int)]) :: none :: some (.raw (.ref l)) :: some (.raw (.ref x)) :: some (.lst (sT (rowsL p (s0 + s1)))) :: some (.int (ov : Int)) :: some (.int (i : Int)) :: some (.lst (sN ins)) :: some (.int (ou : Int)) :: some (.lst (sT (wordsL p ins ou))) :: some (.str (Txt.join ", " (wordsL p ins ou))) :: some (.int (pk : Int)) :: some (.int (hs : Int)) :: some (.str (wd (p + hs))) :: some (.lst (sT [w0, w1])) :: none :: none :: none :: none :: none :: none :: none :: none :: none :: none :: none :: none :: none :: none :: none :: none :: none :: none :: none :: none :: none :: []), (none :: none :: some (.raw (.ref O)) :: some (.raw (.ref D)) :: some (.lst (postsOf (nmL p (s0 + s1)) s0 b0 b1)) :: some (.lst (sN sts)) :: some (.lst (sT (nmL p (s0 + s1)))) :: some (.int (p : Int)) :: some (.int ((s0 + s1 : Nat) : Int)) :: some (.lst (cs.map AV.int)) :: []), ((D, .list (sN ds)) :: (O, .list (sN os)) :: (x, .ob ox) :: (dx, .ob od) :: (l, .list (ps2.map pairT)) :: [(54, tab6), (61, tab7)])⟩ : S) PF := by
    intro os ho hl
    refine xs_cons ?_
    repeat tb_start
    refine m_append ?_ ⟨rfl, rfl, rfl⟩
    repeat tb_start
    refine ⟨hasT_mu (List.mem_of_getElem? (i := 1) rfl), ?_⟩
    repeat tb_start
    refine c_append 1 rfl (small_len (by rw [sN_len]; lia)) ?_
    refine then_next ?_
    refine rwl (show sN os ++ [AV.int (hs : Int)] = sN (ordTo ords hs) from by unfold ordTo; rw [ho, sN_app]; rfl) ?_
    exact h
  refine xs_cons ?_
  repeat tb_start
  refine cmp_in (mu_sN (i := 1) rfl) ?_
  refine rwl (contains_nat _ _) ?_
  tb_start
  refine ite_both (fun hc => ?_) fun hc => ?_
  · have hm : hs ∈ ords := by simpa using hc
    refine e1_1 (List.getElem?_of_mem hm) ?_
    rintro m hm
    refine xs_cons ?_
    refine x_expr ?_ rfl rfl
    refine m_remove ?_ ⟨rfl, rfl, rfl⟩
    repeat tb_start
    refine ⟨hasT_mu (List.mem_of_getElem? (i := 1) rfl), ?_⟩
    repeat tb_start
    refine c_remove 1 (xs := ords.map Int.ofNat) (j := m) (by rw [← sN_ints]; rfl) (small_len (by rw [List.length_map]; lia)) (by rw [List.getElem?_map, hm]; rfl) (fun k hk e => ?_) ?_
    · rw [List.getElem?_map] at e
      cases e2 : ords[k]? with
      | none => rw [e2] at e; cases e
      | some y =>
        rw [e2] at e
        have : y = hs := by
          have := Option.some.inj e
          exact Int.ofNat.inj this
        rw [this] at e2
        have := nodup_idx nd e2 hm
        lia
    refine rwl (map_eraseN _ _) ?_
    refine then_next ?_
    refine xs_nil ?_
    refine then_next ?_
    exact key (erase_filter nd hm) (by rw [List.length_eraseIdx]; split <;> lia)
  · have hm : hs ∉ ords := by simpa using hc
    refine xs_nil ?_
    refine then_next ?_
    exact key (os := ords) (no_filter hm).symm hol
theorem segTJ (T : TopOk B mg mb) {A : Around} {fit : Fit A 13} {pm : Value} {L : Addr} {PF : AF → S → Prop} {xs cs : List Int} {sts ds ords : List Nat} {s0 s1 b0 b1 p i ov : Nat} {x dx l D O : Addr} {ox od : Obj} {ps : List (Str × Str)} {ins : List Nat} {ou pk hs g ov2 : Nat} {w0 w1 : Str} {ps2 : List (Str × Str)} (hg : (rowsL p (s0 + s1))[g]? = some w0) (hno : ∀ m, m < g → (rowsL p (s0 + s1))[m]? ≠ some w0) (hg8 : g < 100)
    (hov : (if hs + 1 = s0 ∧ g = s0 + 1 then ov + 1 else ov) = ov2)
    (h : Xs (LK prog w B T A fit pm L) (turnB 16) (⟨(some (.lst (xs.map AV.int)) :: some (.tup [.int (s0 : Int), .int (s1 : Int)]) :: some (.int (s0 : Int)) :: some (.tup [.int (b0 : Int), .int (b1 : Int)]) :: none :: some (.raw (.ref l)) :: some (.raw (.ref x)) :: some (.lst (sT (rowsL p (s0 + s1)))) :: some (.int (ov2 : Int)) :: some (.int (i : Int)) :: some (.lst (sN ins)) :: some (.int (ou : Int)) :: some (.lst (sT (wordsL p ins ou))) :: some (.str (Txt.join ", " (wordsL p ins ou))) :: some (.int (pk : Int)) :: some (.int (hs : Int)) :: some (.str (wd (p + hs))) :: some (.lst (sT [w0, w1])) :: some (.int (g : Int)) :: none :: none :: none :: none :: none :: none :: none :: none :: none :: none :: none :: none :: none :: none :: none :: none :: none :: none :: none :: none :: []), (none :: none :: some (.raw (.ref O)) :: some (.raw (.ref D)) :: some (.lst (postsOf (nmL p (s0 + s1)) s0 b0 b1)) :: some (.lst (sN sts)) :: some (.lst (sT (nmL p (s0 + s1)))) :: some (.int (p : Int)) :: some (.int ((s0 + s1 : Nat) : Int)) :: some (.lst (cs.map AV.int)) :: []), ((D, .list (sN ds)) :: (O, .list (sN (ordTo ords hs))) :: (x, .ob ox) :: (dx, .ob od) :: (l, .list (ps2.map pairT)) :: [(54, tab6), (61, tab7)])⟩ : S) PF) :
    Xs (LK prog w B T A fit pm L) (turnB 14) (⟨(some (.lst (xs.map AV.int)) :: some (.tup [.int (s0 : Int), .int (s1 : Int)]) :: some (.int (s0 : Int)) :: some (.tup [.int (b0 : Int), .int (b1 : Int)]) :: none :: some (.raw (.ref l)) :: some (.raw (.ref x)) :: some (.lst (sT (rowsL p (s0 + s1)))) :: some (.int (ov : Int)) :: some (.int (i : Int)) :: some (.lst (sN ins)) :: some (.int (ou : Int)) :: some (.lst (sT (wordsL p ins ou))) :: some (.str (Txt.join ", " (wordsL p ins ou))) :: some (.int (pk : Int)) :: some (.int (hs : Int)) :: some (.str (wd (p + hs))) :: some (.lst (sT [w0, w1])) :: none :: none :: none :: none :: none :: none :: none :: none :: none :: none :: none :: none :: none :: none :: none :: none :: none :: none :: none :: none :: none :: []), (none :: none :: some (.raw (.ref O)) :: some (.raw (.ref D)) :: some (.lst (postsOf (nmL p (s0 + s1)) s0 b0 b1)) :: some (.lst (sN sts)) :: some (.lst (sT (nmL p (s0 + s1)))) :: some (.int (p : Int)) :: some (.int ((s0 + s1 : Nat) : Int)) :: some (.lst (cs.map AV.int)) :: []), ((D, .list (sN ds)) :: (O, .list (sN (ordTo ords hs))) :: (x, .ob ox) :: (dx, .ob od) :: (l, .list (ps2.map pairT)) :: [(54, tab6), (61, tab7)])⟩ : S) PF := by
  refine xs_cons ?_
  repeat tb_start
  refine m_index ?_ ⟨rfl, rfl, rfl⟩
  repeat tb_start
  refine ⟨hasT_lst, ?_⟩
  repeat tb_start
  refine s_lst (v := .str w0) (by decide) (by decide) rfl ?_
  repeat tb_start
  refine c_index (xs := rowsL p (s0 + s1)) (x := w0) (j := g) LstAt.lst hg hno (by lia) ?_
  tb_start
  refine then_next ?_
  refine xs_cons ?_
  repeat tb_start
  refine ite_both (fun hc => ?_) fun hc => ?_
  · have h1 : hs + 1 = s0 := of_decide_eq_true hc
    repeat tb_start
    refine ite_both (fun hc2 => ?_) fun hc2 => ?_
    · have h2 : g = s0 + 1 := of_decide_eq_true hc2
      rw [if_pos ⟨h1, h2⟩] at hov
      subst hov
      tb_start
      tb_start
      refine xs_cons ?_
      tb_start
      tb_start
      tb_start
      tb_start
      tb_start
      refine then_next ?_
      refine xs_nil ?_
      refine then_next ?_
      exact h
    · have h2 : ¬ g = s0 + 1 := of_decide_eq_false hc2
      rw [if_neg (fun z => h2 z.2)] at hov
      subst hov
      refine ite_f rfl ?_
      refine xs_nil ?_
      refine then_next ?_
      exact h
  · have h1 : ¬ hs + 1 = s0 := of_decide_eq_false hc
    rw [if_neg (fun z => h1 z.1)] at hov
    subst hov
    refine ite_f rfl ?_
    refine xs_nil ?_
    refine then_next ?_
    exact h
theorem segTK (T : TopOk B mg mb) {A : Around} {fit : Fit A 13} {pm : Value} {L : Addr} {PF : AF → S → Prop} {xs cs : List Int} {sts ds ords : List Nat} {s0 s1 b0 b1 p i ov : Nat} {x dx l D O : Addr} {ox od : Obj} {ps : List (Str × Str)} {ins : List Nat} {ou pk hs g ov2 : Nat} {w0 w1 : Str} {ps2 : List (Str × Str)} {ds1 : List Nat} (hs6 : hs < 100) (hd : hs + 1 < ds.length) (hd1 : 1 ≤ ds.getD (hs + 1) 0) (he : ds.set (hs + 1) (ds.getD (hs + 1) 0 - 1) = ds1)
    (h : Xs (LK prog w B T A fit pm L) (turnB 17) (⟨(some (.lst (xs.map AV.int)) :: some (.tup [.int (s0 : Int), .int (s1 : Int)]) :: some (.int (s0 : Int)) :: some (.tup [.int (b0 : Int), .int (b1 : Int)]) :: none :: some (.raw (.ref l)) :: some (.raw (.ref x)) :: some (.lst (sT (rowsL p (s0 + s1)))) :: some (.int (ov2 : Int)) :: some (.int (i : Int)) :: some (.lst (sN ins)) :: some (.int (ou : Int)) :: some (.lst (sT (wordsL p ins ou))) :: some (.str (Txt.join ", " (wordsL p ins ou))) :: some (.int (pk : Int)) :: some (.int (hs : Int)) :: some (.str (wd (p + hs))) :: some (.lst (sT [w0, w1])) :: some (.int (g : Int)) :: none :: none :: none :: none :: none :: none :: none :: none :: none :: none :: none :: none :: none :: none :: none :: none :: none :: none :: none :: none :: []), (none :: none :: some (.raw (.ref O)) :: some (.raw (.ref D)) :: some (.lst (postsOf (nmL p (s0 + s1)) s0 b0 b1)) :: some (.lst (sN sts)) :: some (.lst (sT (nmL p (s0 + s1)))) :: some (.int (p : Int)) :: some (.int ((s0 + s1 : Nat) : Int)) :: some (.lst (cs.map AV.int)) :: []), ((D, .list (sN ds1)) :: (O, .list (sN (ordTo ords hs))) :: (x, .ob ox) :: (dx, .ob od) :: (l, .list (ps2.map pairT)) :: [(54, tab6), (61, tab7)])⟩ : S) PF) :
    Xs (LK prog w B T A fit pm L) (turnB 16) (⟨(some (.lst (xs.map AV.int)) :: some (.tup [.int (s0 : Int), .int (s1 : Int)]) :: some (.int (s0 : Int)) :: some (.tup [.int (b0 : Int), .int (b1 : Int)]) :: none :: some (.raw (.ref l)) :: some (.raw (.ref x)) :: some (.lst (sT (rowsL p (s0 + s1)))) :: some (.int (ov2 : Int)) :: some (.int (i : Int)) :: some (.lst (sN ins)) :: some (.int (ou : Int)) :: some (.lst (sT (wordsL p ins ou))) :: some (.str (Txt.join ", " (wordsL p ins ou))) :: some (.int (pk : Int)) :: some (.int (hs : Int)) :: some (.str (wd (p + hs))) :: some (.lst (sT [w0, w1])) :: some (.int (g : Int)) :: none :: none :: none :: none :: none :: none :: none :: none :: none :: none :: none :: none :: none :: none :: none :: none :: none :: none :: none :: none :: []), (none :: none :: some (.raw (.ref O)) :: some (.raw (.ref D)) :: some (.lst (postsOf (nmL p (s0 + s1)) s0 b0 b1)) :: some (.lst (sN sts)) :: some (.lst (sT (nmL p (s0 + s1)))) :: some (.int (p : Int)) :: some (.int ((s0 + s1 : Nat) : Int)) :: some (.lst (cs.map AV.int)) :: []), ((D, .list (sN ds)) :: (O, .list (sN (ordTo ords hs))) :: (x, .ob ox) :: (dx, .ob od) :: (l, .list (ps2.map pairT)) :: [(54, tab6), (61, tab7)])⟩ : S) PF := by
  refine xs_cons ?_
  repeat tb_start
  refine g_mu 0 rfl (by lia) (by lia) (sN_at hd) ?_
  repeat tb_start
  refine set_mu 0 rfl (by lia) (by lia) (by rw [sN_len]; omega) ?_
  rw [show (sN ds).set ((hs + 1 : Nat) : Int).toNat (.int (((ds.getD (hs + 1) 0 : Nat) : Int) - 1)) = sN ds1 from by
    refine rwr he ?_
    refine rwl (Int.toNat_natCast _) ?_
    unfold sN
    refine rwl List.map_set ?_
    congr 2
    show _ = ((ds.getD (hs + 1) 0 - 1 : Nat) : Int)
    lia]
  refine then_next ?_
  exact h
end
noncomputable def ends5 : List Str := ["\n", "\r", "\r\n", "\n", "\r"]
noncomputable def endsT (r : Nat) : List Str := (ends5.drop r).take 3
theorem endsT_is : ∀ r, r < 3 → (((sT ends5).drop r).take (r + 3 - r)) = sT (endsT r) ∧ (endsT r).length = 3 ∧ (∀ x ∈ endsT r, x.length ≤ 2) ∧ ∀ j, j < 3 → (chs ((endsT r).getD j "") = [10] ∨ chs ((endsT r).getD j "") = [13] ∨ chs ((endsT r).getD j "") = [13, 10]) := by
  intro r hr
  match r, hr with
  | 0, _ => exact ⟨rfl, rfl, by decide +kernel, by decide +kernel⟩
  | 1, _ => exact ⟨rfl, rfl, by decide +kernel, by decide +kernel⟩
  | 2, _ => exact ⟨rfl, rfl, by decide +kernel, by decide +kernel⟩
theorem tails_len : ∀ k, k < 4 → (tail0 k).length ≤ 20 ∧ (tail1 k).length ≤ 20 ∧ (shuts.getD k "").length ≤ 2 := by decide +kernel
noncomputable def dsTo (ds : List Nat) (g n : Nat) : List Nat := (List.range n).map fun k => ds.getD k 0 + if k = g then 1 else 0
theorem dsTo_len (ds : List Nat) (g n : Nat) : (dsTo ds g n).length = n := by unfold dsTo; rw [List.length_map, List.length_range]
theorem dsTo_succ (ds : List Nat) (g n : Nat) : dsTo ds g (n + 1) = dsTo ds g n ++ [ds.getD n 0 + if n = g then 1 else 0] := by unfold dsTo; rw [List.range_succ, List.map_append]; rfl
theorem row_lenS {rows : List Str} {ds : List Nat} {goal : Nat} {bare : Str} {ends : List Str} (h1 : ∀ x ∈ rows, x.length ≤ 20) (h2 : ∀ d ∈ ds, d ≤ 10) (h3 : bare.length ≤ 1) (h4 : ∀ x ∈ ends, x.length ≤ 2) (k : Nat) : (rowT rows ds goal bare ends k).length ≤ 33 := by
  unfold rowT
  refine rwl (Str.length_append _ _) ?_
  refine rwl (Str.length_append _ _) ?_
  refine rwl (Str.length_append _ _) ?_
  refine rwl (dotsT_len _) ?_
  have h1 := getD_len (i := k) h1
  have h2 := getD_le (i := k) h2
  have h3' := getD_len (i := k % ends.length) h4
  have h4 : (if k = goal then bare else (" " : Str)).length ≤ 1 := by
    split
    · exact h3
    · decide
  lia
theorem page_lenS {rows : List Str} {ds : List Nat} {goal : Nat} {bare : Str} {ends : List Str} (h1 : ∀ x ∈ rows, x.length ≤ 20) (h2 : ∀ d ∈ ds, d ≤ 10) (h3 : bare.length ≤ 1) (h4 : ∀ x ∈ ends, x.length ≤ 2) : ∀ k, (pageTo rows ds goal bare ends k).length ≤ 33 * k
  | 0 => by simp [pageTo]; decide
  | k + 1 => by
    rw [pageTo, Str.length_append]
    have := page_lenS (goal := goal) h1 h2 h3 h4 k
    have := row_lenS (goal := goal) h1 h2 h3 h4 k
    lia
theorem rowsL_len (p n : Nat) : (rowsL p n).length = n + 2 := by unfold rowsL; rw [List.length_append, List.length_append, nmL_len]; show 1 + n + 1 = n + 2; lia
theorem rowsL_ok {p n : Nat} (h : p + n ≤ 32) : ∀ x ∈ rowsL p n, okWord x = true := by
  intro x hx
  unfold rowsL at hx
  rcases List.mem_append.mp hx with hx | hx
  · rcases List.mem_append.mp hx with hx | hx
    · rw [List.mem_singleton.mp hx]; exact ah_ok.1
    · unfold nmL at hx
      refine e1_2 (List.mem_map.mp hx) ?_
      rintro j hj rfl
      exact word_ok h (List.mem_range.mp hj)
  · rw [List.mem_singleton.mp hx]; exact ah_ok.2.1
theorem clip_nat {n k : Nat} (h : k ≤ n) : clipAt n (k : Int) = k := by unfold clipAt; split <;> lia
section
variable {K : Cx} {σ : S} {P : AV → S → Prop} {a b : Nat}
theorem bN_mod (hb : 0 < b) (p : P (.int ((a % b : Nat) : Int)) σ) : Bin K .Mod (.int (a : Int)) (.int (b : Int)) σ P := bin_fmod (by lia) (by rw [fmodN]; exact p)
end
section
variable {prog : Program} {w : World} {B : HF} {mg mb : Str → Option Value}
theorem segTL (T : TopOk B mg mb) {A : Around} {fit : Fit A 13} {pm : Value} {L : Addr} {PF : AF → S → Prop} {xs cs : List Int} {sts ds ords : List Nat} {s0 s1 b0 b1 p i ov : Nat} {x dx l D O : Addr} {ox od : Obj} {ps : List (Str × Str)} {ins : List Nat} {ou pk hs g ov2 : Nat} {w0 w1 : Str} {ps2 : List (Str × Str)} {ds1 : List Nat}
    (h : ∀ r k, r < 3 → k < 4 → Xs (LK prog w B T A fit pm L) (turnB 19) (⟨(some (.lst (xs.map AV.int)) :: some (.tup [.int (s0 : Int), .int (s1 : Int)]) :: some (.int (s0 : Int)) :: some (.tup [.int (b0 : Int), .int (b1 : Int)]) :: none :: some (.raw (.ref l)) :: some (.raw (.ref x)) :: some (.lst (sT (rowsL p (s0 + s1)))) :: some (.int (ov2 : Int)) :: some (.int (i : Int)) :: some (.lst (sN ins)) :: some (.int (ou : Int)) :: some (.lst (sT (wordsL p ins ou))) :: some (.str (Txt.join ", " (wordsL p ins ou))) :: some (.int (pk : Int)) :: some (.int (hs : Int)) :: some (.str (wd (p + hs))) :: some (.lst (sT [w0, w1])) :: some (.int (g : Int)) :: some (.tup (sT (endsT r))) :: some (.str (shuts.getD k "")) :: none :: none :: none :: none :: none :: none :: none :: none :: none :: none :: none :: none :: none :: none :: none :: none :: none :: none :: []), (none :: none :: some (.raw (.ref O)) :: some (.raw (.ref D)) :: some (.lst (postsOf (nmL p (s0 + s1)) s0 b0 b1)) :: some (.lst (sN sts)) :: some (.lst (sT (nmL p (s0 + s1)))) :: some (.int (p : Int)) :: some (.int ((s0 + s1 : Nat) : Int)) :: some (.lst (cs.map AV.int)) :: []), ((D, .list (sN ds1)) :: (O, .list (sN (ordTo ords hs))) :: (x, .ob ox) :: (dx, .ob od) :: (l, .list (ps2.map pairT)) :: [(54, tab6), (61, tab7)])⟩ : S) PF) :
    Xs (LK prog w B T A fit pm L) (turnB 17) (⟨(some (.lst (xs.map AV.int)) :: some (.tup [.int (s0 : Int), .int (s1 : Int)]) :: some (.int (s0 : Int)) :: some (.tup [.int (b0 : Int), .int (b1 : Int)]) :: none :: some (.raw (.ref l)) :: some (.raw (.ref x)) :: some (.lst (sT (rowsL p (s0 + s1)))) :: some (.int (ov2 : Int)) :: some (.int (i : Int)) :: some (.lst (sN ins)) :: some (.int (ou : Int)) :: some (.lst (sT (wordsL p ins ou))) :: some (.str (Txt.join ", " (wordsL p ins ou))) :: some (.int (pk : Int)) :: some (.int (hs : Int)) :: some (.str (wd (p + hs))) :: some (.lst (sT [w0, w1])) :: some (.int (g : Int)) :: none :: none :: none :: none :: none :: none :: none :: none :: none :: none :: none :: none :: none :: none :: none :: none :: none :: none :: none :: none :: []), (none :: none :: some (.raw (.ref O)) :: some (.raw (.ref D)) :: some (.lst (postsOf (nmL p (s0 + s1)) s0 b0 b1)) :: some (.lst (sN sts)) :: some (.lst (sT (nmL p (s0 + s1)))) :: some (.int (p : Int)) :: some (.int ((s0 + s1 : Nat) : Int)) :: some (.lst (cs.map AV.int)) :: []), ((D, .list (sN ds1)) :: (O, .list (sN (ordTo ords hs))) :: (x, .ob ox) :: (dx, .ob od) :: (l, .list (ps2.map pairT)) :: [(54, tab6), (61, tab7)])⟩ : S) PF := by
  refine xs_cons ?_
  refine x_assign ?_ rfl
  refine ev_subsl ?_
  refine ev_tuple ?_
  repeat tb_start
  refine ⟨by rw [sizeLine_eq]; exact Nat.le_of_ble_eq_true rfl, ?_⟩
  refine evp_some ?_
  repeat tb_start
  refine bN_mod (b := 3) (by decide) ?_
  refine ⟨_, rfl, ?_⟩
  refine evp_some ?_
  repeat tb_start
  refine bN_mod (b := 3) (by decide) ?_
  tb_start
  refine bN_add (a := i % 3) (b := 3) ?_
  refine ⟨_, rfl, ?_⟩
  have h3 : i % 3 < 3 := Nat.mod_lt _ (by decide)
  refine slT_tup (vs := sT ends5) (a := i % 3) (b := i % 3 + 3) (by lia) (by show i % 3 + 3 ≤ 5; lia) (by show i % 3 + 3 - i % 3 < 5; lia) (by rw [sizeLine_eq]; exact Nat.le_of_ble_eq_true rfl) ?_
  refine rwl ((endsT_is _ h3).1) ?_
  tb_start
  refine then_next ?_
  refine xs_cons ?_
  repeat tb_start
  refine ev_tuple ?_
  repeat tb_start
  refine ⟨by rw [sizeLine_eq]; exact Nat.le_of_ble_eq_true rfl, ?_⟩
  repeat tb_start
  refine bN_mod (b := 4) (by decide) ?_
  refine s_tup (j := i % 4) (v := .str (shuts.getD (i % 4) "")) ?_ ?_ ?_
  · have h4 : i % 4 < 4 := Nat.mod_lt _ (by decide)
    generalize i % 4 = k at h4
    match k, h4 with
    | 0, _ => rfl
    | 1, _ => rfl
    | 2, _ => rfl
    | 3, _ => rfl
  · have h4 : i % 4 < 4 := Nat.mod_lt _ (by decide)
    generalize i % 4 = k at h4
    match k, h4 with
    | 0, _ => rfl
    | 1, _ => rfl
    | 2, _ => rfl
    | 3, _ => rfl
  tb_start
  refine then_next ?_
  exact h _ _ (Nat.mod_lt _ (by decide)) (Nat.mod_lt _ (by decide))
structure DsOk (ds : List Nat) (n : Nat) : Prop where
  len : ds.length = n + 2
  pos : ∀ k, k < n + 2 → 1 ≤ ds.getD k 0
  le : ∀ d ∈ ds, d ≤ 10
theorem ends_all {r : Nat} (hr : r < 3) (j : Nat) : chs ((endsT r).getD (j % (endsT r).length) "") = [10] ∨ chs ((endsT r).getD (j % (endsT r).length) "") = [13] ∨ chs ((endsT r).getD (j % (endsT r).length) "") = [13, 10] := by
  refine e0_4 (endsT_is r hr) ?_
  rintro _ e2 _ e4
  refine rwl e2 ?_
  exact e4 _ (Nat.mod_lt _ (by decide))
theorem page_okS {p n : Nat} {ds : List Nat} {bare : Str} {ends : List Str} (hp : p + n ≤ 32) (hn : n ≤ 6) (hd : DsOk ds n) (hb : bare.length ≤ 1) (he : ∀ x ∈ ends, x.length ≤ 2) (hen : 0 < ends.length ∧ ends.length ≤ 20) : PageOk (rowsL p n) ds bare ends :=
  ⟨by rw [rowsL_len]; lia, by rw [rowsL_len, hd.len]; lia, fun x hx => by have := okWord_len (rowsL_ok hp x hx); lia, fun d hm => by have := hd.le d hm; lia, by lia, fun x hx => by have := he x hx; lia, hen⟩
theorem segTM (T : TopOk B mg mb) (P : Pats B) {A : Around} {fit : Fit A 13} {pm : Value} {L : Addr} {PF : AF → S → Prop} {xs cs : List Int} {sts ds ords : List Nat} {s0 s1 b0 b1 p i ov : Nat} {x dx l D O : Addr} {ox od : Obj} {ps : List (Str × Str)} {ins : List Nat} {ou pk hs g ov2 : Nat} {w0 w1 : Str} {ps2 : List (Str × Str)} {ds1 : List Nat} {r k : Nat} (hp : p + (s0 + s1) ≤ 32) (hn : s0 + s1 ≤ 6) (hd : DsOk ds1 (s0 + s1)) (hr : r < 3) (hk : k < 4)
    (h : Xs (LK prog w B T A fit pm L) (turnB 20) (⟨(some (.lst (xs.map AV.int)) :: some (.tup [.int (s0 : Int), .int (s1 : Int)]) :: some (.int (s0 : Int)) :: some (.tup [.int (b0 : Int), .int (b1 : Int)]) :: none :: some (.raw (.ref l)) :: some (.raw (.ref x)) :: some (.lst (sT (rowsL p (s0 + s1)))) :: some (.int (ov2 : Int)) :: some (.int (i : Int)) :: some (.lst (sN ins)) :: some (.int (ou : Int)) :: some (.lst (sT (wordsL p ins ou))) :: some (.str (Txt.join ", " (wordsL p ins ou))) :: some (.int (pk : Int)) :: some (.int (hs : Int)) :: some (.str (wd (p + hs))) :: some (.lst (sT [w0, w1])) :: some (.int (g : Int)) :: some (.tup (sT (endsT r))) :: some (.str (shuts.getD k "")) :: some (.str (pageTo (rowsL p (s0 + s1)) ds1 g "." ["\r\n"] (s0 + s1 + 2) ++ tail1 k)) :: none :: none :: none :: none :: none :: none :: none :: none :: none :: none :: none :: none :: none :: none :: none :: none :: none :: []), (none :: none :: some (.raw (.ref O)) :: some (.raw (.ref D)) :: some (.lst (postsOf (nmL p (s0 + s1)) s0 b0 b1)) :: some (.lst (sN sts)) :: some (.lst (sT (nmL p (s0 + s1)))) :: some (.int (p : Int)) :: some (.int ((s0 + s1 : Nat) : Int)) :: some (.lst (cs.map AV.int)) :: []), ((D, .list (sN ds1)) :: (O, .list (sN (ordTo ords hs))) :: (x, .ob ox) :: (dx, .ob od) :: (l, .list (ps2.map pairT)) :: [(54, tab6), (61, tab7)])⟩ : S) PF) :
    Xs (LK prog w B T A fit pm L) (turnB 19) (⟨(some (.lst (xs.map AV.int)) :: some (.tup [.int (s0 : Int), .int (s1 : Int)]) :: some (.int (s0 : Int)) :: some (.tup [.int (b0 : Int), .int (b1 : Int)]) :: none :: some (.raw (.ref l)) :: some (.raw (.ref x)) :: some (.lst (sT (rowsL p (s0 + s1)))) :: some (.int (ov2 : Int)) :: some (.int (i : Int)) :: some (.lst (sN ins)) :: some (.int (ou : Int)) :: some (.lst (sT (wordsL p ins ou))) :: some (.str (Txt.join ", " (wordsL p ins ou))) :: some (.int (pk : Int)) :: some (.int (hs : Int)) :: some (.str (wd (p + hs))) :: some (.lst (sT [w0, w1])) :: some (.int (g : Int)) :: some (.tup (sT (endsT r))) :: some (.str (shuts.getD k "")) :: none :: none :: none :: none :: none :: none :: none :: none :: none :: none :: none :: none :: none :: none :: none :: none :: none :: none :: []), (none :: none :: some (.raw (.ref O)) :: some (.raw (.ref D)) :: some (.lst (postsOf (nmL p (s0 + s1)) s0 b0 b1)) :: some (.lst (sN sts)) :: some (.lst (sT (nmL p (s0 + s1)))) :: some (.int (p : Int)) :: some (.int ((s0 + s1 : Nat) : Int)) :: some (.lst (cs.map AV.int)) :: []), ((D, .list (sN ds1)) :: (O, .list (sN (ordTo ords hs))) :: (x, .ob ox) :: (dx, .ob od) :: (l, .list (ps2.map pairT)) :: [(54, tab6), (61, tab7)])⟩ : S) PF := by
  refine e2_3 T.f105 ?_
  rintro o105 pm105 ho105 hd105 _
  refine e2_3 T.f281 ?_
  rintro o281 pm281 ho281 hd281 _
  refine e0_3 (tails_len k hk) ?_
  rintro tl0 tl1 tls
  refine e0_4 (endsT_is r hr) ?_
  rintro _ e2 e3 e4
  have hrl : ∀ x ∈ rowsL p (s0 + s1), x.length ≤ 20 := fun x hx => okWord_len (rowsL_ok hp x hx)
  have hpl := page_lenS (goal := g) (bare := "") hrl hd.le (by decide) e3 (s0 + s1 + 2)
  have hq := quote_ok (x := pageTo (rowsL p (s0 + s1)) ds1 g "" (endsT r) (s0 + s1 + 2) ++ tail0 k) (by rw [Str.length_append]; lia)
  refine xs_cons ?_
  refine x_assign ?_ rfl
  refine ev_callF (a := 105) ho105 hd105 ?_ rfl
  repeat tb_start
  refine ev_callF (a := 281) ho281 hd281 ?_ rfl
  repeat tb_start
  refine bin_cat (by
    have : ("\r\r \n\n\x0c\r\n\r\n." : Str).length ≤ 20 := by decide
    rw [sizeLine_eq]; lia) ?_
  repeat tb_start
  refine Con.callK ((con_page T (rows := rowsL p (s0 + s1)) (ds := ds1) (goal := g) (bare := "") (ends := endsT r) (tail := tail0 k) (page_okS hp hn hd (by decide) e3 (by rw [e2]; decide)) (by lia) (i := 0) rfl).mono ?_) (Nat.le_of_ble_eq_true rfl)
  refine q0_2 ?_
  refine rwl (rowsL_len _ _) ?_
  repeat tb_start
  refine Con.callK ((con_quote T P hq.1 hq.2.1 hq.2.2.1 hq.2.2.2).mono ?_) (Nat.le_of_ble_eq_true rfl)
  refine q0_2 ?_
  refine rwl (quote_page (fun x hx => clean_ok (rowsL_ok hp x hx)) (ends_all hr) hd.pos hk) ?_
  tb_start
  refine then_next ?_
  exact h
theorem segTN (T : TopOk B mg mb) {A : Around} {fit : Fit A 13} {pm : Value} {L : Addr} {PF : AF → S → Prop} {xs cs : List Int} {sts ds ords : List Nat} {s0 s1 b0 b1 p i ov : Nat} {x dx l D O : Addr} {ox od : Obj} {ps : List (Str × Str)} {ins : List Nat} {ou pk hs g ov2 : Nat} {w0 w1 : Str} {ps2 : List (Str × Str)} {ds1 : List Nat} {r k : Nat} (hp : p + (s0 + s1) ≤ 32) (hn : s0 + s1 ≤ 6) (hd : DsOk ds1 (s0 + s1)) (hr : r < 3) (hk : k < 4)
    (h : Xs (LK prog w B T A fit pm L) (turnB 22) (⟨(some (.lst (xs.map AV.int)) :: some (.tup [.int (s0 : Int), .int (s1 : Int)]) :: some (.int (s0 : Int)) :: some (.tup [.int (b0 : Int), .int (b1 : Int)]) :: none :: some (.raw (.ref l)) :: some (.raw (.ref x)) :: some (.lst (sT (rowsL p (s0 + s1)))) :: some (.int (ov2 : Int)) :: some (.int (i : Int)) :: some (.lst (sN ins)) :: some (.int (ou : Int)) :: some (.lst (sT (wordsL p ins ou))) :: some (.str (Txt.join ", " (wordsL p ins ou))) :: some (.int (pk : Int)) :: some (.int (hs : Int)) :: some (.str (wd (p + hs))) :: some (.lst (sT [w0, w1])) :: some (.int (g : Int)) :: some (.tup (sT (endsT r))) :: some (.str (shuts.getD k "")) :: some (.str (pageTo (rowsL p (s0 + s1)) ds1 g "." ["\r\n"] (s0 + s1 + 2) ++ tail1 k)) :: some (.str (tail1 k)) :: none :: none :: none :: none :: none :: none :: none :: none :: none :: none :: none :: none :: none :: none :: none :: none :: []), (none :: none :: some (.raw (.ref O)) :: some (.raw (.ref D)) :: some (.lst (postsOf (nmL p (s0 + s1)) s0 b0 b1)) :: some (.lst (sN sts)) :: some (.lst (sT (nmL p (s0 + s1)))) :: some (.int (p : Int)) :: some (.int ((s0 + s1 : Nat) : Int)) :: some (.lst (cs.map AV.int)) :: []), ((D, .list (sN ds1)) :: (O, .list (sN (ordTo ords hs))) :: (x, .ob ox) :: (dx, .ob od) :: (l, .list (ps2.map pairT)) :: [(54, tab6), (61, tab7)])⟩ : S) PF) :
    Xs (LK prog w B T A fit pm L) (turnB 20) (⟨(some (.lst (xs.map AV.int)) :: some (.tup [.int (s0 : Int), .int (s1 : Int)]) :: some (.int (s0 : Int)) :: some (.tup [.int (b0 : Int), .int (b1 : Int)]) :: none :: some (.raw (.ref l)) :: some (.raw (.ref x)) :: some (.lst (sT (rowsL p (s0 + s1)))) :: some (.int (ov2 : Int)) :: some (.int (i : Int)) :: some (.lst (sN ins)) :: some (.int (ou : Int)) :: some (.lst (sT (wordsL p ins ou))) :: some (.str (Txt.join ", " (wordsL p ins ou))) :: some (.int (pk : Int)) :: some (.int (hs : Int)) :: some (.str (wd (p + hs))) :: some (.lst (sT [w0, w1])) :: some (.int (g : Int)) :: some (.tup (sT (endsT r))) :: some (.str (shuts.getD k "")) :: some (.str (pageTo (rowsL p (s0 + s1)) ds1 g "." ["\r\n"] (s0 + s1 + 2) ++ tail1 k)) :: none :: none :: none :: none :: none :: none :: none :: none :: none :: none :: none :: none :: none :: none :: none :: none :: none :: []), (none :: none :: some (.raw (.ref O)) :: some (.raw (.ref D)) :: some (.lst (postsOf (nmL p (s0 + s1)) s0 b0 b1)) :: some (.lst (sN sts)) :: some (.lst (sT (nmL p (s0 + s1)))) :: some (.int (p : Int)) :: some (.int ((s0 + s1 : Nat) : Int)) :: some (.lst (cs.map AV.int)) :: []), ((D, .list (sN ds1)) :: (O, .list (sN (ordTo ords hs))) :: (x, .ob ox) :: (dx, .ob od) :: (l, .list (ps2.map pairT)) :: [(54, tab6), (61, tab7)])⟩ : S) PF := by
  refine e2_3 T.f281 ?_
  rintro o281 pm281 ho281 hd281 _
  refine e0_3 (tails_len k hk) ?_
  rintro tl0 tl1 tls
  refine xs_cons ?_
  refine x_assign ?_ rfl
  repeat tb_start
  refine ev_det (.str (if (shuts.getD k "" != "") = true then ("\r\n" : Str) else "")) ?_ ?_
  · refine ev_ifexp ?_
    repeat tb_start
    refine ite_both (fun hc => ?_) fun hc => ?_
    · repeat tb_start
      exact ⟨by rw [if_pos hc], rfl⟩
    · repeat tb_start
      exact ⟨by rw [if_neg (ne_true_of_eq_false hc)], rfl⟩
  refine bin_cat (by
    have : ("\r\n\r\n \r\n\r\n\x0c\r\n\r\n.." : Str).length ≤ 20 := by decide
    have : (if (shuts.getD k "" != "") = true then ("\r\n" : Str) else "").length ≤ 2 := by split <;> decide
    rw [sizeLine_eq]; lia) ?_
  tb_start
  refine then_next ?_
  refine xs_cons ?_
  repeat tb_start
  refine ev_callF (a := 281) ho281 hd281 ?_ rfl
  repeat tb_start
  refine ev_tuple ?_
  repeat tb_start
  refine ⟨by rw [sizeLine_eq]; exact Nat.le_of_ble_eq_true rfl, ?_⟩
  repeat tb_start
  refine Con.callK ((con_page T (rows := rowsL p (s0 + s1)) (ds := ds1) (goal := g) (bare := ".") (ends := ["\r\n"]) (tail := tail1 k) (page_okS hp hn hd (by decide) (by decide) (by decide)) (by lia) (i := 0) rfl).mono ?_) (Nat.le_of_ble_eq_true rfl)
  refine q0_2 ?_
  refine rwl (rowsL_len _ _) ?_
  refine cmp_nes ?_
  tb_start
  refine ite_f (bne_self' _) ?_
  refine xs_nil ?_
  refine then_next ?_
  exact h
end
noncomputable def rowsTo (p n : Nat) (ds : List Nat) (g : Nat) : List Str := (List.range (n + 2)).map fun k => rowS (rowsL p n) ds g k
theorem rowsTo_at {p n k : Nat} {ds : List Nat} {g : Nat} {v : AV} (h : (sT (rowsTo p n ds g))[k]? = some v) : k < n + 2 ∧ v = .str (rowS (rowsL p n) ds g k) := by
  unfold sT rowsTo at h
  rw [List.map_map, List.getElem?_map] at h
  by_cases hk : k < n + 2
  · rw [List.getElem?_range hk] at h
    exact ⟨hk, (Option.some.inj h).symm⟩
  · rw [List.getElem?_eq_none (by rw [List.length_range]; lia)] at h; cases h
section
variable {prog : Program} {w : World} {B : HF} {mg mb : Str → Option Value}
theorem segTP (T : TopOk B mg mb) {A : Around} {fit : Fit A 13} {pm : Value} {L : Addr} {PF : AF → S → Prop} {xs cs : List Int} {sts ds ords : List Nat} {s0 s1 b0 b1 p i ov : Nat} {x dx l D O : Addr} {ox od : Obj} {ps : List (Str × Str)} {ins : List Nat} {ou pk hs g ov2 : Nat} {w0 w1 : Str} {ps2 : List (Str × Str)} {ds1 : List Nat} {r k : Nat} (hp : p + (s0 + s1) ≤ 32) (hn : s0 + s1 ≤ 6) (hd : DsOk ds1 (s0 + s1)) (hk : k < 4)
    (h : ∀ D2, PF .next (⟨(some (.lst (xs.map AV.int)) :: some (.tup [.int (s0 : Int), .int (s1 : Int)]) :: some (.int (s0 : Int)) :: some (.tup [.int (b0 : Int), .int (b1 : Int)]) :: none :: some (.raw (.ref l)) :: some (.raw (.ref x)) :: some (.lst (sT (rowsL p (s0 + s1)))) :: some (.int (ov2 : Int)) :: some (.int (i : Int)) :: some (.lst (sN ins)) :: some (.int (ou : Int)) :: some (.lst (sT (wordsL p ins ou))) :: some (.str (Txt.join ", " (wordsL p ins ou))) :: some (.int (pk : Int)) :: some (.int (hs : Int)) :: some (.str (wd (p + hs))) :: some (.lst (sT [w0, w1])) :: some (.int (g : Int)) :: some (.tup (sT (endsT r))) :: some (.str (shuts.getD k "")) :: some (.str (pageTo (rowsL p (s0 + s1)) ds1 g "." ["\r\n"] (s0 + s1 + 2) ++ tail1 k)) :: some (.str (tail1 k)) :: none :: none :: none :: none :: none :: none :: none :: none :: none :: none :: none :: none :: none :: none :: none :: none :: []), (none :: none :: some (.raw (.ref O)) :: some (.raw (.ref D2)) :: some (.lst (postsOf (nmL p (s0 + s1)) s0 b0 b1)) :: some (.lst (sN sts)) :: some (.lst (sT (nmL p (s0 + s1)))) :: some (.int (p : Int)) :: some (.int ((s0 + s1 : Nat) : Int)) :: some (.lst (cs.map AV.int)) :: []), ((D2, .list (sN (dsTo ds1 g (s0 + s1 + 2)))) :: ((D, .list (sN ds1)) :: (O, .list (sN (ordTo ords hs))) :: (x, .ob ox) :: (dx, .ob od) :: (l, .list (ps2.map pairT)) :: [(54, tab6), (61, tab7)]))⟩ : S)) :
    Xs (LK prog w B T A fit pm L) (turnB 22) (⟨(some (.lst (xs.map AV.int)) :: some (.tup [.int (s0 : Int), .int (s1 : Int)]) :: some (.int (s0 : Int)) :: some (.tup [.int (b0 : Int), .int (b1 : Int)]) :: none :: some (.raw (.ref l)) :: some (.raw (.ref x)) :: some (.lst (sT (rowsL p (s0 + s1)))) :: some (.int (ov2 : Int)) :: some (.int (i : Int)) :: some (.lst (sN ins)) :: some (.int (ou : Int)) :: some (.lst (sT (wordsL p ins ou))) :: some (.str (Txt.join ", " (wordsL p ins ou))) :: some (.int (pk : Int)) :: some (.int (hs : Int)) :: some (.str (wd (p + hs))) :: some (.lst (sT [w0, w1])) :: some (.int (g : Int)) :: some (.tup (sT (endsT r))) :: some (.str (shuts.getD k "")) :: some (.str (pageTo (rowsL p (s0 + s1)) ds1 g "." ["\r\n"] (s0 + s1 + 2) ++ tail1 k)) :: some (.str (tail1 k)) :: none :: none :: none :: none :: none :: none :: none :: none :: none :: none :: none :: none :: none :: none :: none :: none :: []), (none :: none :: some (.raw (.ref O)) :: some (.raw (.ref D)) :: some (.lst (postsOf (nmL p (s0 + s1)) s0 b0 b1)) :: some (.lst (sN sts)) :: some (.lst (sT (nmL p (s0 + s1)))) :: some (.int (p : Int)) :: some (.int ((s0 + s1 : Nat) : Int)) :: some (.lst (cs.map AV.int)) :: []), ((D, .list (sN ds1)) :: (O, .list (sN (ordTo ords hs))) :: (x, .ob ox) :: (dx, .ob od) :: (l, .list (ps2.map pairT)) :: [(54, tab6), (61, tab7)])⟩ : S) PF := by
  refine e0_3 (tails_len k hk) ?_
  rintro tl0 tl1 tls
  have hcl : ∀ x ∈ rowsL p (s0 + s1), Clean x := fun x hx => clean_ok (rowsL_ok hp x hx)
  have hrl : ∀ x ∈ rowsL p (s0 + s1), x.length ≤ 20 := fun x hx => okWord_len (rowsL_ok hp x hx)
  have hpl := page_lenS (goal := g) (bare := ".") (ends := ["\r\n"]) hrl hd.le (by decide) (by decide) (s0 + s1 + 2)
  refine e0_2 (page_split (rows := rowsL p (s0 + s1)) (ds := ds1) (goal := g) (n := s0 + s1 + 2) hcl hk) ?_
  rintro e1 e2
  refine e0_4 (tparts_ok k hk) ?_
  rintro _ _ _ et
  refine xs_cons ?_
  refine x_assign ?_ rfl
  refine ev_comp [] ?_ (fun _ => rfl) rfl rfl (by decide +kernel)
  refine ev_subsl ?_
  refine m_split ?_ ⟨rfl, rfl, rfl⟩
  repeat tb_start
  refine ⟨hasT_str, ?_⟩
  repeat tb_start
  refine c_split rfl (small_len (by rw [Str.length_append]; lia)) (by rw [e2]; exact small_len (by lia)) ?_
  refine rwl e1 ?_
  refine evp_none ?_
  refine evp_some ?_
  repeat tb_start
  refine ⟨((s0 + s1 + 2 : Nat) : Int), by congr 1, ?_⟩
  refine slT_list LstAt.lst (small_len (by rw [List.length_map, List.length_append, List.length_map, List.length_range]; lia)) ?_
  have hln : (((List.range (s0 + s1 + 2)).map fun k => rowS (rowsL p (s0 + s1)) ds1 g k) ++ tparts k).map AV.str = sT (rowsTo p (s0 + s1) ds1 g) ++ sT (tparts k) := List.map_append
  have hlen : (sT (rowsTo p (s0 + s1) ds1 g)).length = s0 + s1 + 2 := by rw [sT_len]; unfold rowsTo; rw [List.length_map, List.length_range]
  refine rwl hln ?_
  rw [show ((((sT (rowsTo p (s0 + s1) ds1 g) ++ sT (tparts k)).drop ((none : Option Int).elim 0 (clipAt (sT (rowsTo p (s0 + s1) ds1 g) ++ sT (tparts k)).length))).take ((some ((s0 + s1 + 2 : Nat) : Int)).elim (sT (rowsTo p (s0 + s1) ds1 g) ++ sT (tparts k)).length (clipAt (sT (rowsTo p (s0 + s1) ds1 g) ++ sT (tparts k)).length) - (none : Option Int).elim 0 (clipAt (sT (rowsTo p (s0 + s1) ds1 g) ++ sT (tparts k)).length)))) = sT (rowsTo p (s0 + s1) ds1 g) from by
    show (List.drop 0 _).take (clipAt _ ((s0 + s1 + 2 : Nat) : Int) - 0) = _
    rw [List.drop_zero, Nat.sub_zero, clip_nat (by rw [List.length_append, hlen]; lia), ← hlen, List.take_left]]
  refine ⟨fun out => out = sN (dsTo ds1 g (sT (rowsTo p (s0 + s1) ds1 g)).length), ⟨⟨_, _, ["row"], [], ⟨rfl, by decide +kernel, by decide +kernel, by decide +kernel, by decide, by simp⟩, walk_lst, True.intro, fun D' Cc => ?_⟩⟩, ?_⟩
  · refine loop1 (J := fun i out => out = sN (dsTo ds1 g i)) (fun _ => True.intro) rfl ?_
    rintro j v out hv rfl
    refine e0_2 (rowsTo_at hv) ?_
    rintro hj rfl
    repeat tb_start
    refine m_scount ?_ ⟨rfl, rfl, rfl⟩
    repeat tb_start
    refine ⟨hasT_str, ?_⟩
    repeat tb_start
    refine ⟨_, rfl, small_len (by rw [sN_len, dsTo_len]; lia), _, Le.vars [false], ?_⟩
    refine rwl (row_count hcl _) ?_
    refine rwl (dsTo_succ _ _ _) ?_
    refine rwl (sN_app _ _) ?_
    rfl
  · rintro D2 out rfl
    refine rwl hlen ?_
    tb_start
    refine then_next ?_
    refine xs_nil ?_
    exact h D2
end
noncomputable abbrev fAh (p s0 s1 : Nat) (ah : Nat → Bool) : Nat → Str × Str := fun j => wayOf p (s0 + s1) s0 (ah j) j
structure LInv (s0 s1 p : Nat) (P0 S0 S1 N0 : Int) (t : Nat) (ds ords : List Nat) (ov : Nat) (ah : Nat → Bool) (ps : List (Str × Str)) : Prop where
  inv : Inv s0 s1 P0 S0 S1 N0 (fun k => ds.getD k 0) ah ov t
  len : ds.length = s0 + s1 + 2
  nd : ords.Nodup
  mem : ∀ j ∈ ords, j < s0 + s1
  tab : ps = tabOf p (fAh p s0 s1 ah) ords (s0 + s1)
theorem sumTo_term {f : Nat → Int} : ∀ {n}, (∀ j, j < n → 0 ≤ f j) → ∀ k, k < n → f k ≤ sumTo f n
  | 0, _, k, hk => absurd hk (Nat.not_lt_zero _)
  | n + 1, h, k, hk => by
    have h1 := sumTo_nonneg (f := f) (n := n) fun j hj => h j (by lia)
    have h2 := h n (by lia)
    rw [sumTo]
    by_cases e : k = n
    · subst e; lia
    · have := sumTo_term (n := n) (fun j hj => h j (by lia)) k (by lia)
      lia
section
variable {s0 s1 p : Nat} {P0 S0 S1 N0 : Int} {t ov : Nat} {ds ords : List Nat} {ah : Nat → Bool} {ps : List (Str × Str)}
theorem LInv.le5 (I : LInv s0 s1 p P0 S0 S1 N0 t ds ords ov ah ps) {k : Nat} (hk : k < s0 + s1 + 2) : 1 ≤ ds.getD k 0 ∧ ds.getD k 0 ≤ 5 := by
  have h1 : 1 ≤ ds.getD k 0 := I.inv.pos k hk
  have h2 := sumTo_term (f := fun j => (ds.getD j 0 : Int) - 1) (n := s0 + s1 + 2) (fun j hj => by have h : 1 ≤ ds.getD j 0 := I.inv.pos j hj; show (0 : Int) ≤ (ds.getD j 0 : Int) - 1; lia) k hk
  have h3 := I.inv.all
  rw [h3] at h2
  have h2 : (ds.getD k 0 : Int) - 1 ≤ 4 := h2
  exact ⟨h1, by lia⟩
theorem LInv.sum2 (I : LInv s0 s1 p P0 S0 S1 N0 t ds ords ov ah ps) : outN ds (s0 + s1) ≤ 8 := by
  have h1 := I.le5 (k := 0) (by lia)
  have h2 := I.le5 (k := s0 + s1 + 1) (by lia)
  unfold outN
  lia
theorem sumTo_zero {f : Nat → Int} : ∀ {n}, (∀ j, j < n → f j = 0) → sumTo f n = 0
  | 0, _ => rfl
  | n + 1, h => by rw [sumTo, sumTo_zero fun j hj => h j (by lia), h n (by lia)]; rfl
theorem LInv.some (I : LInv s0 s1 p P0 S0 S1 N0 t ds ords ov ah ps) : ((insL ds (s0 + s1)).map fun j => 2 ^ (p + j)).sum + outN ds (s0 + s1) * 2 ^ 32 ≠ 0 := by
  intro z
  have z1 : outN ds (s0 + s1) = 0 := by lia
  have z2 : ((insL ds (s0 + s1)).map fun j => 2 ^ (p + j)).sum = 0 := by lia
  have e : insL ds (s0 + s1) = [] := by
    cases q : insL ds (s0 + s1) with
    | nil => rfl
    | cons a r =>
      rw [q, List.map_cons, List.sum_cons] at z2
      have := Nat.two_pow_pos (p + a)
      lia
  have h := I.inv.all
  rw [sumTo_zero] at h
  · lia
  intro j hj
  have h0 := I.le5 hj
  have hA := I.le5 (k := 0) (by lia)
  have hB := I.le5 (k := s0 + s1 + 1) (by lia)
  unfold outN at z1
  have : ds.getD j 0 = 1 := by
    by_cases c0 : j = 0
    · subst c0; lia
    by_cases c1 : j = s0 + s1 + 1
    · subst c1; lia
    have := insL_nil e (j - 1) (by lia)
    rw [show j - 1 + 1 = j by lia] at this
    lia
  show (ds.getD j 0 : Int) - 1 = 0
  lia
theorem getD_set (l : List Nat) (i k v : Nat) : (l.set i v).getD k 0 = if k = i ∧ i < l.length then v else l.getD k 0 := by
  refine rwl List.getD_eq_getElem?_getD ?_
  refine rwl List.getD_eq_getElem?_getD ?_
  refine rwl List.getElem?_set ?_
  by_cases e : i = k
  · subst e
    by_cases h : i < l.length
    · rw [if_pos rfl, if_pos h, if_pos ⟨rfl, h⟩]; rfl
    · rw [if_pos rfl, if_neg h, if_neg (fun z => h z.2), List.getElem?_eq_none (by lia)]
  · rw [if_neg e, if_neg (fun z => e z.1.symm)]
theorem dsTo_getD (ds : List Nat) (g n k : Nat) : (dsTo ds g n).getD k 0 = if k < n then ds.getD k 0 + (if k = g then 1 else 0) else 0 := by
  unfold dsTo
  rw [List.getD_eq_getElem?_getD, List.getElem?_map]
  by_cases h : k < n
  · rw [List.getElem?_range h, if_pos h]; rfl
  · rw [List.getElem?_eq_none (by rw [List.length_range]; lia), if_neg h]; rfl
theorem step_fun {h g : Nat} (hl : ds.length = s0 + s1 + 2) (hh : h < s0 + s1) (hg : g < s0 + s1 + 2) :
    (fun k => (dsTo (ds.set (h + 1) (ds.getD (h + 1) 0 - 1)) g (s0 + s1 + 2)).getD k 0) = stepD (fun k => ds.getD k 0) h g := by
  funext k
  refine rwl (dsTo_getD _ _ _ _) ?_
  refine rwl (getD_set _ _ _ _) ?_
  unfold stepD
  by_cases hk : k < s0 + s1 + 2
  · refine rwl (if_pos hk) ?_
    by_cases e : k = h + 1
    · subst e
      rw [if_pos ⟨rfl, by lia⟩, if_pos rfl]
    · rw [if_neg (fun z => e z.1), if_neg e]
  · have : ds.getD k 0 = 0 := by rw [List.getD_eq_getElem?_getD, List.getElem?_eq_none (by lia)]; rfl
    refine rwl (if_neg hk) ?_
    refine rwl (if_neg (by lia)) ?_
    refine rwl (if_neg (by lia)) ?_
    exact this.symm
theorem LInv.ds1 (I : LInv s0 s1 p P0 S0 S1 N0 t ds ords ov ah ps) {h : Nat} (hh : h < s0 + s1) (hd : 1 < ds.getD (h + 1) 0) : DsOk (ds.set (h + 1) (ds.getD (h + 1) 0 - 1)) (s0 + s1) := by
  refine ⟨by rw [List.length_set]; exact I.len, fun k hk => ?_, fun d hm => ?_⟩
  · rw [getD_set]
    have := I.le5 hk
    split <;> lia
  · obtain ⟨k, hk⟩ := List.getElem?_of_mem hm
    have hk2 : k < s0 + s1 + 2 := by have := (List.getElem?_eq_some_iff.mp hk).1; rw [List.length_set, I.len] at this; exact this
    have e : (ds.set (h + 1) (ds.getD (h + 1) 0 - 1)).getD k 0 = d := by rw [List.getD_eq_getElem?_getD, hk]; rfl
    rw [getD_set] at e
    have h1 := I.le5 hk2
    have h2 := I.le5 (k := h + 1) (by lia)
    split at e <;> lia
theorem way_ok {n j : Nat} {b : Bool} (hp : p + n ≤ 32) : okWord (wayOf p n s0 b j).1 = true ∧ okWord (wayOf p n s0 b j).2 = true := by
  have hg : ∀ k, okWord ((nmL p n).getD k "") = true := fun k => by
    by_cases hk : k < n
    · rw [nmL_D hk]; exact word_ok hp hk
    · rw [List.getD_eq_getElem?_getD, List.getElem?_eq_none (by rw [nmL_len]; lia)]; decide
  have ha : okWord (if j = 0 ∨ j = s0 then ("away" : Str) else (nmL p n).getD (j - 1) "") = true := by
    split
    · exact ah_ok.1
    · exact hg _
  have hb : okWord (if j = (nmL p n).length - 1 then ("home" : Str) else (nmL p n).getD (j + 1) "") = true := by
    split
    · exact ah_ok.2.1
    · exact hg _
  cases b with
  | true => exact ⟨hb, ha⟩
  | false => exact ⟨ha, hb⟩
theorem tabO_len {f : Nat → Str × Str} : ∀ js : List Nat, (tabO p f js).length = 2 * js.length
  | [] => rfl
  | j :: js => by rw [tabO, List.length_cons, List.length_cons, tabO_len js, List.length_cons]; lia
theorem nodup_len : ∀ {n : Nat} {l : List Nat}, l.Nodup → (∀ j ∈ l, j < n) → l.length ≤ n
  | 0, [], _, _ => Nat.le_refl 0
  | 0, a :: _, _, h => absurd (h a (.head _)) (Nat.not_lt_zero _)
  | n + 1, l, nd, h => by
    have h1 := nodup_len (n := n) (l := l.filter fun j => !decide (j = n)) (List.Nodup.sublist List.filter_sublist nd) fun j hj => by
      have := h j (List.mem_filter.mp hj).1
      have h2 := (List.mem_filter.mp hj).2
      have : j ≠ n := by simpa using h2
      lia
    by_cases hm : n ∈ l
    · refine e1_1 (List.getElem?_of_mem hm) ?_
      rintro m hm
      rw [← erase_filter nd hm, List.length_eraseIdx, if_pos (List.getElem?_eq_some_iff.mp hm).1] at h1
      lia
    · rw [no_filter hm] at h1
      lia
theorem LInv.ords_len (I : LInv s0 s1 p P0 S0 S1 N0 t ds ords ov ah ps) : ords.length ≤ s0 + s1 := by
  exact nodup_len I.nd I.mem
theorem LInv.ps_len (I : LInv s0 s1 p P0 S0 S1 N0 t ds ords ov ah ps) : ps.length ≤ 4 * (s0 + s1) := by
  refine rwl I.tab ?_
  unfold tabOf tabS
  have h1 : (stillL ords (s0 + s1)).length ≤ s0 + s1 := by
    have := List.length_filter_le (fun j => !ords.contains j) (List.range (s0 + s1))
    rw [List.length_range] at this
    exact this
  have h2 := I.ords_len
  refine rwl List.length_append ?_
  refine rwl List.length_append ?_
  refine rwl (List.length_map _) ?_
  refine rwl (List.length_map _) ?_
  refine rwl (tabO_len _) ?_
  lia
theorem LInv.hok (I : LInv s0 s1 p P0 S0 S1 N0 t ds ords ov ah ps) (hp : p + (s0 + s1) ≤ 32) : HOk ps := by
  refine ⟨by have := I.ps_len; lia, fun q hq => ?_⟩
  have key : ∃ j, j < s0 + s1 ∧ q.1 = wd (p + j) := by
    rw [I.tab] at hq
    unfold tabOf tabS at hq
    have hO : ∀ {js : List Nat}, (∀ j ∈ js, j < s0 + s1) → q ∈ tabO p (fAh p s0 s1 ah) js → ∃ j, j < s0 + s1 ∧ q.1 = wd (p + j) := by
      intro js
      induction js with
      | nil => intro _ h; cases h
      | cons a r ih =>
        intro hm h
        rw [tabO] at h
        rcases List.mem_cons.mp h with h | h
        · exact ⟨a, hm a (.head _), by rw [h]⟩
        rcases List.mem_cons.mp h with h | h
        · exact ⟨a, hm a (.head _), by rw [h]⟩
        exact ih (fun j hj => hm j (.tail _ hj)) h
    rcases List.mem_append.mp hq with hq | hq
    · rcases List.mem_append.mp hq with hq | hq
      · refine e1_2 (List.mem_map.mp hq) ?_
        rintro j hj rfl
        exact ⟨j, (still_mem.mp hj).1, rfl⟩
      · refine e1_2 (List.mem_map.mp hq) ?_
        rintro j hj rfl
        exact ⟨j, (still_mem.mp hj).1, rfl⟩
    · exact hO I.mem hq
  refine e1_2 key ?_
  clear key
  rintro j hj e
  have := okWord_len (words_ok (p + j) (by lia)).2.1
  refine rwl e ?_
  lia
end
section
variable {p n s0 : Nat}
theorem rowsL_0 : (rowsL p n)[0]? = some ("away" : Str) := rfl
theorem rowsL_mid {k : Nat} (hk : k < n) : (rowsL p n)[k + 1]? = some (wd (p + k)) := by
  unfold rowsL
  rw [List.append_assoc]
  show ((nmL p n) ++ _)[k]? = _
  rw [List.getElem?_append_left (by rw [nmL_len]; exact hk), nmL_get hk]
theorem rowsL_end : (rowsL p n)[n + 1]? = some ("home" : Str) := by
  unfold rowsL
  refine rwl (List.append_assoc _ _ _) ?_
  show ((nmL p n) ++ _)[n]? = _
  refine rwl (List.getElem?_append_right (by rw [nmL_len]; lia)) ?_
  refine rwl (nmL_len _ _) ?_
  refine rwl (Nat.sub_self _) ?_
  rfl
theorem rows_goal {ah : Nat → Bool} {h : Nat} (hh : h < n) : (rowsL p n)[goalOf s0 ah h]? = some (wayOf p n s0 (ah h) h).1 := by
  unfold goalOf wayOf
  cases e : ah h with
  | true =>
    refine rwl (if_pos rfl) ?_
    refine rwl (if_pos rfl) ?_
    refine rwl (nmL_len _ _) ?_
    show _ = some (if h = n - 1 then ("home" : Str) else (nmL p n).getD (h + 1) "")
    by_cases c : h = n - 1
    · rw [if_pos c, show h + 2 = n + 1 by lia, rowsL_end]
    · rw [if_neg c, nmL_D (by lia), show h + 2 = (h + 1) + 1 by lia, rowsL_mid (by lia)]
  | false =>
    rw [if_neg Bool.false_ne_true, if_neg Bool.false_ne_true]
    show _ = some (if h = 0 ∨ h = s0 then ("away" : Str) else (nmL p n).getD (h - 1) "")
    by_cases c : h = 0 ∨ h = s0
    · rw [if_pos c, if_pos c, rowsL_0]
    · refine rwl (if_neg c) ?_
      refine rwl (if_neg c) ?_
      refine rwl (nmL_D (by omega)) ?_
      have h1 : h ≠ 0 := fun z => c (.inl z)
      rw [show (rowsL p n)[h]? = (rowsL p n)[(h - 1) + 1]? by rw [show h - 1 + 1 = h by lia], rowsL_mid (by omega)]
theorem wd_inj {a b : Nat} (ha : a < 32) (hb : b < 32) (e : wd a = wd b) : a = b := low_inj ha hb (by rw [e])
theorem nmL_nd (hp : p + n ≤ 32) : (nmL p n).Nodup := by
  unfold nmL
  refine List.pairwise_map.mpr ?_
  refine List.Pairwise.imp_of_mem (fun {a b} ha hb hne => ?_) (List.nodup_range (n := n))
  intro e
  have ha := List.mem_range.mp ha
  have hb := List.mem_range.mp hb
  have := wd_inj (by lia) (by lia) e
  exact hne (by lia)
theorem rowsL_nd (hp : p + n ≤ 32) : (rowsL p n).Nodup := by
  have hw : ∀ x ∈ nmL p n, x ≠ "away" ∧ x ≠ "home" := fun x hx => by
    unfold nmL at hx
    refine e1_2 (List.mem_map.mp hx) ?_
    rintro j hj rfl
    have := List.mem_range.mp hj
    exact ⟨(words_ok (p + j) (by lia)).2.2.2.1, (words_ok (p + j) (by lia)).2.2.2.2⟩
  unfold rowsL
  refine List.nodup_append.mpr ⟨List.nodup_append.mpr ⟨List.nodup_cons.mpr ⟨List.not_mem_nil, List.nodup_nil⟩, nmL_nd hp, ?_⟩, List.nodup_cons.mpr ⟨List.not_mem_nil, List.nodup_nil⟩, ?_⟩
  · intro a ha b hb e
    rw [List.mem_singleton] at ha
    exact (hw b hb).1 (by rw [← e, ha])
  · intro a ha b hb e
    rw [List.mem_singleton] at hb
    subst hb
    rcases List.mem_append.mp ha with ha | ha
    · rw [List.mem_singleton] at ha
      exact ah_ok.2.2 (by rw [← ha, e])
    · exact (hw a ha).2 e
end
theorem over_is {s0 h ov : Nat} {ah : Nat → Bool} (hh : h ≠ s0 ∨ True) : (if h + 1 = s0 ∧ goalOf s0 ah h = s0 + 1 then ov + 1 else ov) = ov + overI s0 ah h := by
  unfold goalOf overI
  by_cases c : h + 1 = s0
  · cases e : ah h with
    | true =>
      rw [if_pos ⟨c, by rw [if_pos rfl]; lia⟩, if_pos ⟨rfl, c⟩]
    | false =>
      rw [if_neg (fun z => ?_), if_neg (fun z => by cases z.1)]
      · rfl
      have := z.2
      rw [if_neg Bool.false_ne_true] at this
      split at this <;> lia
  · refine rwl (if_neg (fun z => c z.1)) ?_
    refine rwl (if_neg (fun z => c z.2)) ?_
    rfl
section
variable {s0 s1 p : Nat} {P0 S0 S1 N0 : Int} {t ov : Nat} {ds ords : List Nat} {ah : Nat → Bool} {ps ps2 : List (Str × Str)}
theorem LInv.step (a1 : 1 ≤ s0) (a2 : s0 ≤ 3) (b1 : 1 ≤ s1) (b2 : s1 ≤ 3) (hp : p + (s0 + s1) ≤ 32) (I : LInv s0 s1 p P0 S0 S1 N0 t ds ords ov ah ps) {h : Nat} (hh : h < s0 + s1) (hd : 1 < ds.getD (h + 1) 0)
    (h2 : ps.filter (fun q => !hasN (Txt.lower (wd (p + h))) q) ++ [(wd (p + h), (wayOf p (s0 + s1) s0 (ah h) h).2)] ++ [(wd (p + h), (wayOf p (s0 + s1) s0 (ah h) h).1)] = ps2) :
    LInv s0 s1 p P0 S0 S1 N0 (t + 1) (dsTo (ds.set (h + 1) (ds.getD (h + 1) 0 - 1)) (goalOf s0 ah h) (s0 + s1 + 2)) (ordTo ords h) (ov + overI s0 ah h) (stepA ah h) ps2 := by
  refine ⟨?_, dsTo_len _ _ _, ordTo_nd I.nd, fun j hj => ?_, ?_⟩
  · refine rwl (step_fun I.len hh (goal_lt hh)) ?_
    exact inv_step a1 a2 b1 b2 I.inv hh hd
  · rcases ordTo_mem.mp hj with z | z
    · exact I.mem j z
    · rw [z]; exact hh
  · refine rwr h2 ?_
    refine rwl I.tab ?_
    refine tab_step hp hh I.mem (fun j hj => ?_) ?_
    · show wayOf p (s0 + s1) s0 (stepA ah h j) j = _
      unfold stepA
      rw [if_neg hj]
    · show wayOf p (s0 + s1) s0 (stepA ah h h) h = _
      unfold stepA
      rw [if_pos rfl, way_not]
end
section
variable {prog : Program} {w : World} {B : HF} {mg mb : Str → Option Value}
theorem turnAll (T : TopOk B mg mb) (P : Pats B) (C : ClsOk B) (hd81 : B 81 = some flagO) {A : Around} {fit : Fit A 13} {pm : Value} {L : Addr} {PF : AF → S → Prop} {xs cs : List Int} {sts ds ords : List Nat} {s0 s1 b0 b1 p i ov : Nat} {x dx l D O : Addr} {ox od : Obj} {ps : List (Str × Str)} {ah : Nat → Bool} {P0 S0 S1 N0 : Int} (io : InsOk x dx l ox od) (a1 : 1 ≤ s0) (a2 : s0 ≤ 3) (a3 : 1 ≤ s1) (a4 : s1 ≤ 3) (hp : p ≤ 26) (hc : cs.length = 8) (hi40 : i < 40)
    (I : LInv s0 s1 p P0 S0 S1 N0 i ds ords ov ah ps)
    (hbrk : ∀ (ins : List Nat) (ou : Nat), ins = [] → insL ds (s0 + s1) = [] → PF .brk (⟨(some (.lst (xs.map AV.int)) :: some (.tup [.int (s0 : Int), .int (s1 : Int)]) :: some (.int (s0 : Int)) :: some (.tup [.int (b0 : Int), .int (b1 : Int)]) :: none :: some (.raw (.ref l)) :: some (.raw (.ref x)) :: some (.lst (sT (rowsL p (s0 + s1)))) :: some (.int (ov : Int)) :: some (.int (i : Int)) :: some (.lst (sN ins)) :: some (.int (ou : Int)) :: some (.lst (sT (wordsL p ins ou))) :: some (.str (Txt.join ", " (wordsL p ins ou))) :: none :: none :: none :: none :: none :: none :: none :: none :: none :: none :: none :: none :: none :: none :: none :: none :: none :: none :: none :: none :: none :: none :: none :: none :: none :: []), (none :: none :: some (.raw (.ref O)) :: some (.raw (.ref D)) :: some (.lst (postsOf (nmL p (s0 + s1)) s0 b0 b1)) :: some (.lst (sN sts)) :: some (.lst (sT (nmL p (s0 + s1)))) :: some (.int (p : Int)) :: some (.int ((s0 + s1 : Nat) : Int)) :: some (.lst (cs.map AV.int)) :: []), ((D, .list (sN ds)) :: (O, .list (sN ords)) :: (x, .ob ox) :: (dx, .ob od) :: (l, .list (ps.map pairT)) :: [(54, tab6), (61, tab7)])⟩ : S))
    (hnx : ∀ (ins : List Nat) (ou pk hs g ov2 : Nat) (w0 w1 : Str) (ps2 : List (Str × Str)) (ds1 : List Nat) (r k : Nat) (D2 : Addr), LInv s0 s1 p P0 S0 S1 N0 (i + 1) (dsTo ds1 g (s0 + s1 + 2)) (ordTo ords hs) ov2 (stepA ah hs) ps2 → PF .next (⟨(some (.lst (xs.map AV.int)) :: some (.tup [.int (s0 : Int), .int (s1 : Int)]) :: some (.int (s0 : Int)) :: some (.tup [.int (b0 : Int), .int (b1 : Int)]) :: none :: some (.raw (.ref l)) :: some (.raw (.ref x)) :: some (.lst (sT (rowsL p (s0 + s1)))) :: some (.int (ov2 : Int)) :: some (.int (i : Int)) :: some (.lst (sN ins)) :: some (.int (ou : Int)) :: some (.lst (sT (wordsL p ins ou))) :: some (.str (Txt.join ", " (wordsL p ins ou))) :: some (.int (pk : Int)) :: some (.int (hs : Int)) :: some (.str (wd (p + hs))) :: some (.lst (sT [w0, w1])) :: some (.int (g : Int)) :: some (.tup (sT (endsT r))) :: some (.str (shuts.getD k "")) :: some (.str (pageTo (rowsL p (s0 + s1)) ds1 g "." ["\r\n"] (s0 + s1 + 2) ++ tail1 k)) :: some (.str (tail1 k)) :: none :: none :: none :: none :: none :: none :: none :: none :: none :: none :: none :: none :: none :: none :: none :: none :: []), (none :: none :: some (.raw (.ref O)) :: some (.raw (.ref D2)) :: some (.lst (postsOf (nmL p (s0 + s1)) s0 b0 b1)) :: some (.lst (sN sts)) :: some (.lst (sT (nmL p (s0 + s1)))) :: some (.int (p : Int)) :: some (.int ((s0 + s1 : Nat) : Int)) :: some (.lst (cs.map AV.int)) :: []), ((D2, .list (sN (dsTo ds1 g (s0 + s1 + 2)))) :: ((D, .list (sN ds1)) :: (O, .list (sN (ordTo ords hs))) :: (x, .ob ox) :: (dx, .ob od) :: (l, .list (ps2.map pairT)) :: [(54, tab6), (61, tab7)]))⟩ : S)) :
    Xs (LK prog w B T A fit pm L) (turnB 0) (⟨(some (.lst (xs.map AV.int)) :: some (.tup [.int (s0 : Int), .int (s1 : Int)]) :: some (.int (s0 : Int)) :: some (.tup [.int (b0 : Int), .int (b1 : Int)]) :: none :: some (.raw (.ref l)) :: some (.raw (.ref x)) :: some (.lst (sT (rowsL p (s0 + s1)))) :: some (.int (ov : Int)) :: some (.int (i : Int)) :: none :: none :: none :: none :: none :: none :: none :: none :: none :: none :: none :: none :: none :: none :: none :: none :: none :: none :: none :: none :: none :: none :: none :: none :: none :: none :: none :: none :: none :: []), (none :: none :: some (.raw (.ref O)) :: some (.raw (.ref D)) :: some (.lst (postsOf (nmL p (s0 + s1)) s0 b0 b1)) :: some (.lst (sN sts)) :: some (.lst (sT (nmL p (s0 + s1)))) :: some (.int (p : Int)) :: some (.int ((s0 + s1 : Nat) : Int)) :: some (.lst (cs.map AV.int)) :: []), ((D, .list (sN ds)) :: (O, .list (sN ords)) :: (x, .ob ox) :: (dx, .ob od) :: (l, .list (ps.map pairT)) :: [(54, tab6), (61, tab7)])⟩ : S) PF := by
  have hpn : p + (s0 + s1) ≤ 32 := by omega
  refine segTA T a2 a4 I.len (I.le5 (by omega)).1 (I.le5 (by omega)).1 fun ins ou hi ho => ?_
  have hmem : ∀ j ∈ ins, j < s0 + s1 := fun j hj => by rw [hi] at hj; exact (insL_mem hj).1
  have hil : ins.length ≤ s0 + s1 := by rw [hi]; exact insL_len _ _
  have ho8 : ou ≤ 8 := by rw [ho]; exact I.sum2
  refine segTB T a2 a4 hp hmem hil ho8 ?_
  refine segTC T hd81 a2 a4 hp hi ho8 (by rw [ho]; exact I.some) ?_
  refine segTD T (fun e => hbrk ins ou e (by rw [← hi]; exact e)) fun hine => ?_
  refine segTE T hc (by omega) hine hi40 fun pk hpk => ?_
  refine segTF T a2 a4 hp hi ho8 hpk fun hs hsm => ?_
  have hh := hmem hs hsm
  have hd : 1 < ds.getD (hs + 1) 0 := by rw [hi] at hsm; exact (insL_mem hsm).2
  refine e0_2 (way_ok (p := p) (n := s0 + s1) (s0 := s0) (j := hs) (b := ah hs) hpn) ?_
  rintro q0 q1
  refine segTG T P C (w0 := (wayOf p (s0 + s1) s0 (ah hs) hs).1) (w1 := (wayOf p (s0 + s1) s0 (ah hs) hs).2) io hpn hh (I.hok hpn) (by rw [I.tab]; exact tab_get hpn hh I.mem I.nd) (by
    rw [post_way]
    cases pre s0 b0 b1 hs <;> cases ah hs
    · exact .inl rfl
    · exact .inr rfl
    · exact .inr rfl
    · exact .inl rfl) q0 q1 ?_
  refine segTH T P C io hpn hh (I.hok hpn) (by have := I.ps_len; omega) q0 q1 rfl ?_
  refine segTI T (g := 0) (ov2 := 0) (ps := ps) I.nd (by have := I.ords_len; omega) ?_
  have hg := rows_goal (p := p) (n := s0 + s1) (s0 := s0) (ah := ah) hh
  refine segTJ T (ps := ps) (g := goalOf s0 ah hs) (ov2 := ov + overI s0 ah hs) hg (fun m hm e => by
    have := nodup_idx (rowsL_nd hpn) e hg
    omega) (by have := goal_lt (s0 := s0) (ah := ah) hh; omega) (over_is (.inr True.intro)) ?_
  refine segTK T (ps := ps) (ov := ov) (by omega) (by rw [I.len]; omega) (by omega) rfl ?_
  refine segTL T (ds := ds) (ps := ps) (ov := ov) fun r k hr hk => ?_
  have hds1 := I.ds1 hh hd
  refine segTM T P (ds := ds) (ps := ps) (ov := ov) hpn (by omega) hds1 hr hk ?_
  refine segTN T (ds := ds) (ps := ps) (ov := ov) hpn (by omega) hds1 hr hk ?_
  refine segTP T (ds := ds) (ps := ps) (ov := ov) hpn (by omega) hds1 hk fun D2 => ?_
  exact hnx ins ou pk hs (goalOf s0 ah hs) (ov + overI s0 ah hs) _ _ _ (ds.set (hs + 1) (ds.getD (hs + 1) 0 - 1)) r k D2 (I.step a1 a2 a3 a4 hpn hh hd rfl)
theorem segLoop (T : TopOk B mg mb) (P : Pats B) (C : ClsOk B) (hd81 : B 81 = some flagO) {A : Around} {fit : Fit A 13} {pm : Value} {L : Addr} {PF : AF → S → Prop} {xs cs : List Int} {sts : List Nat} {s0 s1 b0 b1 p : Nat} {x dx l O : Addr} {ox od : Obj} {P0 S0 S1 N0 : Int} (io : InsOk x dx l ox od) (a1 : 1 ≤ s0) (a2 : s0 ≤ 3) (a3 : 1 ≤ s1) (a4 : s1 ≤ 3) (hp : p ≤ 26) (hc : cs.length = 8)
    (hP : P0 + N0 * s1 ≤ 32) {D : Addr} {ds ords : List Nat} {ov : Nat} {ah : Nat → Bool} {ps : List (Str × Str)}
    (I : LInv s0 s1 p P0 S0 S1 N0 0 ds ords ov ah ps)
    (h : ∀ (i : Nat) (D : Addr) (ds ords : List Nat) (ov : Nat) (ah : Nat → Bool) (ps : List (Str × Str)), LInv s0 s1 p P0 S0 S1 N0 i ds ords ov ah ps → insL ds (s0 + s1) = [] → Xs (LK prog w B T A fit pm L) (lawB 15) (⟨(some (.lst (xs.map AV.int)) :: some (.tup [.int (s0 : Int), .int (s1 : Int)]) :: some (.int (s0 : Int)) :: some (.tup [.int (b0 : Int), .int (b1 : Int)]) :: none :: some (.raw (.ref l)) :: some (.raw (.ref x)) :: some (.lst (sT (rowsL p (s0 + s1)))) :: some (.int (ov : Int)) :: some (.int (i : Int)) :: some (.lst []) :: none :: none :: none :: none :: none :: none :: none :: none :: none :: none :: none :: none :: none :: none :: none :: none :: none :: none :: none :: none :: none :: none :: none :: none :: none :: none :: none :: none :: []), (none :: none :: some (.raw (.ref O)) :: some (.raw (.ref D)) :: some (.lst (postsOf (nmL p (s0 + s1)) s0 b0 b1)) :: some (.lst (sN sts)) :: some (.lst (sT (nmL p (s0 + s1)))) :: some (.int (p : Int)) :: some (.int ((s0 + s1 : Nat) : Int)) :: some (.lst (cs.map AV.int)) :: []), ((D, .list (sN ds)) :: (O, .list (sN ords)) :: (x, .ob ox) :: (dx, .ob od) :: (l, .list (ps.map pairT)) :: [(54, tab6), (61, tab7)])⟩ : S) PF) :
    Xs (LK prog w B T A fit pm L) (lawB 14) (⟨(some (.lst (xs.map AV.int)) :: some (.tup [.int (s0 : Int), .int (s1 : Int)]) :: some (.int (s0 : Int)) :: some (.tup [.int (b0 : Int), .int (b1 : Int)]) :: none :: some (.raw (.ref l)) :: some (.raw (.ref x)) :: some (.lst (sT (rowsL p (s0 + s1)))) :: some (.int (ov : Int)) :: none :: none :: none :: none :: none :: none :: none :: none :: none :: none :: none :: none :: none :: none :: none :: none :: none :: none :: none :: none :: none :: none :: none :: none :: none :: none :: none :: none :: none :: none :: []), (none :: none :: some (.raw (.ref O)) :: some (.raw (.ref D)) :: some (.lst (postsOf (nmL p (s0 + s1)) s0 b0 b1)) :: some (.lst (sN sts)) :: some (.lst (sT (nmL p (s0 + s1)))) :: some (.int (p : Int)) :: some (.int ((s0 + s1 : Nat) : Int)) :: some (.lst (cs.map AV.int)) :: []), ((D, .list (sN ds)) :: (O, .list (sN ords)) :: (x, .ob ox) :: (dx, .ob od) :: (l, .list (ps.map pairT)) :: [(54, tab6), (61, tab7)])⟩ : S) PF := by
  refine xs_cons ?_
  refine x_for ?_
  refine ev_callT (T := "range") ?_
  repeat tb_start
  refine c_range (n := ((40 : Nat) : Int)) fun t1 t2 t3 => ?_
  let JJ : Nat → S → Prop := fun i σ => ∃ (D : Addr) (ds ords : List Nat) (ov : Nat) (ah : Nat → Bool) (ps : List (Str × Str)), σ = (⟨(some (.lst (xs.map AV.int)) :: some (.tup [.int (s0 : Int), .int (s1 : Int)]) :: some (.int (s0 : Int)) :: some (.tup [.int (b0 : Int), .int (b1 : Int)]) :: none :: some (.raw (.ref l)) :: some (.raw (.ref x)) :: some (.lst (sT (rowsL p (s0 + s1)))) :: some (.int (ov : Int)) :: none :: none :: none :: none :: none :: none :: none :: none :: none :: none :: none :: none :: none :: none :: none :: none :: none :: none :: none :: none :: none :: none :: none :: none :: none :: none :: none :: none :: none :: none :: []), (none :: none :: some (.raw (.ref O)) :: some (.raw (.ref D)) :: some (.lst (postsOf (nmL p (s0 + s1)) s0 b0 b1)) :: some (.lst (sN sts)) :: some (.lst (sT (nmL p (s0 + s1)))) :: some (.int (p : Int)) :: some (.int ((s0 + s1 : Nat) : Int)) :: some (.lst (cs.map AV.int)) :: []), ((D, .list (sN ds)) :: (O, .list (sN ords)) :: (x, .ob ox) :: (dx, .ob od) :: (l, .list (ps.map pairT)) :: [(54, tab6), (61, tab7)])⟩ : S) ∧ LInv s0 s1 p P0 S0 S1 N0 i ds ords ov ah ps
  refine ⟨_, _, walk_range (n := 40) (by decide), JJ, fun _ _ _ => True.intro, ⟨D, ds, ords, ov, ah, ps, rfl, I⟩, ?_, ?_⟩
  · rintro i v σ hv hz0
    refine e6_2 hz0 ?_
    clear hz0
    rintro D ds ords ov ah ps rfl I
    refine e0_2 (upto_get hv) ?_
    rintro hi rfl
    refine asg_name ?_
    tb_start
    refine turnAll T P C hd81 io a1 a2 a3 a4 hp hc hi I (fun ins ou e e2 => ?_) fun ins ou pk hs g ov2 w0 w1 ps2 ds1 r k D2 I2 => ?_
    · subst e
      refine turn_brk ?_
      refine then_next (Tri.le (Le.vars [true, true, true, true, true, true, true, true, true, true, true, false, false, false, false, false, false, false, false, false, false, false, false, false, false, false, false, false, false, false, false, false, false, false, false, false, false, false, false]) ?_)
      exact h i D ds ords ov ah ps I e2
    · refine turn_next ?_
      exact ⟨_, (Le.mu1).trans (Le.vars [true, true, true, true, true, true, true, true, true, false, false, false, false, false, false, false, false, false, false, false, false, false, false, false, false, false, false, false, false, false, false, false, false, false, false, false, false, false, false]), D2, _, _, _, _, _, rfl, I2⟩
  · rintro σ hz0
    refine e6_2 hz0 ?_
    clear hz0
    rintro D ds ords ov ah ps rfl I
    rw [upto_len] at I
    have := inv_bound a1 a2 a3 a4 hP I.inv
    omega
end
noncomputable def aft (ah : Nat → Bool) (s0 : Nat) (b : Bool) : Nat → Nat
  | 0 => 0
  | j + 1 => aft ah s0 b j + if ah j = true ∧ decide (j < s0) = b then 1 else 0
theorem aft_sum0 (ah : Nat → Bool) (s0 : Nat) : ∀ n, ((aft ah s0 true n : Nat) : Int) = sumTo (fun j => if ah j then onS0 s0 j else 0) n
  | 0 => rfl
  | n + 1 => by
    rw [aft, sumTo, ← aft_sum0 ah s0 n]
    unfold onS0
    by_cases h : n < s0 <;> cases ah n <;> simp [h]
theorem aft_sum1 (ah : Nat → Bool) (s0 : Nat) : ∀ n, ((aft ah s0 false n : Nat) : Int) = sumTo (fun j => if ah j then onS1 s0 j else 0) n
  | 0 => rfl
  | n + 1 => by
    rw [aft, sumTo, ← aft_sum1 ah s0 n]
    unfold onS1
    by_cases h : n < s0 <;> cases ah n <;> simp [h]
theorem pre_all {s0 s1 j : Nat} (h : j < s0 + s1) : pre s0 s0 s1 j = true := by
  unfold pre
  split
  · exact decide_eq_true (by assumption)
  · exact decide_eq_true (by lia)
theorem on_back {p n s0 j : Nat} (hp : p + n ≤ 32) (hj : j < n) : (wayOf p n s0 true j).1 ≠ (wayOf p n s0 false j).1 := by
  intro e
  have h1 := rows_goal (p := p) (s0 := s0) (ah := fun _ => true) hj
  have h2 := rows_goal (p := p) (s0 := s0) (ah := fun _ => false) hj
  have e' : (wayOf p n s0 ((fun _ => true) j) j).1 = (wayOf p n s0 ((fun _ => false) j) j).1 := e
  rw [e'] at h1
  have := nodup_idx (rowsL_nd hp) h1 h2
  unfold goalOf at this
  rw [if_pos rfl, if_neg Bool.false_ne_true] at this
  split at this <;> lia
theorem test_ah {p n s0 j : Nat} {b : Bool} (hp : p + n ≤ 32) (hj : j < n) : ((wayOf p n s0 b j).1 == (wayOf p n s0 true j).1) = b := by
  cases b with
  | true => exact beq_self_eq_true _
  | false => exact beq_eq_false_iff_ne.mpr fun z => on_back hp hj z.symm
section
variable {prog : Program} {w : World} {B : HF} {mg mb : Str → Option Value}
theorem segB1 (T : TopOk B mg mb) {A : Around} {fit : Fit A 13} {pm : Value} {L : Addr} {PF : AF → S → Prop} {xs cs : List Int} {sts ds ords : List Nat} {s0 s1 b0 b1 p i ov : Nat} {x dx l D O : Addr} {ox od : Obj} {ps : List (Str × Str)} (a1 : 1 ≤ s0) (a2 : s0 ≤ 3) (a4 : s1 ≤ 3)
    (h : ∀ (Af : Addr) (c0 c1 : Nat), c0 = 0 → c1 = 0 → Xs (LK prog w B T A fit pm L) (lawB 18) (⟨(some (.lst (xs.map AV.int)) :: some (.tup [.int (s0 : Int), .int (s1 : Int)]) :: some (.int (s0 : Int)) :: some (.tup [.int (b0 : Int), .int (b1 : Int)]) :: none :: some (.raw (.ref l)) :: some (.raw (.ref x)) :: some (.lst (sT (rowsL p (s0 + s1)))) :: some (.int (ov : Int)) :: some (.int (i : Int)) :: some (.lst []) :: none :: none :: none :: none :: none :: none :: none :: none :: none :: none :: none :: none :: some (.lst (postsOf (nmL p (s0 + s1)) s0 s0 s1)) :: some (.raw (.ref Af)) :: none :: none :: none :: none :: none :: none :: none :: none :: none :: none :: none :: none :: none :: none :: []), (none :: none :: some (.raw (.ref O)) :: some (.raw (.ref D)) :: some (.lst (postsOf (nmL p (s0 + s1)) s0 b0 b1)) :: some (.lst (sN sts)) :: some (.lst (sT (nmL p (s0 + s1)))) :: some (.int (p : Int)) :: some (.int ((s0 + s1 : Nat) : Int)) :: some (.lst (cs.map AV.int)) :: []), ((Af, .list [.int (c0 : Int), .int (c1 : Int)]) :: ((D, .list (sN ds)) :: (O, .list (sN ords)) :: (x, .ob ox) :: (dx, .ob od) :: (l, .list (ps.map pairT)) :: [(54, tab6), (61, tab7)]))⟩ : S) PF) :
    Xs (LK prog w B T A fit pm L) (lawB 15) (⟨(some (.lst (xs.map AV.int)) :: some (.tup [.int (s0 : Int), .int (s1 : Int)]) :: some (.int (s0 : Int)) :: some (.tup [.int (b0 : Int), .int (b1 : Int)]) :: none :: some (.raw (.ref l)) :: some (.raw (.ref x)) :: some (.lst (sT (rowsL p (s0 + s1)))) :: some (.int (ov : Int)) :: some (.int (i : Int)) :: some (.lst []) :: none :: none :: none :: none :: none :: none :: none :: none :: none :: none :: none :: none :: none :: none :: none :: none :: none :: none :: none :: none :: none :: none :: none :: none :: none :: none :: none :: none :: []), (none :: none :: some (.raw (.ref O)) :: some (.raw (.ref D)) :: some (.lst (postsOf (nmL p (s0 + s1)) s0 b0 b1)) :: some (.lst (sN sts)) :: some (.lst (sT (nmL p (s0 + s1)))) :: some (.int (p : Int)) :: some (.int ((s0 + s1 : Nat) : Int)) :: some (.lst (cs.map AV.int)) :: []), ((D, .list (sN ds)) :: (O, .list (sN ords)) :: (x, .ob ox) :: (dx, .ob od) :: (l, .list (ps.map pairT)) :: [(54, tab6), (61, tab7)])⟩ : S) PF := by
  refine e2_3 T.f274 ?_
  rintro o274 pm274 ho274 hd274 _
  refine xs_cons ?_
  repeat tb_start
  refine ev_listF ?_
  repeat tb_start
  refine ⟨by rw [sizeLine_eq]; exact Nat.le_of_ble_eq_true rfl, ?_⟩
  refine cmp_ned (Has.self rfl) (Has.self rfl) rfl rfl (by decide) fun c hc => ?_
  tb_start
  refine ite_f (by
    cases c with
    | false => rfl
    | true => exact absurd rfl (hc.mp rfl)) ?_
  refine xs_nil ?_
  refine then_next ?_
  refine xs_cons ?_
  refine x_assign ?_ rfl
  refine ev_freeze ?_
  refine ev_callF (a := 274) ho274 hd274 ?_ rfl
  repeat tb_start
  refine Con.callK ((con_posts T (by rw [nmL_len]; lia) (by rw [nmL_len]; lia) (by lia) (.inl rfl)).mono ?_) (Nat.le_of_ble_eq_true rfl)
  refine q1_2 ?_
  intro a
  refine i3_3 a _ _ rfl rfl ?_
  tb_start
  refine then_next ?_
  refine xs_cons ?_
  refine x_assign ?_ rfl
  refine ev_list ?_
  repeat tb_start
  refine ⟨by rw [sizeLine_eq]; exact Nat.le_of_ble_eq_true rfl, fun Af => ?_⟩
  tb_start
  refine then_next ?_
  exact h Af 0 0 rfl rfl
theorem segB2 (T : TopOk B mg mb) (P : Pats B) (C : ClsOk B) {A : Around} {fit : Fit A 13} {pm : Value} {L : Addr} {PF : AF → S → Prop} {xs cs : List Int} {sts ds ords : List Nat} {s0 s1 b0 b1 p i ov : Nat} {x dx l D O : Addr} {ox od : Obj} {ps : List (Str × Str)} {ah : Nat → Bool} {P0 S0 S1 N0 : Int} {Af : Addr} {c0 c1 : Nat} (io : InsOk x dx l ox od) (hc0 : c0 = 0) (hc1 : c1 = 0) (a1 : 1 ≤ s0) (a2 : s0 ≤ 3) (a3 : 1 ≤ s1) (a4 : s1 ≤ 3) (hp : p ≤ 26)
    (I : LInv s0 s1 p P0 S0 S1 N0 i ds ords ov ah ps)
    (h : ∀ (j : Nat) (oj : Option AV), j = s0 + s1 → Xs (LK prog w B T A fit pm L) (lawB 19) (⟨(some (.lst (xs.map AV.int)) :: some (.tup [.int (s0 : Int), .int (s1 : Int)]) :: some (.int (s0 : Int)) :: some (.tup [.int (b0 : Int), .int (b1 : Int)]) :: oj :: some (.raw (.ref l)) :: some (.raw (.ref x)) :: some (.lst (sT (rowsL p (s0 + s1)))) :: some (.int (ov : Int)) :: some (.int (i : Int)) :: some (.lst []) :: none :: none :: none :: none :: none :: none :: none :: none :: none :: none :: none :: none :: some (.lst (postsOf (nmL p (s0 + s1)) s0 s0 s1)) :: some (.raw (.ref Af)) :: none :: none :: none :: none :: none :: none :: none :: none :: none :: none :: none :: none :: none :: none :: []), (none :: none :: some (.raw (.ref O)) :: some (.raw (.ref D)) :: some (.lst (postsOf (nmL p (s0 + s1)) s0 b0 b1)) :: some (.lst (sN sts)) :: some (.lst (sT (nmL p (s0 + s1)))) :: some (.int (p : Int)) :: some (.int ((s0 + s1 : Nat) : Int)) :: some (.lst (cs.map AV.int)) :: []), ((Af, .list [.int ((aft ah s0 true j : Nat) : Int), .int ((aft ah s0 false j : Nat) : Int)]) :: ((D, .list (sN ds)) :: (O, .list (sN ords)) :: (x, .ob ox) :: (dx, .ob od) :: (l, .list (ps.map pairT)) :: [(54, tab6), (61, tab7)]))⟩ : S) PF) :
    Xs (LK prog w B T A fit pm L) (lawB 18) (⟨(some (.lst (xs.map AV.int)) :: some (.tup [.int (s0 : Int), .int (s1 : Int)]) :: some (.int (s0 : Int)) :: some (.tup [.int (b0 : Int), .int (b1 : Int)]) :: none :: some (.raw (.ref l)) :: some (.raw (.ref x)) :: some (.lst (sT (rowsL p (s0 + s1)))) :: some (.int (ov : Int)) :: some (.int (i : Int)) :: some (.lst []) :: none :: none :: none :: none :: none :: none :: none :: none :: none :: none :: none :: none :: some (.lst (postsOf (nmL p (s0 + s1)) s0 s0 s1)) :: some (.raw (.ref Af)) :: none :: none :: none :: none :: none :: none :: none :: none :: none :: none :: none :: none :: none :: none :: []), (none :: none :: some (.raw (.ref O)) :: some (.raw (.ref D)) :: some (.lst (postsOf (nmL p (s0 + s1)) s0 b0 b1)) :: some (.lst (sN sts)) :: some (.lst (sT (nmL p (s0 + s1)))) :: some (.int (p : Int)) :: some (.int ((s0 + s1 : Nat) : Int)) :: some (.lst (cs.map AV.int)) :: []), ((Af, .list [.int (c0 : Int), .int (c1 : Int)]) :: ((D, .list (sN ds)) :: (O, .list (sN ords)) :: (x, .ob ox) :: (dx, .ob od) :: (l, .list (ps.map pairT)) :: [(54, tab6), (61, tab7)]))⟩ : S) PF := by
  have hpn : p + (s0 + s1) ≤ 32 := by lia
  subst hc0 hc1
  refine xs_cons ?_
  refine x_for ?_
  refine ev_callT (T := "range") ?_
  repeat tb_start
  refine c_range (n := ((s0 + s1 : Nat) : Int)) fun t1 t2 t3 => ?_
  let JJ : Nat → S → Prop := fun j σ => ∃ (oj : Option AV), σ = (⟨(some (.lst (xs.map AV.int)) :: some (.tup [.int (s0 : Int), .int (s1 : Int)]) :: some (.int (s0 : Int)) :: some (.tup [.int (b0 : Int), .int (b1 : Int)]) :: oj :: some (.raw (.ref l)) :: some (.raw (.ref x)) :: some (.lst (sT (rowsL p (s0 + s1)))) :: some (.int (ov : Int)) :: some (.int (i : Int)) :: some (.lst []) :: none :: none :: none :: none :: none :: none :: none :: none :: none :: none :: none :: none :: some (.lst (postsOf (nmL p (s0 + s1)) s0 s0 s1)) :: some (.raw (.ref Af)) :: none :: none :: none :: none :: none :: none :: none :: none :: none :: none :: none :: none :: none :: none :: []), (none :: none :: some (.raw (.ref O)) :: some (.raw (.ref D)) :: some (.lst (postsOf (nmL p (s0 + s1)) s0 b0 b1)) :: some (.lst (sN sts)) :: some (.lst (sT (nmL p (s0 + s1)))) :: some (.int (p : Int)) :: some (.int ((s0 + s1 : Nat) : Int)) :: some (.lst (cs.map AV.int)) :: []), ((Af, .list [.int ((aft ah s0 true j : Nat) : Int), .int ((aft ah s0 false j : Nat) : Int)]) :: ((D, .list (sN ds)) :: (O, .list (sN ords)) :: (x, .ob ox) :: (dx, .ob od) :: (l, .list (ps.map pairT)) :: [(54, tab6), (61, tab7)]))⟩ : S)
  refine ⟨_, _, walk_range (by lia), JJ, fun _ _ _ => True.intro, ⟨none, rfl⟩, ?_, ?_⟩
  · rintro j v σ hv hz0
    refine e1_1 hz0 ?_
    clear hz0
    rintro oj rfl
    refine e0_2 (upto_get hv) ?_
    rintro hj rfl
    refine e0_5 (words_ok (p + j) (by lia)) ?_
    rintro k1 k2 k3 k4 k5
    refine asg_name ?_
    tb_start
    refine xs_cons ?_
    repeat tb_start
    refine ev_imeth C 196 rfl C.m196.isFn lk_get (by decide) ?_ ⟨rfl, rfl, rfl⟩
    repeat tb_start
    refine ⟨x, l, rfl, HdrAt.mu (i := 3) (j := 4) io rfl rfl, ?_⟩
    repeat tb_start
    refine m_swapcase ?_ ⟨rfl, rfl, rfl⟩
    repeat tb_start
    refine s_lst (by lia) (by lia) (sT_at (nmL_get hj)) ?_
    refine ⟨hasT_str, ?_⟩
    repeat tb_start
    refine c_swapcase (not_long_ok k3) ?_
    repeat tb_start
    refine Con.callW (m := 2) ((con_get T P C (ps := ps) io (by rw [lower_swap _ (by lia)]; exact plain_ok k2) (I.hok hpn) (i := 3) (j := 4) (k := 5) rfl rfl rfl).mono ?_) (Nat.le_of_ble_eq_true rfl)
    rintro v m hz0
    refine e0_2 hz0 ?_
    clear hz0
    rintro hv rfl
    rw [lower_swap _ (by lia), ← List.head?_filter, I.tab, tab_get hpn hj I.mem I.nd] at hv
    obtain rfl : v = .str (wayOf p (s0 + s1) s0 (ah j) j).1 := hv
    repeat tb_start
    refine s_lst (by lia) (by lia) (posts_at (by rw [nmL_len]; exact hj)) ?_
    repeat tb_start
    refine s_tup (j := 0) (v := .str (wayOf p (s0 + s1) s0 true j).1) rfl (by rw [← pre_all (s0 := s0) (s1 := s1) hj]; rfl) ?_
    repeat tb_start
    refine rwl (test_ah hpn hj) ?_
    refine ite_both (fun hc => ?_) fun hc => ?_
    · refine xs_cons ?_
      repeat tb_start
      refine ev_ifexp ?_
      repeat tb_start
      refine ite_both (fun hz => ?_) fun hz => ?_
      · have hz' : j < s0 := by have := of_decide_eq_true hz; lia
        repeat tb_start
        refine g_mu 0 rfl (by decide) (by decide) rfl ?_
        repeat tb_start
        refine set_mu 0 rfl (by decide) (by decide) (by show (0 : Int) < ((2 : Nat) : Int); decide) ?_
        refine then_next ?_
        refine xs_nil ?_
        refine then_next ?_
        refine xs_nil ?_
        refine turn_next ?_
        refine ⟨_, Le.refl _, some (.int (j : Int)), ?_⟩
        refine rwl (show aft ah s0 true (j + 1) = aft ah s0 true j + 1 from by rw [aft, if_pos ⟨hc, decide_eq_true hz'⟩]) ?_
        refine rwl (show aft ah s0 false (j + 1) = aft ah s0 false j from by rw [aft, if_neg (fun z => by rw [decide_eq_true hz'] at z; cases z.2), Nat.add_zero]) ?_
        rfl
      · have hz' : ¬ j < s0 := by have := of_decide_eq_false hz; lia
        repeat tb_start
        refine g_mu 0 rfl (by decide) (by decide) rfl ?_
        repeat tb_start
        refine set_mu 0 rfl (by decide) (by decide) (by show (1 : Int) < ((2 : Nat) : Int); decide) ?_
        refine then_next ?_
        refine xs_nil ?_
        refine then_next ?_
        refine xs_nil ?_
        refine turn_next ?_
        refine ⟨_, Le.refl _, some (.int (j : Int)), ?_⟩
        refine rwl (show aft ah s0 false (j + 1) = aft ah s0 false j + 1 from by rw [aft, if_pos ⟨hc, decide_eq_false hz'⟩]) ?_
        refine rwl (show aft ah s0 true (j + 1) = aft ah s0 true j from by rw [aft, if_neg (fun z => by rw [decide_eq_false hz'] at z; cases z.2), Nat.add_zero]) ?_
        rfl
    · refine xs_nil ?_
      refine then_next ?_
      refine xs_nil ?_
      refine turn_next ?_
      refine ⟨_, Le.refl _, some (.int (j : Int)), ?_⟩
      rw [show ∀ b, aft ah s0 b (j + 1) = aft ah s0 b j from fun b => by rw [aft, if_neg (fun z => by rw [hc] at z; cases z.1), Nat.add_zero]]
      rw [show aft ah s0 false (j + 1) = aft ah s0 false j from by rw [aft, if_neg (fun z => by rw [hc] at z; cases z.1), Nat.add_zero]]
      rfl
  · rintro σ hz0
    refine e1_1 hz0 ?_
    clear hz0
    rintro oj rfl
    refine xs_nil ?_
    refine then_next ?_
    exact h _ oj (upto_len _)
theorem segB3 (T : TopOk B mg mb) {A : Around} {fit : Fit A 13} {pm : Value} {L : Addr} {PF : AF → S → Prop} {xs cs : List Int} {sts ds ords : List Nat} {s0 s1 b0 b1 p i ov : Nat} {x dx l D O : Addr} {ox od : Obj} {ps : List (Str × Str)} {ah : Nat → Bool} {Af : Addr} {j e0 e1 : Nat} {oj : Option AV} (he0 : aft ah s0 true j = e0) (he1 : aft ah s0 false j = e1) (a1 : 1 ≤ s0) (a2 : s0 ≤ 3) (a4 : s1 ≤ 3)
    (h : Xs (LK prog w B T A fit pm L) (lawB 20) (⟨(some (.lst (xs.map AV.int)) :: some (.tup [.int (s0 : Int), .int (s1 : Int)]) :: some (.int (s0 : Int)) :: some (.tup [.int (b0 : Int), .int (b1 : Int)]) :: none :: some (.raw (.ref l)) :: some (.raw (.ref x)) :: some (.lst (sT (rowsL p (s0 + s1)))) :: some (.int (ov : Int)) :: some (.int (i : Int)) :: some (.lst []) :: none :: none :: none :: none :: none :: none :: none :: none :: none :: none :: none :: none :: some (.lst (postsOf (nmL p (s0 + s1)) s0 s0 s1)) :: some (.lst [.int (e0 : Int), .int (e1 : Int)]) :: none :: none :: none :: none :: none :: none :: none :: none :: none :: none :: none :: none :: none :: none :: []), (none :: some (.lst (postsOf (nmL p (s0 + s1)) s0 e0 e1)) :: some (.raw (.ref O)) :: some (.raw (.ref D)) :: some (.lst (postsOf (nmL p (s0 + s1)) s0 b0 b1)) :: some (.lst (sN sts)) :: some (.lst (sT (nmL p (s0 + s1)))) :: some (.int (p : Int)) :: some (.int ((s0 + s1 : Nat) : Int)) :: some (.lst (cs.map AV.int)) :: []), ((D, .list (sN ds)) :: (O, .list (sN ords)) :: (x, .ob ox) :: (dx, .ob od) :: (l, .list (ps.map pairT)) :: [(54, tab6), (61, tab7)])⟩ : S) PF) :
    Xs (LK prog w B T A fit pm L) (lawB 19) (⟨(some (.lst (xs.map AV.int)) :: some (.tup [.int (s0 : Int), .int (s1 : Int)]) :: some (.int (s0 : Int)) :: some (.tup [.int (b0 : Int), .int (b1 : Int)]) :: oj :: some (.raw (.ref l)) :: some (.raw (.ref x)) :: some (.lst (sT (rowsL p (s0 + s1)))) :: some (.int (ov : Int)) :: some (.int (i : Int)) :: some (.lst []) :: none :: none :: none :: none :: none :: none :: none :: none :: none :: none :: none :: none :: some (.lst (postsOf (nmL p (s0 + s1)) s0 s0 s1)) :: some (.raw (.ref Af)) :: none :: none :: none :: none :: none :: none :: none :: none :: none :: none :: none :: none :: none :: none :: []), (none :: none :: some (.raw (.ref O)) :: some (.raw (.ref D)) :: some (.lst (postsOf (nmL p (s0 + s1)) s0 b0 b1)) :: some (.lst (sN sts)) :: some (.lst (sT (nmL p (s0 + s1)))) :: some (.int (p : Int)) :: some (.int ((s0 + s1 : Nat) : Int)) :: some (.lst (cs.map AV.int)) :: []), ((Af, .list [.int ((aft ah s0 true j : Nat) : Int), .int ((aft ah s0 false j : Nat) : Int)]) :: ((D, .list (sN ds)) :: (O, .list (sN ords)) :: (x, .ob ox) :: (dx, .ob od) :: (l, .list (ps.map pairT)) :: [(54, tab6), (61, tab7)]))⟩ : S) PF := by
  refine e2_3 T.f274 ?_
  rintro o274 pm274 ho274 hd274 _
  subst he0 he1
  refine Tri.le ((Le.settleV (i := 24) (j := 0) rfl rfl).trans (Le.vars [true, true, true, true, false, true, true, true, true, true, true, true, true, true, true, true, true, true, true, true, true, true, true, true, true, true, true, true, true, true, true, true, true, true, true, true, true, true, true])) ?_
  refine xs_cons ?_
  refine x_assign ?_ rfl
  refine ev_freeze ?_
  refine ev_callF (a := 274) ho274 hd274 ?_ rfl
  repeat tb_start
  refine Con.callK ((con_posts T (by rw [nmL_len]; lia) (by rw [nmL_len]; lia) (by lia) (.inr rfl)).mono ?_) (Nat.le_of_ble_eq_true rfl)
  refine q1_2 ?_
  intro a
  refine i3_3 a _ _ rfl rfl ?_
  tb_start
  refine then_next ?_
  exact h
end
theorem stillL_succ (ords : List Nat) (j : Nat) : stillL ords (j + 1) = stillL ords j ++ if ords.contains j = true then [] else [j] := by
  unfold stillL
  refine rwl List.range_succ ?_
  refine rwl (List.filter_append _ _) ?_
  refine rwl List.filter_cons ?_
  cases ords.contains j <;> rfl
theorem stillL_len (ords : List Nat) (n : Nat) : (stillL ords n).length ≤ n := by
  have := List.length_filter_le (fun j => !ords.contains j) (List.range n)
  rw [List.length_range] at this
  exact this
noncomputable def tbT (p : Nat) (f : Nat → Str × Str) (js : List Nat) : Nat → List (Str × Str)
  | 0 => []
  | k + 1 => tbT p f js k ++ tabS p f k js
theorem tabS_len (p : Nat) (f : Nat → Str × Str) (k : Nat) (js : List Nat) : (tabS p f k js).length = js.length := List.length_map _
theorem tbT_len (p : Nat) (f : Nat → Str × Str) (js : List Nat) : ∀ k, (tbT p f js k).length = k * js.length
  | 0 => by rw [Nat.zero_mul]; rfl
  | k + 1 => by unfold tbT; rw [List.length_append, tbT_len p f js k, tabS_len, Nat.add_mul, Nat.one_mul]
theorem sN_inv {l : List Nat} {k : Nat} {v : AV} (h : (sN l)[k]? = some v) : ∃ j, l[k]? = some j ∧ v = .int (j : Int) := by
  unfold sN at h
  rw [List.getElem?_map] at h
  cases e : l[k]? with
  | none => rw [e] at h; cases h
  | some j => rw [e] at h; exact ⟨j, rfl, (Option.some.inj h).symm⟩
theorem take_more {α : Type} {l : List α} {k : Nat} {j : α} (e : l[k]? = some j) : l.take (k + 1) = l.take k ++ [j] := by rw [List.take_add_one, e]; rfl
section
variable {prog : Program} {w : World} {B : HF} {mg mb : Str → Option Value}
theorem segB4 (T : TopOk B mg mb) {A : Around} {fit : Fit A 13} {pm : Value} {L : Addr} {PF : AF → S → Prop} {xs cs : List Int} {sts ds ords : List Nat} {s0 s1 b0 b1 p i ov : Nat} {x dx l D O : Addr} {ox od : Obj} {ps : List (Str × Str)} {e0 e1 : Nat} {Af : Addr} (a2 : s0 ≤ 3) (a4 : s1 ≤ 3)
    (h : Xs (LK prog w B T A fit pm L) (lawB 21) (⟨(some (.lst (xs.map AV.int)) :: some (.tup [.int (s0 : Int), .int (s1 : Int)]) :: some (.int (s0 : Int)) :: some (.tup [.int (b0 : Int), .int (b1 : Int)]) :: none :: some (.raw (.ref l)) :: some (.raw (.ref x)) :: some (.lst (sT (rowsL p (s0 + s1)))) :: some (.int (ov : Int)) :: some (.int (i : Int)) :: some (.lst []) :: none :: none :: none :: none :: none :: none :: none :: none :: none :: none :: none :: none :: some (.lst (postsOf (nmL p (s0 + s1)) s0 s0 s1)) :: some (.lst [.int (e0 : Int), .int (e1 : Int)]) :: none :: none :: none :: none :: none :: none :: none :: none :: none :: none :: none :: none :: none :: none :: []), (some (.lst (sN (stillL ords (s0 + s1)))) :: some (.lst (postsOf (nmL p (s0 + s1)) s0 e0 e1)) :: some (.raw (.ref O)) :: some (.raw (.ref D)) :: some (.lst (postsOf (nmL p (s0 + s1)) s0 b0 b1)) :: some (.lst (sN sts)) :: some (.lst (sT (nmL p (s0 + s1)))) :: some (.int (p : Int)) :: some (.int ((s0 + s1 : Nat) : Int)) :: some (.lst (cs.map AV.int)) :: []), ((D, .list (sN ds)) :: (O, .list (sN ords)) :: (x, .ob ox) :: (dx, .ob od) :: (l, .list (ps.map pairT)) :: [(54, tab6), (61, tab7)])⟩ : S) PF) :
    Xs (LK prog w B T A fit pm L) (lawB 20) (⟨(some (.lst (xs.map AV.int)) :: some (.tup [.int (s0 : Int), .int (s1 : Int)]) :: some (.int (s0 : Int)) :: some (.tup [.int (b0 : Int), .int (b1 : Int)]) :: none :: some (.raw (.ref l)) :: some (.raw (.ref x)) :: some (.lst (sT (rowsL p (s0 + s1)))) :: some (.int (ov : Int)) :: some (.int (i : Int)) :: some (.lst []) :: none :: none :: none :: none :: none :: none :: none :: none :: none :: none :: none :: none :: some (.lst (postsOf (nmL p (s0 + s1)) s0 s0 s1)) :: some (.lst [.int (e0 : Int), .int (e1 : Int)]) :: none :: none :: none :: none :: none :: none :: none :: none :: none :: none :: none :: none :: none :: none :: []), (none :: some (.lst (postsOf (nmL p (s0 + s1)) s0 e0 e1)) :: some (.raw (.ref O)) :: some (.raw (.ref D)) :: some (.lst (postsOf (nmL p (s0 + s1)) s0 b0 b1)) :: some (.lst (sN sts)) :: some (.lst (sT (nmL p (s0 + s1)))) :: some (.int (p : Int)) :: some (.int ((s0 + s1 : Nat) : Int)) :: some (.lst (cs.map AV.int)) :: []), ((D, .list (sN ds)) :: (O, .list (sN ords)) :: (x, .ob ox) :: (dx, .ob od) :: (l, .list (ps.map pairT)) :: [(54, tab6), (61, tab7)])⟩ : S) PF := by
  refine xs_cons ?_
  refine x_assign ?_ rfl
  refine ev_freeze ?_
  refine ev_comp [("order", L + 8)] ?_ (fun _ => rfl) rfl rfl (by decide +kernel)
  refine ev_callT (T := "range") ?_
  repeat tb_start
  refine c_range (n := ((s0 + s1 : Nat) : Int)) fun t1 t2 t3 => ?_
  let JJ : List AV → Prop := fun out => out = sN (stillL ords (upto (s0 + s1)).length)
  refine ⟨JJ, ⟨⟨_, _, ["j"], [("order", .raw (.ref O))], ⟨rfl, by decide +kernel, by decide +kernel, by decide +kernel, by decide, by simp; decide +kernel⟩, walk_range (by lia), ⟨⟨2, _, rfl, rfl, rfl⟩, True.intro⟩, fun D' Cc => ?_⟩⟩, ?_⟩
  · refine loop1if (J := fun i out => out = sN (stillL ords i)) (fun _ => True.intro) rfl ?_
    rintro j v out hv rfl
    obtain ⟨hj, rfl⟩ := upto_get hv
    repeat tb_start
    refine cmp_notin (mu_sN (i := 2) rfl) ?_
    refine rwl (contains_nat _ _) ?_
    tb_start
    refine ite_both (fun hc => ?_) fun hc => ?_
    · repeat tb_start
      refine ⟨_, rfl, small_len (by rw [sN_len]; have := stillL_len ords j; lia), _, Le.vars [false], ?_⟩
      refine rwl (stillL_succ _ _) ?_
      refine rwl (if_neg (by intro z; rw [z] at hc; cases hc)) ?_
      refine rwl (sN_app _ _) ?_
      rfl
    · refine ⟨_, Le.vars [false], ?_⟩
      rw [stillL_succ, if_pos (by simpa using hc), List.append_nil]
  · rintro D' out rfl
    refine i3_3 D' _ _ rfl rfl ?_
    refine rwl (upto_len _) ?_
    tb_start
    refine then_next ?_
    exact h
theorem segB5 (T : TopOk B mg mb) {A : Around} {fit : Fit A 13} {pm : Value} {L : Addr} {PF : AF → S → Prop} {xs cs : List Int} {sts ds ords : List Nat} {s0 s1 b0 b1 p i ov : Nat} {x dx l D O : Addr} {ox od : Obj} {ps : List (Str × Str)} {e0 e1 : Nat} {Af : Addr} (a2 : s0 ≤ 3) (a4 : s1 ≤ 3) (ho : ∀ j ∈ ords, j < s0 + s1) (hol : ords.length ≤ s0 + s1)
    (hps : tabOf p (postOf (nmL p (s0 + s1)) s0 e0 e1) ords (s0 + s1) = ps)
    (h : Xs (LK prog w B T A fit pm L) (lawB 22) (⟨(some (.lst (xs.map AV.int)) :: some (.tup [.int (s0 : Int), .int (s1 : Int)]) :: some (.int (s0 : Int)) :: some (.tup [.int (b0 : Int), .int (b1 : Int)]) :: none :: some (.raw (.ref l)) :: some (.raw (.ref x)) :: some (.lst (sT (rowsL p (s0 + s1)))) :: some (.int (ov : Int)) :: some (.int (i : Int)) :: some (.lst []) :: none :: none :: none :: none :: none :: none :: none :: none :: none :: none :: none :: none :: some (.lst (postsOf (nmL p (s0 + s1)) s0 s0 s1)) :: some (.lst [.int (e0 : Int), .int (e1 : Int)]) :: some (.lst (ps.map pairT)) :: none :: none :: none :: none :: none :: none :: none :: none :: none :: none :: none :: none :: none :: []), (some (.lst (sN (stillL ords (s0 + s1)))) :: some (.lst (postsOf (nmL p (s0 + s1)) s0 e0 e1)) :: some (.raw (.ref O)) :: some (.raw (.ref D)) :: some (.lst (postsOf (nmL p (s0 + s1)) s0 b0 b1)) :: some (.lst (sN sts)) :: some (.lst (sT (nmL p (s0 + s1)))) :: some (.int (p : Int)) :: some (.int ((s0 + s1 : Nat) : Int)) :: some (.lst (cs.map AV.int)) :: []), ((D, .list (sN ds)) :: (O, .list (sN ords)) :: (x, .ob ox) :: (dx, .ob od) :: (l, .list (ps.map pairT)) :: [(54, tab6), (61, tab7)])⟩ : S) PF) :
    Xs (LK prog w B T A fit pm L) (lawB 21) (⟨(some (.lst (xs.map AV.int)) :: some (.tup [.int (s0 : Int), .int (s1 : Int)]) :: some (.int (s0 : Int)) :: some (.tup [.int (b0 : Int), .int (b1 : Int)]) :: none :: some (.raw (.ref l)) :: some (.raw (.ref x)) :: some (.lst (sT (rowsL p (s0 + s1)))) :: some (.int (ov : Int)) :: some (.int (i : Int)) :: some (.lst []) :: none :: none :: none :: none :: none :: none :: none :: none :: none :: none :: none :: none :: some (.lst (postsOf (nmL p (s0 + s1)) s0 s0 s1)) :: some (.lst [.int (e0 : Int), .int (e1 : Int)]) :: none :: none :: none :: none :: none :: none :: none :: none :: none :: none :: none :: none :: none :: none :: []), (some (.lst (sN (stillL ords (s0 + s1)))) :: some (.lst (postsOf (nmL p (s0 + s1)) s0 e0 e1)) :: some (.raw (.ref O)) :: some (.raw (.ref D)) :: some (.lst (postsOf (nmL p (s0 + s1)) s0 b0 b1)) :: some (.lst (sN sts)) :: some (.lst (sT (nmL p (s0 + s1)))) :: some (.int (p : Int)) :: some (.int ((s0 + s1 : Nat) : Int)) :: some (.lst (cs.map AV.int)) :: []), ((D, .list (sN ds)) :: (O, .list (sN ords)) :: (x, .ob ox) :: (dx, .ob od) :: (l, .list (ps.map pairT)) :: [(54, tab6), (61, tab7)])⟩ : S) PF := by
  obtain ⟨js, hjs⟩ : ∃ js, js = stillL ords (s0 + s1) := ⟨_, rfl⟩
  obtain ⟨f, hf⟩ : ∃ f, f = postOf (nmL p (s0 + s1)) s0 e0 e1 := ⟨_, rfl⟩
  have hjm : ∀ j ∈ js, j < s0 + s1 := fun j hj => by rw [hjs] at hj; exact (still_mem.mp hj).1
  have hjl : js.length ≤ s0 + s1 := by rw [hjs]; exact stillL_len _ _
  have hat : ∀ j, j < s0 + s1 → (postsOf (nmL p (s0 + s1)) s0 e0 e1)[((j : Int)).toNat]? = some (pairT (f j)) := fun j hj => by rw [hf]; exact posts_at (by rw [nmL_len]; exact hj)
  refine rwr hjs ?_
  refine xs_cons ?_
  refine x_assign ?_ rfl
  refine ev_binop ?_
  refine ev_freeze ?_
  refine ev_comp [("still", L + 10), ("names", L + 4), ("lasting", L + 9)] ?_ (fun _ => rfl) rfl rfl (by decide +kernel)
  refine ev_tuple ?_
  repeat tb_start
  refine ⟨by rw [sizeLine_eq]; exact Nat.le_of_ble_eq_true rfl, ?_⟩
  refine ⟨fun out => out = (tbT p f js 2).map pairT, ⟨⟨_, _, ["k", "j"], [("names", .lst (sT (nmL p (s0 + s1)))), ("lasting", .lst (postsOf (nmL p (s0 + s1)) s0 e0 e1)), ("still", .lst (sN js))], ⟨rfl, by decide +kernel, by decide +kernel, by decide +kernel, by decide, by simp; decide +kernel⟩, walk_tup, ⟨⟨6, _, rfl, rfl, rfl⟩, ⟨1, _, rfl, rfl, rfl⟩, ⟨0, _, rfl, rfl, rfl⟩, True.intro⟩, fun D Cc => ?_⟩⟩, ?_⟩
  · refine loop2 (J := fun i out => out = (tbT p f js i).map pairT) (fun _ => True.intro) rfl ?_ (fun _ => rfl)
    rintro i v out hv rfl
    have hi : i < 2 := by
      have := (List.getElem?_eq_some_iff.mp hv).1
      simpa using this
    obtain rfl : v = .int (i : Int) := by
      match i, hv with
      | 0, e => exact (Option.some.inj e).symm
      | 1, e => exact (Option.some.inj e).symm
    repeat tb_start
    refine i4_4 _ _ _ _ rfl walk_lst (loop2in (J := fun m out => out = (tbT p f js i ++ tabS p f i (js.take m)).map pairT) (fun _ => True.intro) (by show _ = List.map pairT (_ ++ []); rw [List.append_nil]) ?_) ?_
    · rintro m v out hv rfl
      refine e1_2 (sN_inv hv) ?_
      rintro j e rfl
      have hj := hjm j (List.mem_of_getElem? e)
      repeat tb_start
      refine ev_tuple ?_
      repeat tb_start
      refine s_lst (by lia) (by lia) (sT_at (nmL_get hj)) ?_
      repeat tb_start
      refine s_lst (by lia) (by lia) (hat j hj) ?_
      repeat tb_start
      refine s_tup (j := i) (v := .str (selT i (f j))) ?_ ?_ ?_
      · match i, hi with
        | 0, _ => rfl
        | 1, _ => rfl
      · match i, hi with
        | 0, _ => rfl
        | 1, _ => rfl
      repeat tb_start
      refine ⟨by rw [sizeLine_eq]; exact Nat.le_of_ble_eq_true rfl, _, rfl, small_len (by
        refine rwl (List.length_map _) ?_
        refine rwl List.length_append ?_
        refine rwl (tbT_len _ _ _ _) ?_
        refine rwl (tabS_len _ _ _ _) ?_
        refine rwl List.length_take ?_
        have : i * js.length ≤ 1 * 6 := Nat.mul_le_mul (by lia) (by lia)
        lia), _, Le.vars [true, false], ?_⟩
      refine rwl (take_more e) ?_
      unfold tabS
      refine rwl (List.map_append (l₂ := [j])) ?_
      refine rwr (List.append_assoc _ _ _) ?_
      exact (List.map_append (f := pairT) (l₁ := tbT p f js i ++ List.map (fun j => (wd (p + j), selT i (f j))) (List.take m js)) (l₂ := [(wd (p + j), selT i (f j))])).symm
    · rintro out1 rfl
      exact ⟨_, Le.vars [false, false], by rw [sN_len, List.take_length]; rfl⟩
  · rintro D out rfl
    refine i3_3 D _ _ rfl rfl ?_
    refine ev_freeze ?_
    refine ev_comp [("names", L + 4), ("lasting", L + 9)] ?_ (fun _ => rfl) rfl rfl (by decide +kernel)
    repeat tb_start
    refine ⟨fun out => out = (tabO p f (ords.take (sN ords).length)).map pairT, ⟨⟨_, _, ["j", "way"], [("names", .lst (sT (nmL p (s0 + s1)))), ("lasting", .lst (postsOf (nmL p (s0 + s1)) s0 e0 e1))], ⟨rfl, by decide +kernel, by decide +kernel, by decide +kernel, by decide, by simp; decide +kernel⟩, walk_mu (List.mem_of_getElem? (i := 1) rfl), ⟨⟨6, _, rfl, rfl, rfl⟩, ⟨1, _, rfl, rfl, rfl⟩, True.intro⟩, fun D Cc => ?_⟩⟩, ?_⟩
    · refine loop2 (J := fun i out => out = (tabO p f (ords.take i)).map pairT) (fun _ => List.mem_cons_of_mem _ (List.mem_of_getElem? (i := 1) rfl)) rfl ?_ (fun _ => rfl)
      rintro i v out hv rfl
      refine e1_2 (sN_inv hv) ?_
      rintro j e rfl
      have hj := ho j (List.mem_of_getElem? e)
      repeat tb_start
      refine s_lst (by lia) (by lia) (hat j hj) ?_
      refine i4_4 _ _ _ _ rfl walk_tup (loop2in (J := fun m out => out = (tabO p f (ords.take i) ++ ([(wd (p + j), (f j).1), (wd (p + j), (f j).2)] : List (Str × Str)).take m).map pairT) (fun _ => True.intro) (by rw [List.take_zero, List.append_nil]) ?_) ?_
      · rintro m v out hv rfl
        have hm : m < 2 := by
          have := (List.getElem?_eq_some_iff.mp hv).1
          simpa using this
        obtain rfl : v = .str (selT m (f j)) := by
          match m, hv with
          | 0, e => exact (Option.some.inj e).symm
          | 1, e => exact (Option.some.inj e).symm
        repeat tb_start
        refine ev_tuple ?_
        repeat tb_start
        refine s_lst (by lia) (by lia) (sT_at (nmL_get hj)) ?_
        repeat tb_start
        refine ⟨by rw [sizeLine_eq]; exact Nat.le_of_ble_eq_true rfl, _, rfl, small_len (by
          refine rwl (List.length_map _) ?_
          refine rwl List.length_append ?_
          refine rwl (tabO_len _) ?_
          refine rwl List.length_take ?_
          refine rwl List.length_take ?_
          show 2 * _ + min m 2 ≤ _
          lia), _, Le.vars [true, false], ?_⟩
        rw [take_more (j := (wd (p + j), selT m (f j))) (by
          match m, hm with
          | 0, _ => rfl
          | 1, _ => rfl), ← List.append_assoc, List.map_append (l₂ := [_])]
        rfl
      · rintro out1 rfl
        refine ⟨_, Le.vars [false, false], ?_⟩
        refine rwl (take_more e) ?_
        refine rwl (tabO_app _ _) ?_
        rfl
    · rintro D' out rfl
      refine i3_3 D' _ _ rfl rfl ?_
      refine rwl (sN_len _) ?_
      refine rwl List.take_length ?_
      refine b_lcat LstAt.lst LstAt.lst (small_len (by
        refine rwl (List.length_map _) ?_
        refine rwl (List.length_map _) ?_
        refine rwl (tbT_len _ _ _ _) ?_
        refine rwl (tabO_len _) ?_
        lia)) ?_
      refine rwr List.map_append ?_
      refine rwl (show tbT p f js 2 ++ tabO p f ords = ps from by rw [← hps]; unfold tabOf; rw [← hjs, ← hf]; rfl) ?_
      refine rwl hjs ?_
      tb_start
      refine then_next ?_
      exact h
end
theorem tab_all {p n : Nat} {f : Nat → Str × Str} {ords : List Nat} (ho : ∀ j ∈ ords, j < n) : ∀ q ∈ tabOf p f ords n, ∃ j, j < n ∧ q.1 = wd (p + j) ∧ (q.2 = (f j).1 ∨ q.2 = (f j).2) := by
  intro q hq
  have hS : ∀ {k : Nat}, q ∈ tabS p f k (stillL ords n) → ∃ j, j < n ∧ q.1 = wd (p + j) ∧ (q.2 = (f j).1 ∨ q.2 = (f j).2) := fun {k} h => by
    refine e1_2 (List.mem_map.mp h) ?_
    rintro j hj rfl
    refine i1_3 j ((still_mem.mp hj).1) rfl ?_
    show selT k (f j) = _ ∨ selT k (f j) = _
    unfold selT
    split
    · exact .inl rfl
    · exact .inr rfl
  have hO : ∀ {js : List Nat}, (∀ j ∈ js, j < n) → q ∈ tabO p f js → ∃ j, j < n ∧ q.1 = wd (p + j) ∧ (q.2 = (f j).1 ∨ q.2 = (f j).2) := by
    intro js
    induction js with
    | nil => intro _ h; cases h
    | cons a r ih =>
      intro hm h
      rw [tabO] at h
      rcases List.mem_cons.mp h with h | h
      · exact i1_3 a (hm a (.head _)) (by rw [h]) (.inl (by rw [h]))
      rcases List.mem_cons.mp h with h | h
      · exact i1_3 a (hm a (.head _)) (by rw [h]) (.inr (by rw [h]))
      exact ih (fun j hj => hm j (.tail _ hj)) h
  unfold tabOf at hq
  rcases List.mem_append.mp hq with hq | hq
  · rcases List.mem_append.mp hq with hq | hq
    · exact hS hq
    · exact hS hq
  · exact hO ho hq
theorem LInv.all_ok {s0 s1 p : Nat} {P0 S0 S1 N0 : Int} {t ov : Nat} {ds ords : List Nat} {ah : Nat → Bool} {ps : List (Str × Str)} (I : LInv s0 s1 p P0 S0 S1 N0 t ds ords ov ah ps) (hp : p + (s0 + s1) ≤ 32) : ∀ q ∈ ps, okWord q.1 = true ∧ okWord q.2 = true := by
  intro q hq
  rw [I.tab] at hq
  refine e1_3 (tab_all I.mem q hq) ?_
  rintro j hj e1 e2
  refine e0_2 (way_ok (p := p) (n := s0 + s1) (s0 := s0) (j := j) (b := ah j) hp) ?_
  rintro q0 q1
  refine ⟨by rw [e1]; exact word_ok hp hj, ?_⟩
  rcases e2 with e | e <;> rw [e]
  · exact q0
  · exact q1
theorem isDs_pairs : ∀ {l : List (Str × Str)}, (∀ q ∈ l, okWord q.1 = true ∧ okWord q.2 = true) → AV.isDs (l.map pairT) = true
  | [], _ => rfl
  | x :: l, h => by
    have h1 := h x (.head _)
    show ((PyData.strOk x.1 && (PyData.strOk x.2 && true)) && AV.isDs (l.map pairT)) = true
    rw [strOk_ok h1.1, strOk_ok h1.2, isDs_pairs fun y hy => h y (.tail _ hy)]; rfl
theorem deeps_pairs : ∀ l : List (Str × Str), AV.deeps (l.map pairT) ≤ 1
  | [] => Nat.zero_le 1
  | x :: l => by
    show max (AV.deeps [AV.str x.1, AV.str x.2] + 1) (AV.deeps (l.map pairT)) ≤ 1
    have h1 := deeps_str [x.1, x.2]
    have := deeps_pairs l
    have h1 : AV.deeps [AV.str x.1, AV.str x.2] = 0 := h1
    refine rwl h1 ?_
    lia
section
variable {K : Cx} {σ : S} {P : AV → S → Prop} {a b : Int}
theorem bits_small {a : Int} (h : a.natAbs < 2 ^ 20) : Builtin.Int.intBits a ≤ 2 ^ 20 := by
  have h1 := nb_le h
  rcases Int.natAbs_eq a with e | e
  · rw [e, nb_int]; lia
  · rw [e, nb_neg]; lia
theorem bin_mulS (ha : a.natAbs < 2 ^ 20) (hb : b.natAbs < 2 ^ 20) (h : P (.int (a * b)) σ) : Bin K .Mult (.int a) (.int b) σ P := bin_mul (mulOkN (bits_small ha) (bits_small hb)) h
end
section
variable {prog : Program} {w : World} {B : HF} {mg mb : Str → Option Value}
theorem segB6 (T : TopOk B mg mb) (P : Pats B) (C : ClsOk B) {A : Around} {fit : Fit A 13} {pm : Value} {L : Addr} {PF : AF → S → Prop} {xs cs : List Int} {sts ds ords : List Nat} {s0 s1 b0 b1 p i ov : Nat} {x dx l D O : Addr} {ox od : Obj} {ps : List (Str × Str)} {e0 e1 : Nat} (io : InsOk x dx l ox od) (hk : HOk ps) (hl : ps.length ≤ 900) (hok : ∀ q ∈ ps, okWord q.1 = true ∧ okWord q.2 = true)
    (h : Xs (LK prog w B T A fit pm L) (lawB 26) (⟨(some (.lst (xs.map AV.int)) :: some (.tup [.int (s0 : Int), .int (s1 : Int)]) :: some (.int (s0 : Int)) :: some (.tup [.int (b0 : Int), .int (b1 : Int)]) :: none :: some (.raw (.ref l)) :: some (.raw (.ref x)) :: some (.lst (sT (rowsL p (s0 + s1)))) :: some (.int (ov : Int)) :: some (.int (i : Int)) :: some (.lst []) :: none :: none :: none :: none :: none :: none :: none :: none :: none :: none :: none :: none :: some (.lst (postsOf (nmL p (s0 + s1)) s0 s0 s1)) :: some (.lst [.int (e0 : Int), .int (e1 : Int)]) :: some (.lst (ps.map pairT)) :: none :: none :: none :: none :: none :: none :: none :: none :: none :: none :: none :: none :: none :: []), (some (.lst (sN (stillL ords (s0 + s1)))) :: some (.lst (postsOf (nmL p (s0 + s1)) s0 e0 e1)) :: some (.raw (.ref O)) :: some (.raw (.ref D)) :: some (.lst (postsOf (nmL p (s0 + s1)) s0 b0 b1)) :: some (.lst (sN sts)) :: some (.lst (sT (nmL p (s0 + s1)))) :: some (.int (p : Int)) :: some (.int ((s0 + s1 : Nat) : Int)) :: some (.lst (cs.map AV.int)) :: []), ((D, .list (sN ds)) :: (O, .list (sN ords)) :: (x, .ob ox) :: (dx, .ob od) :: (l, .list (ps.map pairT)) :: [(54, tab6), (61, tab7)])⟩ : S) PF) :
    Xs (LK prog w B T A fit pm L) (lawB 22) (⟨(some (.lst (xs.map AV.int)) :: some (.tup [.int (s0 : Int), .int (s1 : Int)]) :: some (.int (s0 : Int)) :: some (.tup [.int (b0 : Int), .int (b1 : Int)]) :: none :: some (.raw (.ref l)) :: some (.raw (.ref x)) :: some (.lst (sT (rowsL p (s0 + s1)))) :: some (.int (ov : Int)) :: some (.int (i : Int)) :: some (.lst []) :: none :: none :: none :: none :: none :: none :: none :: none :: none :: none :: none :: none :: some (.lst (postsOf (nmL p (s0 + s1)) s0 s0 s1)) :: some (.lst [.int (e0 : Int), .int (e1 : Int)]) :: some (.lst (ps.map pairT)) :: none :: none :: none :: none :: none :: none :: none :: none :: none :: none :: none :: none :: none :: []), (some (.lst (sN (stillL ords (s0 + s1)))) :: some (.lst (postsOf (nmL p (s0 + s1)) s0 e0 e1)) :: some (.raw (.ref O)) :: some (.raw (.ref D)) :: some (.lst (postsOf (nmL p (s0 + s1)) s0 b0 b1)) :: some (.lst (sN sts)) :: some (.lst (sT (nmL p (s0 + s1)))) :: some (.int (p : Int)) :: some (.int ((s0 + s1 : Nat) : Int)) :: some (.lst (cs.map AV.int)) :: []), ((D, .list (sN ds)) :: (O, .list (sN ords)) :: (x, .ob ox) :: (dx, .ob od) :: (l, .list (ps.map pairT)) :: [(54, tab6), (61, tab7)])⟩ : S) PF := by
  have isd := isDs_pairs hok
  have hdp : (AV.lst (ps.map pairT)).deep ≤ 8 := by
    show AV.deeps (ps.map pairT) + 1 ≤ 8
    have := deeps_pairs ps
    lia
  refine xs_cons ?_
  refine x_assign ?_ rfl
  refine ev_imeth C 213 rfl C.m213.isFn lk_items (by decide) ?_ ⟨rfl, rfl, rfl⟩
  repeat tb_start
  refine i2_3 x l rfl (HdrAt.mu (i := 2) (j := 3) io rfl rfl) ?_
  repeat tb_start
  refine Con.callW (m := 1) ((con_items T P C (ps := ps) io hk (i := 2) (j := 3) (k := 4) rfl rfl rfl).mono ?_) (Nat.le_of_ble_eq_true rfl)
  refine q1_2 ?_
  intro Tl
  tb_start
  refine then_next ?_
  refine xs_cons ?_
  repeat tb_start
  refine cmp_ned (Has.mu (i := 0) rfl isd) (Has.self isd) isd isd hdp fun c hc => ?_
  tb_start
  refine ite_f (by
    cases c with
    | false => rfl
    | true => exact absurd rfl (hc.mp rfl)) ?_
  refine xs_nil ?_
  refine then_next ?_
  refine xs_cons ?_
  refine x_expr ?_ rfl rfl
  refine m_append ?_ ⟨rfl, rfl, rfl⟩
  repeat tb_start
  refine ⟨hasT_mu (List.mem_of_getElem? (i := 0) rfl), ?_⟩
  repeat tb_start
  refine ev_tuple ?_
  repeat tb_start
  refine ⟨by rw [sizeLine_eq]; exact Nat.le_of_ble_eq_true rfl, ?_⟩
  repeat tb_start
  refine c_append 0 rfl (small_len (by rw [List.length_map]; lia)) ?_
  refine then_next ?_
  refine xs_cons ?_
  repeat tb_start
  refine ev_imeth C 213 rfl C.m213.isFn lk_items (by decide) ?_ ⟨rfl, rfl, rfl⟩
  repeat tb_start
  refine i2_3 x l rfl (HdrAt.mu (i := 3) (j := 4) io rfl rfl) ?_
  repeat tb_start
  refine Con.callW (m := 1) ((con_items T P C (ps := ps) io hk (i := 3) (j := 4) (k := 5) rfl rfl rfl).mono ?_) (Nat.le_of_ble_eq_true rfl)
  refine q1_2 ?_
  intro D4
  repeat tb_start
  refine cmp_ned (Has.mu (i := 0) rfl isd) (Has.self isd) isd isd hdp fun c hc => ?_
  tb_start
  refine ite_f (by
    cases c with
    | false => rfl
    | true => exact absurd rfl (hc.mp rfl)) ?_
  repeat tb_start
  refine cmp_ned (Has.mu (i := 6) rfl isd) (Has.self isd) isd isd hdp fun c hc => ?_
  tb_start
  refine ite_f (by
    cases c with
    | false => rfl
    | true => exact absurd rfl (hc.mp rfl)) ?_
  tb_start
  refine ite_f rfl ?_
  refine xs_nil ?_
  refine then_next (Tri.le ((Le.skip 2).trans (Le.vars [true, true, true, true, true, true, true, true, true, true, true, true, true, true, true, true, true, true, true, true, true, true, true, true, true, true, false, true, true, true, true, true, true, true, true, true, true, true, true])) ?_)
  exact h
theorem segB7 (T : TopOk B mg mb) {A : Around} {fit : Fit A 13} {pm : Value} {L : Addr} {PF : AF → S → Prop} {xs cs : List Int} {sts ds ords : List Nat} {s0 s1 b0 b1 p i ov : Nat} {x dx l D O : Addr} {ox od : Obj} {ps : List (Str × Str)} {e0 e1 : Nat} (a4 : s1 ≤ 3) (hov : ov ≤ 1000) (hd : ds.length = s0 + s1 + 2) (hd1 : 1 ≤ ds.getD (s0 + s1 + 1) 0)
    (h : ∀ (Sm : Addr) (hm : Nat) (stp sA sB : Int), hm + 1 = ds.getD (s0 + s1 + 1) 0 → stp = ov * s1 → sA = b0 → sB = b1 + ov → Xs (LK prog w B T A fit pm L) (lawB 29) (⟨(some (.lst (xs.map AV.int)) :: some (.tup [.int (s0 : Int), .int (s1 : Int)]) :: some (.int (s0 : Int)) :: some (.tup [.int (b0 : Int), .int (b1 : Int)]) :: none :: some (.raw (.ref l)) :: some (.raw (.ref x)) :: some (.lst (sT (rowsL p (s0 + s1)))) :: some (.int (ov : Int)) :: some (.int (i : Int)) :: some (.lst []) :: none :: none :: none :: none :: none :: none :: none :: none :: none :: none :: none :: none :: some (.lst (postsOf (nmL p (s0 + s1)) s0 s0 s1)) :: some (.lst [.int (e0 : Int), .int (e1 : Int)]) :: some (.lst (ps.map pairT)) :: none :: some (.int (hm : Int)) :: some (.raw (.ref Sm)) :: some (.int stp) :: none :: none :: none :: none :: none :: none :: none :: none :: none :: []), (some (.lst (sN (stillL ords (s0 + s1)))) :: some (.lst (postsOf (nmL p (s0 + s1)) s0 e0 e1)) :: some (.raw (.ref O)) :: some (.raw (.ref D)) :: some (.lst (postsOf (nmL p (s0 + s1)) s0 b0 b1)) :: some (.lst (sN sts)) :: some (.lst (sT (nmL p (s0 + s1)))) :: some (.int (p : Int)) :: some (.int ((s0 + s1 : Nat) : Int)) :: some (.lst (cs.map AV.int)) :: []), ((Sm, .list [.int sA, .int sB]) :: ((D, .list (sN ds)) :: (O, .list (sN ords)) :: (x, .ob ox) :: (dx, .ob od) :: (l, .list (ps.map pairT)) :: [(54, tab6), (61, tab7)]))⟩ : S) PF) :
    Xs (LK prog w B T A fit pm L) (lawB 26) (⟨(some (.lst (xs.map AV.int)) :: some (.tup [.int (s0 : Int), .int (s1 : Int)]) :: some (.int (s0 : Int)) :: some (.tup [.int (b0 : Int), .int (b1 : Int)]) :: none :: some (.raw (.ref l)) :: some (.raw (.ref x)) :: some (.lst (sT (rowsL p (s0 + s1)))) :: some (.int (ov : Int)) :: some (.int (i : Int)) :: some (.lst []) :: none :: none :: none :: none :: none :: none :: none :: none :: none :: none :: none :: none :: some (.lst (postsOf (nmL p (s0 + s1)) s0 s0 s1)) :: some (.lst [.int (e0 : Int), .int (e1 : Int)]) :: some (.lst (ps.map pairT)) :: none :: none :: none :: none :: none :: none :: none :: none :: none :: none :: none :: none :: none :: []), (some (.lst (sN (stillL ords (s0 + s1)))) :: some (.lst (postsOf (nmL p (s0 + s1)) s0 e0 e1)) :: some (.raw (.ref O)) :: some (.raw (.ref D)) :: some (.lst (postsOf (nmL p (s0 + s1)) s0 b0 b1)) :: some (.lst (sN sts)) :: some (.lst (sT (nmL p (s0 + s1)))) :: some (.int (p : Int)) :: some (.int ((s0 + s1 : Nat) : Int)) :: some (.lst (cs.map AV.int)) :: []), ((D, .list (sN ds)) :: (O, .list (sN ords)) :: (x, .ob ox) :: (dx, .ob od) :: (l, .list (ps.map pairT)) :: [(54, tab6), (61, tab7)])⟩ : S) PF := by
  refine xs_cons ?_
  repeat tb_start
  refine s_mu_neg 0 (v := .int ((ds.getD (s0 + s1 + 1) 0 : Nat) : Int)) rfl (by decide) (by rw [sN_len]; lia) (by decide) (by
    refine rwl (sN_len _) ?_
    refine rwl hd ?_
    refine rwl (show ((-1 : Int) + ((s0 + s1 + 2 : Nat) : Int)).toNat = ((s0 + s1 + 1 : Nat) : Int).toNat by lia) ?_
    exact sN_at (by lia)) ?_
  tb_start
  refine bN_sub1 (by lia) ?_
  tb_start
  refine then_next ?_
  refine xs_cons ?_
  refine x_assign ?_ rfl
  refine ev_list ?_
  repeat tb_start
  refine s_tup (j := 0) rfl rfl ?_
  repeat tb_start
  refine s_tup (j := 1) rfl rfl ?_
  repeat tb_start
  refine ⟨by rw [sizeLine_eq]; exact Nat.le_of_ble_eq_true rfl, fun Sm => ?_⟩
  tb_start
  refine then_next ?_
  refine xs_cons ?_
  repeat tb_start
  refine s_tup (j := 1) rfl rfl ?_
  refine bin_mulS (by lia) (by lia) ?_
  tb_start
  refine then_next ?_
  exact h Sm _ _ _ _ (by lia) rfl rfl (by lia)
end
noncomputable def sumL (g : Nat → Int) (l : List Nat) : Int := (l.map g).sum
theorem sumL_more (g : Nat → Int) {l : List Nat} {k j : Nat} (e : l[k]? = some j) : sumL g (l.take (k + 1)) = sumL g (l.take k) + g j := by
  unfold sumL
  refine rwl (take_more e) ?_
  refine rwl List.map_append ?_
  refine rwl List.sum_append ?_
  show _ + (g j + 0) = _
  rw [Int.add_zero]
noncomputable def dlt (s0 s1 b0 b1 e0 e1 k : Nat) : Int := if k = 0 then (b0 : Int) * ((s0 : Int) - b0) - (e0 : Int) * ((s0 : Int) - e0) else (b1 : Int) * ((s1 : Int) - b1) - (e1 : Int) * ((s1 : Int) - e1)
section
variable {prog : Program} {w : World} {B : HF} {mg mb : Str → Option Value}
theorem segB8 (T : TopOk B mg mb) {A : Around} {fit : Fit A 13} {pm : Value} {L : Addr} {PF : AF → S → Prop} {xs cs : List Int} {sts ds ords : List Nat} {s0 s1 b0 b1 p i ov : Nat} {x dx l D O : Addr} {ox od : Obj} {ps : List (Str × Str)} {e0 e1 hm : Nat} {stp sA sB stp2 sA2 sB2 : Int} {Sm : Addr} (a2 : s0 ≤ 3) (a4 : s1 ≤ 3) (hst : ∀ j ∈ sts, j < s0 + s1)
    (hA : sA2 = sA + sumL (pa0 s0) sts) (hB : sB2 = sB + sumL (pa1 s0) sts) (hC : stp2 = stp + sumL (hgt s0 s1) sts)
    (h : Xs (LK prog w B T A fit pm L) (lawB 30) (⟨(some (.lst (xs.map AV.int)) :: some (.tup [.int (s0 : Int), .int (s1 : Int)]) :: some (.int (s0 : Int)) :: some (.tup [.int (b0 : Int), .int (b1 : Int)]) :: none :: some (.raw (.ref l)) :: some (.raw (.ref x)) :: some (.lst (sT (rowsL p (s0 + s1)))) :: some (.int (ov : Int)) :: some (.int (i : Int)) :: some (.lst []) :: none :: none :: none :: none :: none :: none :: none :: none :: none :: none :: none :: none :: some (.lst (postsOf (nmL p (s0 + s1)) s0 s0 s1)) :: some (.lst [.int (e0 : Int), .int (e1 : Int)]) :: some (.lst (ps.map pairT)) :: none :: some (.int (hm : Int)) :: some (.lst [.int sA2, .int sB2]) :: some (.int stp2) :: none :: none :: none :: none :: none :: none :: none :: none :: none :: []), (some (.lst (sN (stillL ords (s0 + s1)))) :: some (.lst (postsOf (nmL p (s0 + s1)) s0 e0 e1)) :: some (.raw (.ref O)) :: some (.raw (.ref D)) :: some (.lst (postsOf (nmL p (s0 + s1)) s0 b0 b1)) :: some (.lst (sN sts)) :: some (.lst (sT (nmL p (s0 + s1)))) :: some (.int (p : Int)) :: some (.int ((s0 + s1 : Nat) : Int)) :: some (.lst (cs.map AV.int)) :: []), ((D, .list (sN ds)) :: (O, .list (sN ords)) :: (x, .ob ox) :: (dx, .ob od) :: (l, .list (ps.map pairT)) :: [(54, tab6), (61, tab7)])⟩ : S) PF) :
    Xs (LK prog w B T A fit pm L) (lawB 29) (⟨(some (.lst (xs.map AV.int)) :: some (.tup [.int (s0 : Int), .int (s1 : Int)]) :: some (.int (s0 : Int)) :: some (.tup [.int (b0 : Int), .int (b1 : Int)]) :: none :: some (.raw (.ref l)) :: some (.raw (.ref x)) :: some (.lst (sT (rowsL p (s0 + s1)))) :: some (.int (ov : Int)) :: some (.int (i : Int)) :: some (.lst []) :: none :: none :: none :: none :: none :: none :: none :: none :: none :: none :: none :: none :: some (.lst (postsOf (nmL p (s0 + s1)) s0 s0 s1)) :: some (.lst [.int (e0 : Int), .int (e1 : Int)]) :: some (.lst (ps.map pairT)) :: none :: some (.int (hm : Int)) :: some (.raw (.ref Sm)) :: some (.int stp) :: none :: none :: none :: none :: none :: none :: none :: none :: none :: []), (some (.lst (sN (stillL ords (s0 + s1)))) :: some (.lst (postsOf (nmL p (s0 + s1)) s0 e0 e1)) :: some (.raw (.ref O)) :: some (.raw (.ref D)) :: some (.lst (postsOf (nmL p (s0 + s1)) s0 b0 b1)) :: some (.lst (sN sts)) :: some (.lst (sT (nmL p (s0 + s1)))) :: some (.int (p : Int)) :: some (.int ((s0 + s1 : Nat) : Int)) :: some (.lst (cs.map AV.int)) :: []), ((Sm, .list [.int sA, .int sB]) :: ((D, .list (sN ds)) :: (O, .list (sN ords)) :: (x, .ob ox) :: (dx, .ob od) :: (l, .list (ps.map pairT)) :: [(54, tab6), (61, tab7)]))⟩ : S) PF := by
  refine xs_cons ?_
  refine x_for ?_
  repeat tb_start
  let JJ : Nat → S → Prop := fun k σ => ∃ (oj oh os : Option AV), σ = (⟨(some (.lst (xs.map AV.int)) :: some (.tup [.int (s0 : Int), .int (s1 : Int)]) :: some (.int (s0 : Int)) :: some (.tup [.int (b0 : Int), .int (b1 : Int)]) :: oj :: some (.raw (.ref l)) :: some (.raw (.ref x)) :: some (.lst (sT (rowsL p (s0 + s1)))) :: some (.int (ov : Int)) :: some (.int (i : Int)) :: some (.lst []) :: none :: none :: none :: none :: oh :: none :: none :: none :: none :: none :: none :: none :: some (.lst (postsOf (nmL p (s0 + s1)) s0 s0 s1)) :: some (.lst [.int (e0 : Int), .int (e1 : Int)]) :: some (.lst (ps.map pairT)) :: none :: some (.int (hm : Int)) :: some (.raw (.ref Sm)) :: some (.int (stp + sumL (hgt s0 s1) (sts.take k))) :: os :: none :: none :: none :: none :: none :: none :: none :: none :: []), (some (.lst (sN (stillL ords (s0 + s1)))) :: some (.lst (postsOf (nmL p (s0 + s1)) s0 e0 e1)) :: some (.raw (.ref O)) :: some (.raw (.ref D)) :: some (.lst (postsOf (nmL p (s0 + s1)) s0 b0 b1)) :: some (.lst (sN sts)) :: some (.lst (sT (nmL p (s0 + s1)))) :: some (.int (p : Int)) :: some (.int ((s0 + s1 : Nat) : Int)) :: some (.lst (cs.map AV.int)) :: []), ((Sm, .list [.int (sA + sumL (pa0 s0) (sts.take k)), .int (sB + sumL (pa1 s0) (sts.take k))]) :: ((D, .list (sN ds)) :: (O, .list (sN ords)) :: (x, .ob ox) :: (dx, .ob od) :: (l, .list (ps.map pairT)) :: [(54, tab6), (61, tab7)]))⟩ : S)
  refine ⟨_, _, walk_lst, JJ, fun _ _ _ => True.intro, ⟨none, none, none, ?_⟩, ?_, ?_⟩
  · rw [show ∀ (q : Int) (g : Nat → Int), q + sumL g (sts.take 0) = q from fun q g => by rw [List.take_zero]; show q + 0 = q; lia,
      show ∀ (q : Int) (g : Nat → Int), q + sumL g (sts.take 0) = q from fun q g => by rw [List.take_zero]; show q + 0 = q; lia,
      show ∀ (q : Int) (g : Nat → Int), q + sumL g (sts.take 0) = q from fun q g => by rw [List.take_zero]; show q + 0 = q; lia]
  · rintro k v σ hv hz0
    refine e3_1 hz0 ?_
    clear hz0
    rintro oj oh os rfl
    refine e1_2 (sN_inv hv) ?_
    rintro j e rfl
    have hj := hst j (List.mem_of_getElem? e)
    refine asg_name ?_
    tb_start
    refine xs_cons ?_
    refine x_tup ?_ (fun _ => rfl) rfl rfl
    refine ev_ifexp ?_
    repeat tb_start
    refine ite_both (fun hz => ?_) fun hz => ?_
    · have hz' : j < s0 := by have := of_decide_eq_true hz; lia
      refine ev_tuple ?_
      repeat tb_start
      refine ⟨by rw [sizeLine_eq]; exact Nat.le_of_ble_eq_true rfl, _, rfl, rfl, ?_⟩
      refine asgl_cons (asg_name ?_)
      tb_start
      refine asgl_cons (asg_name ?_)
      tb_start
      refine asgl_nil ?_
      refine then_next ?_
      refine xs_cons ?_
      repeat tb_start
      refine g_mu 0 rfl (by decide) (by decide) rfl ?_
      repeat tb_start
      refine set_mu 0 rfl (by decide) (by decide) (by show (0 : Int) < ((2 : Nat) : Int); decide) ?_
      refine then_next ?_
      refine xs_cons ?_
      repeat tb_start
      refine s_tup (j := 0) rfl rfl ?_
      repeat tb_start
      refine bin_mulS (by lia) (by lia) ?_
      repeat tb_start
      refine ⟨_, Le.refl _, some (.int (j : Int)), some (.int ((j + 1 : Nat) : Int)), some (.int 0), ?_⟩
      have ep : pl s0 j = ((j + 1 : Nat) : Int) := by unfold pl; rw [if_pos hz']; rfl
      rw [sumL_more _ e, sumL_more _ e, sumL_more _ e, ← Int.add_assoc, ← Int.add_assoc, ← Int.add_assoc,
        show pa0 s0 j = ((j + 1 : Nat) : Int) from by unfold pa0 onS0; rw [if_pos hz', ep, Int.mul_one],
        show pa1 s0 j = 0 from by unfold pa1 onS1; rw [if_pos hz', Int.mul_zero],
        show hgt s0 s1 j = ((j + 1 : Nat) : Int) * (((s0 + 1 : Nat) : Int) - ((j + 1 : Nat) : Int)) from by unfold hgt szs; rw [if_pos hz', ep]; rfl, Int.add_zero]
      rfl
    · have hz' : ¬ j < s0 := by have := of_decide_eq_false hz; lia
      refine ev_tuple ?_
      repeat tb_start
      refine ⟨by rw [sizeLine_eq]; exact Nat.le_of_ble_eq_true rfl, _, rfl, rfl, ?_⟩
      refine asgl_cons (asg_name ?_)
      tb_start
      refine asgl_cons (asg_name ?_)
      tb_start
      refine asgl_nil ?_
      refine then_next ?_
      refine xs_cons ?_
      repeat tb_start
      refine g_mu 0 rfl (by decide) (by decide) rfl ?_
      repeat tb_start
      refine set_mu 0 rfl (by decide) (by decide) (by show (1 : Int) < ((2 : Nat) : Int); decide) ?_
      refine then_next ?_
      refine xs_cons ?_
      repeat tb_start
      refine s_tup (j := 1) rfl rfl ?_
      repeat tb_start
      refine bin_mulS (by lia) (by lia) ?_
      repeat tb_start
      refine ⟨_, Le.refl _, some (.int (j : Int)), some (.int (((j + 1 : Nat) : Int) - (s0 : Int))), some (.int 1), ?_⟩
      have ep : pl s0 j = ((j + 1 : Nat) : Int) - (s0 : Int) := by unfold pl; rw [if_neg hz']; rfl
      rw [sumL_more _ e, sumL_more _ e, sumL_more _ e, ← Int.add_assoc, ← Int.add_assoc, ← Int.add_assoc,
        show pa1 s0 j = ((j + 1 : Nat) : Int) - (s0 : Int) from by unfold pa1 onS1; rw [if_neg hz', ep, Int.mul_one],
        show pa0 s0 j = 0 from by unfold pa0 onS0; rw [if_neg hz', Int.mul_zero],
        show hgt s0 s1 j = (((j + 1 : Nat) : Int) - (s0 : Int)) * (((s1 + 1 : Nat) : Int) - (((j + 1 : Nat) : Int) - (s0 : Int))) from by unfold hgt szs; rw [if_neg hz', ep]; rfl, Int.add_zero]
      rfl
  · rintro σ hz0
    refine e3_1 hz0 ?_
    clear hz0
    rintro oj oh os rfl
    refine rwl (sN_len _) ?_
    refine rwl List.take_length ?_
    refine rwr hA ?_
    refine rwr hB ?_
    refine rwr hC ?_
    refine xs_nil ?_
    refine then_next (Tri.le ((Le.settleV (i := 28) (j := 0) rfl rfl).trans (Le.vars [true, true, true, true, false, true, true, true, true, true, true, true, true, true, true, false, true, true, true, true, true, true, true, true, true, true, true, true, true, true, false, true, true, true, true, true, true, true, true])) ?_)
    exact h
theorem segB9 (T : TopOk B mg mb) {A : Around} {fit : Fit A 13} {pm : Value} {L : Addr} {PF : AF → S → Prop} {xs cs : List Int} {sts ds ords : List Nat} {s0 s1 b0 b1 p i ov : Nat} {x dx l D O : Addr} {ox od : Obj} {ps : List (Str × Str)} {e0 e1 hm : Nat} {stp sA sB stp2 : Int} (a2 : s0 ≤ 3) (a4 : s1 ≤ 3) (hb0 : b0 ≤ s0) (hb1 : b1 ≤ s1) (he0 : e0 ≤ s0) (he1 : e1 ≤ s1)
    (hC : stp2 = stp + (dlt s0 s1 b0 b1 e0 e1 0 + dlt s0 s1 b0 b1 e0 e1 1))
    (h : Xs (LK prog w B T A fit pm L) (lawB 31) (⟨(some (.lst (xs.map AV.int)) :: some (.tup [.int (s0 : Int), .int (s1 : Int)]) :: some (.int (s0 : Int)) :: some (.tup [.int (b0 : Int), .int (b1 : Int)]) :: none :: some (.raw (.ref l)) :: some (.raw (.ref x)) :: some (.lst (sT (rowsL p (s0 + s1)))) :: some (.int (ov : Int)) :: some (.int (i : Int)) :: some (.lst []) :: none :: none :: none :: none :: none :: none :: none :: none :: none :: none :: none :: none :: some (.lst (postsOf (nmL p (s0 + s1)) s0 s0 s1)) :: some (.lst [.int (e0 : Int), .int (e1 : Int)]) :: some (.lst (ps.map pairT)) :: none :: some (.int (hm : Int)) :: some (.lst [.int sA, .int sB]) :: some (.int stp2) :: none :: none :: none :: none :: none :: none :: none :: none :: none :: []), (some (.lst (sN (stillL ords (s0 + s1)))) :: some (.lst (postsOf (nmL p (s0 + s1)) s0 e0 e1)) :: some (.raw (.ref O)) :: some (.raw (.ref D)) :: some (.lst (postsOf (nmL p (s0 + s1)) s0 b0 b1)) :: some (.lst (sN sts)) :: some (.lst (sT (nmL p (s0 + s1)))) :: some (.int (p : Int)) :: some (.int ((s0 + s1 : Nat) : Int)) :: some (.lst (cs.map AV.int)) :: []), ((D, .list (sN ds)) :: (O, .list (sN ords)) :: (x, .ob ox) :: (dx, .ob od) :: (l, .list (ps.map pairT)) :: [(54, tab6), (61, tab7)])⟩ : S) PF) :
    Xs (LK prog w B T A fit pm L) (lawB 30) (⟨(some (.lst (xs.map AV.int)) :: some (.tup [.int (s0 : Int), .int (s1 : Int)]) :: some (.int (s0 : Int)) :: some (.tup [.int (b0 : Int), .int (b1 : Int)]) :: none :: some (.raw (.ref l)) :: some (.raw (.ref x)) :: some (.lst (sT (rowsL p (s0 + s1)))) :: some (.int (ov : Int)) :: some (.int (i : Int)) :: some (.lst []) :: none :: none :: none :: none :: none :: none :: none :: none :: none :: none :: none :: none :: some (.lst (postsOf (nmL p (s0 + s1)) s0 s0 s1)) :: some (.lst [.int (e0 : Int), .int (e1 : Int)]) :: some (.lst (ps.map pairT)) :: none :: some (.int (hm : Int)) :: some (.lst [.int sA, .int sB]) :: some (.int stp) :: none :: none :: none :: none :: none :: none :: none :: none :: none :: []), (some (.lst (sN (stillL ords (s0 + s1)))) :: some (.lst (postsOf (nmL p (s0 + s1)) s0 e0 e1)) :: some (.raw (.ref O)) :: some (.raw (.ref D)) :: some (.lst (postsOf (nmL p (s0 + s1)) s0 b0 b1)) :: some (.lst (sN sts)) :: some (.lst (sT (nmL p (s0 + s1)))) :: some (.int (p : Int)) :: some (.int ((s0 + s1 : Nat) : Int)) :: some (.lst (cs.map AV.int)) :: []), ((D, .list (sN ds)) :: (O, .list (sN ords)) :: (x, .ob ox) :: (dx, .ob od) :: (l, .list (ps.map pairT)) :: [(54, tab6), (61, tab7)])⟩ : S) PF := by
  refine xs_cons ?_
  refine x_for ?_
  refine ev_tuple ?_
  repeat tb_start
  refine ⟨by rw [sizeLine_eq]; exact Nat.le_of_ble_eq_true rfl, ?_⟩
  let JJ : Nat → S → Prop := fun k σ => ∃ (os : Option AV), σ = (⟨(some (.lst (xs.map AV.int)) :: some (.tup [.int (s0 : Int), .int (s1 : Int)]) :: some (.int (s0 : Int)) :: some (.tup [.int (b0 : Int), .int (b1 : Int)]) :: none :: some (.raw (.ref l)) :: some (.raw (.ref x)) :: some (.lst (sT (rowsL p (s0 + s1)))) :: some (.int (ov : Int)) :: some (.int (i : Int)) :: some (.lst []) :: none :: none :: none :: none :: none :: none :: none :: none :: none :: none :: none :: none :: some (.lst (postsOf (nmL p (s0 + s1)) s0 s0 s1)) :: some (.lst [.int (e0 : Int), .int (e1 : Int)]) :: some (.lst (ps.map pairT)) :: none :: some (.int (hm : Int)) :: some (.lst [.int sA, .int sB]) :: some (.int (stp + sumTo (dlt s0 s1 b0 b1 e0 e1) k)) :: os :: none :: none :: none :: none :: none :: none :: none :: none :: []), (some (.lst (sN (stillL ords (s0 + s1)))) :: some (.lst (postsOf (nmL p (s0 + s1)) s0 e0 e1)) :: some (.raw (.ref O)) :: some (.raw (.ref D)) :: some (.lst (postsOf (nmL p (s0 + s1)) s0 b0 b1)) :: some (.lst (sN sts)) :: some (.lst (sT (nmL p (s0 + s1)))) :: some (.int (p : Int)) :: some (.int ((s0 + s1 : Nat) : Int)) :: some (.lst (cs.map AV.int)) :: []), ((D, .list (sN ds)) :: (O, .list (sN ords)) :: (x, .ob ox) :: (dx, .ob od) :: (l, .list (ps.map pairT)) :: [(54, tab6), (61, tab7)])⟩ : S)
  refine ⟨_, _, walk_tup, JJ, fun _ _ _ => True.intro, ⟨none, ?_⟩, ?_, ?_⟩
  · rw [show ∀ g : Nat → Int, stp + sumTo g 0 = stp from fun g => by rw [sumTo]; lia]
  · rintro k v σ hv hz0
    refine e1_1 hz0 ?_
    clear hz0
    rintro os rfl
    have hk : k < 2 := by
      have := (List.getElem?_eq_some_iff.mp hv).1
      simpa using this
    rcases (show k = 0 ∨ k = 1 by lia) with rfl | rfl
    · obtain rfl : v = .int 0 := (Option.some.inj hv).symm
      refine asg_name ?_
      tb_start
      refine xs_cons ?_
      repeat tb_start
      refine s_tup (j := 0) rfl rfl ?_
      repeat tb_start
      refine s_tup (j := 0) rfl rfl ?_
      repeat tb_start
      refine s_tup (j := 0) rfl rfl ?_
      repeat tb_start
      refine bin_mulS (by lia) (by lia) ?_
      repeat tb_start
      refine s_lst (by decide) (by decide) rfl ?_
      repeat tb_start
      refine s_tup (j := 0) rfl rfl ?_
      repeat tb_start
      refine s_lst (by decide) (by decide) rfl ?_
      repeat tb_start
      refine bin_mulS (by lia) (by lia) ?_
      tb_start
      tb_start
      tb_start
      refine then_next ?_
      refine xs_nil ?_
      refine turn_next ?_
      refine ⟨_, Le.refl _, some (.int 0), ?_⟩
      rw [show ∀ g : Nat → Int, stp + sumTo g (0 + 1) = stp + sumTo g 0 + g 0 from fun g => by show stp + (sumTo g 0 + g 0) = _; lia]
      rfl
    · obtain rfl : v = .int 1 := (Option.some.inj hv).symm
      refine asg_name ?_
      tb_start
      refine xs_cons ?_
      repeat tb_start
      refine s_tup (j := 1) rfl rfl ?_
      repeat tb_start
      refine s_tup (j := 1) rfl rfl ?_
      repeat tb_start
      refine s_tup (j := 1) rfl rfl ?_
      repeat tb_start
      refine bin_mulS (by lia) (by lia) ?_
      repeat tb_start
      refine s_lst (by decide) (by decide) rfl ?_
      repeat tb_start
      refine s_tup (j := 1) rfl rfl ?_
      repeat tb_start
      refine s_lst (by decide) (by decide) rfl ?_
      repeat tb_start
      refine bin_mulS (by lia) (by lia) ?_
      tb_start
      tb_start
      tb_start
      refine then_next ?_
      refine xs_nil ?_
      refine turn_next ?_
      refine ⟨_, Le.refl _, some (.int 1), ?_⟩
      rw [show ∀ g : Nat → Int, stp + sumTo g (1 + 1) = stp + sumTo g 1 + g 1 from fun g => by show stp + (sumTo g 1 + g 1) = _; lia]
      rfl
  · rintro σ hz0
    refine e1_1 hz0 ?_
    clear hz0
    rintro os rfl
    rw [show stp + sumTo (dlt s0 s1 b0 b1 e0 e1) [AV.int 0, AV.int 1].length = stp2 from by rw [hC]; show stp + (0 + dlt s0 s1 b0 b1 e0 e1 0 + dlt s0 s1 b0 b1 e0 e1 1) = _; lia]
    refine xs_nil ?_
    refine then_next (Tri.le (Le.vars [true, true, true, true, true, true, true, true, true, true, true, true, true, true, true, true, true, true, true, true, true, true, true, true, true, true, true, true, true, true, false, true, true, true, true, true, true, true, true]) ?_)
    exact h
end
end

section
open PySem PySem.P PyProof.Rows
set_option exponentiation.threshold 100000
noncomputable def BdI (k : Nat) (a : Int) : Prop := a.natAbs < 2 ^ k
theorem BdI.mono {j k : Nat} {a : Int} (h : BdI j a) (hk : j ≤ k) : BdI k a := Nat.lt_of_lt_of_le h (Nat.pow_le_pow_right (by decide) hk)
theorem BdI.mul {j k : Nat} {a b : Int} (ha : BdI j a) (hb : BdI k b) : BdI (j + k) (a * b) := by
  unfold BdI at *
  refine rwl (Int.natAbs_mul _ _) ?_
  refine rwl (Nat.pow_add _ _ _) ?_
  exact Nat.mul_lt_mul'' ha hb
theorem BdI.add {k : Nat} {a b : Int} (ha : BdI k a) (hb : BdI k b) : BdI (k + 1) (a + b) := by
  unfold BdI at *
  have := Int.natAbs_add_le a b
  rw [Nat.pow_succ]
  lia
theorem BdI.neg {k : Nat} {a : Int} (ha : BdI k a) : BdI k (-a) := by
  unfold BdI at *
  rw [Int.natAbs_neg]; exact ha
theorem BdI.sub {k : Nat} {a b : Int} (ha : BdI k a) (hb : BdI k b) : BdI (k + 1) (a - b) := by rw [Int.sub_eq_add_neg]; exact ha.add hb.neg
theorem BdI.bits {k : Nat} {a : Int} (h : BdI k a) (hk : k ≤ 100000) : Builtin.Int.intBits a ≤ 2 ^ 20 := by
  have h1 := nb_le h
  rcases Int.natAbs_eq a with e | e
  · rw [e, nb_int]; lia
  · rw [e, nb_neg]; lia
theorem BdI.nat {k n : Nat} (h : n < 2 ^ k) : BdI k (n : Int) := h
section
variable {K : Cx} {σ : S} {P : AV → S → Prop} {a b : Int}
theorem bin_mulB {j k : Nat} (ha : BdI j a) (hb : BdI k b) (hj : j ≤ 100000) (hk : k ≤ 100000) (h : P (.int (a * b)) σ) : Bin K .Mult (.int a) (.int b) σ P := bin_mul (mulOkN (ha.bits hj) (hb.bits hk)) h
end
theorem divm {x d q r sd : Int} (hs : sd = 1 ∨ sd = -1) (hx : x = d * q + r) (h0 : 0 ≤ r) (h1 : r < d) : (sd * x).fdiv (sd * d) = q ∧ (sd * x).fmod (sd * d) = sd * r := by
  have hd : 0 < d := by lia
  have e1 : x.fdiv d = q := by
    rw [Int.fdiv_eq_ediv_of_nonneg _ (by lia), hx, Int.add_comm, Int.add_mul_ediv_left _ _ (by lia), Int.ediv_eq_zero_of_lt h0 h1, Int.zero_add]
  have e2 : x.fmod d = r := by
    rw [Int.fmod_eq_emod_of_nonneg _ (by lia), hx, Int.add_comm, Int.add_mul_emod_self_left, Int.emod_eq_of_lt h0 h1]
  rcases hs with rfl | rfl
  · rw [Int.one_mul, Int.one_mul, Int.one_mul]; exact ⟨e1, e2⟩
  · refine rwl (Int.neg_mul _ _) ?_
    refine rwl (Int.neg_mul _ _) ?_
    refine rwl (Int.neg_mul _ _) ?_
    refine rwl (Int.one_mul _) ?_
    refine rwl (Int.one_mul _) ?_
    refine rwl (Int.one_mul _) ?_
    refine ⟨by rw [Int.neg_fdiv_neg]; exact e1, ?_⟩
    have h3 := Int.mul_fdiv_add_fmod (-x) (-d)
    rw [Int.neg_fdiv_neg, e1] at h3
    have h4 := Int.mul_fdiv_add_fmod x d
    rw [e1, e2] at h4
    rw [Int.neg_mul] at h3
    lia
noncomputable def UF (u : Nat) (f : Int) : Prop := (u = 1 ∧ f = 0) ∨ (2 ^ 4300 ≤ u ∧ u < 2 ^ 4302 ∧ BdI 4402 f)
theorem UF.pos {u : Nat} {f : Int} (h : UF u f) : 1 ≤ u := by
  rcases h with h | h
  · lia
  · have := Nat.two_pow_pos 4300
    lia
theorem UF.bu {u : Nat} {f : Int} (h : UF u f) : BdI 4302 (u : Int) := by
  rcases h with h | h
  · rw [h.1]; exact Nat.one_lt_two_pow (by decide)
  · exact h.2.1
theorem UF.bf {u : Nat} {f : Int} (h : UF u f) : BdI 4402 f := by
  rcases h with h | h
  · rw [h.2]; exact Nat.two_pow_pos _
  · exact h.2.2
theorem sd_bd {sd : Int} (h : sd = 1 ∨ sd = -1) : BdI 1 sd := by rcases h with rfl | rfl <;> (show _ < 2; decide)
theorem sd_abs {sd : Int} (h : sd = 1 ∨ sd = -1) (a : Int) : (sd * a).natAbs = a.natAbs := by rcases h with rfl | rfl <;> simp
theorem call_ok {u nr : Nat} {f sd A f2 : Int} {w : Nat} (hu : UF u f) (hs : sd = 1 ∨ sd = -1) (hnr : nr < u) (hA : BdI 10 A) (hw1 : 2 ≤ w) (hw2 : w ≤ 8) (hf2 : f2 = f ∨ f2 = -f) :
    sd * w * u ≠ 0 ∧ nb (sd * w * u).natAbs ≤ 4400 ∧ nb (sd * ((A + w * f2) * u + nr)).natAbs ≤ nb (sd * w * u).natAbs * 8 := by
  have hp := hu.pos
  have eb : (sd * w * u).natAbs = w * u := by rw [Int.mul_assoc, sd_abs hs, ← Int.natCast_mul]; rfl
  have hwu : 0 < w * u := Nat.mul_pos (by lia) (by lia)
  have bf2 : BdI 4402 f2 := by
    rcases hf2 with e | e <;> rw [e]
    · exact hu.bf
    · exact hu.bf.neg
  refine ⟨fun z => by rw [z] at eb; simp at eb; lia, ?_, ?_⟩
  · refine rwl eb ?_
    refine Nat.le_trans (nb_le (k := 4 + 4302) ?_) (by decide)
    refine rwl (Nat.pow_add _ _ _) ?_
    exact Nat.mul_lt_mul'' (by lia) hu.bu
  · refine rwl eb ?_
    refine rwl (sd_abs hs _) ?_
    rcases hu with ⟨h1, h2⟩ | ⟨h1, h2, h3⟩
    · have hz : nr = 0 := by lia
      have hf0 : f2 = 0 := by rcases hf2 with e | e <;> rw [e, h2]; rfl
      refine rwl h1 ?_
      refine rwl hz ?_
      refine rwl hf0 ?_
      refine rwl (Nat.mul_one _) ?_
      have e : (A + (w : Int) * 0) * ((1 : Nat) : Int) + ((0 : Nat) : Int) = A := by
        rw [Int.mul_zero, Int.add_zero]
        show A * 1 + 0 = A
        lia
      refine rwl e ?_
      have ha := nb_le hA
      have hb : 2 ≤ nb w := by
        have h := lt_nb w
        rcases Nat.lt_or_ge (nb w) 2 with c | c
        · have : 2 ^ nb w ≤ 2 ^ 1 := Nat.pow_le_pow_right (by decide) (by lia)
          lia
        · exact c
      lia
    · have hbb : 4301 ≤ nb (w * u) := by
        have h := lt_nb (w * u)
        rcases Nat.lt_or_ge (nb (w * u)) 4301 with c | c
        · have e1 : 2 ^ nb (w * u) ≤ 2 ^ 4300 := Nat.pow_le_pow_right (by decide) (by lia)
          have e2 : u ≤ w * u := Nat.le_mul_of_pos_left u (by lia)
          exact absurd (Nat.lt_of_lt_of_le h e1) (Nat.not_lt.mpr (Nat.le_trans h1 e2))
        · exact c
      have bw : BdI 4 (w : Int) := BdI.nat (by lia)
      have bA : BdI 8711 ((A + w * f2) * u + nr) := ((((hA.mono (by decide)).add (bw.mul bf2)).mul (BdI.nat h2)).mono (k := 8710) (by decide)).add ((BdI.nat (k := 4302) (by lia)).mono (by decide))
      have := nb_le bA
      lia
local macro_rules | `(tactic| tb_start) => pure (sxMore "bN_add1")

noncomputable abbrev unitB (i : Nat) : List Stmt := (forBody ((fbody (topSt 29)).getD 32 (.Pass default))).drop i
noncomputable abbrev sideB (i : Nat) : List Stmt := (forBody ((unitB 0).getD 1 (.Pass default))).drop i
theorem eT {a b c d : Int} (h1 : a = c) (h2 : b = d) : AV.tup [.int a, .int b] = AV.tup [.int c, .int d] := by rw [h1, h2]
section
variable {prog : Program} {w : World} {B : HF} {mg mb : Str → Option Value}
theorem segS1 (T : TopOk B mg mb) {A : Around} {fit : Fit A 13} {pm : Value} {L : Addr} {PF : AF → S → Prop} {xs cs : List Int} {sts ds ords : List Nat} {s0 s1 b0 b1 p i ov : Nat} {x dx l D O : Addr} {ox od : Obj} {ps : List (Str × Str)} {e0 e1 hm u nr : Nat} {stp sA sB f sd : Int} (a1 : 1 ≤ s0) (a2 : s0 ≤ 3) (hu : UF u f) (hs : sd = 1 ∨ sd = -1) (hnr : nr < u) (he : e0 ≤ s0) (hov : ov ≤ 100) (hA : sA = e0 + (s0 + 1) * ov)
    (h : Xs (LK prog w B T A fit pm L) (sideB 1) (⟨(some (.lst (xs.map AV.int)) :: some (.tup [.int (s0 : Int), .int (s1 : Int)]) :: some (.int (s0 : Int)) :: some (.tup [.int (b0 : Int), .int (b1 : Int)]) :: none :: some (.raw (.ref l)) :: some (.raw (.ref x)) :: some (.lst (sT (rowsL p (s0 + s1)))) :: some (.int (ov : Int)) :: some (.int (i : Int)) :: some (.lst []) :: none :: none :: none :: none :: none :: none :: none :: none :: none :: none :: none :: none :: some (.lst (postsOf (nmL p (s0 + s1)) s0 s0 s1)) :: some (.lst [.int (e0 : Int), .int (e1 : Int)]) :: some (.lst (ps.map pairT)) :: none :: some (.int (hm : Int)) :: some (.lst [.int sA, .int sB]) :: some (.int stp) :: none :: some (.int ((s0 + 1 : Nat) : Int)) :: some (.int ((s1 + 1 : Nat) : Int)) :: some (.int (u : Int)) :: some (.int f) :: some (.int (nr : Int)) :: some (.int sd) :: some (.tup [.int (ov + f), .int (sd * (e0 * u + nr))]) :: none :: []), (some (.lst (sN (stillL ords (s0 + s1)))) :: some (.lst (postsOf (nmL p (s0 + s1)) s0 e0 e1)) :: some (.raw (.ref O)) :: some (.raw (.ref D)) :: some (.lst (postsOf (nmL p (s0 + s1)) s0 b0 b1)) :: some (.lst (sN sts)) :: some (.lst (sT (nmL p (s0 + s1)))) :: some (.int (p : Int)) :: some (.int ((s0 + s1 : Nat) : Int)) :: some (.lst (cs.map AV.int)) :: []), ((D, .list (sN ds)) :: (O, .list (sN ords)) :: (x, .ob ox) :: (dx, .ob od) :: (l, .list (ps.map pairT)) :: [(54, tab6), (61, tab7)])⟩ : S) PF) :
    Xs (LK prog w B T A fit pm L) (sideB 0) (⟨(some (.lst (xs.map AV.int)) :: some (.tup [.int (s0 : Int), .int (s1 : Int)]) :: some (.int (s0 : Int)) :: some (.tup [.int (b0 : Int), .int (b1 : Int)]) :: none :: some (.raw (.ref l)) :: some (.raw (.ref x)) :: some (.lst (sT (rowsL p (s0 + s1)))) :: some (.int (ov : Int)) :: some (.int (i : Int)) :: some (.lst []) :: none :: none :: none :: none :: none :: none :: none :: none :: none :: none :: none :: none :: some (.lst (postsOf (nmL p (s0 + s1)) s0 s0 s1)) :: some (.lst [.int (e0 : Int), .int (e1 : Int)]) :: some (.lst (ps.map pairT)) :: none :: some (.int (hm : Int)) :: some (.lst [.int sA, .int sB]) :: some (.int stp) :: none :: some (.int ((s0 + 1 : Nat) : Int)) :: some (.int ((s1 + 1 : Nat) : Int)) :: some (.int (u : Int)) :: some (.int f) :: some (.int (nr : Int)) :: some (.int sd) :: none :: none :: []), (some (.lst (sN (stillL ords (s0 + s1)))) :: some (.lst (postsOf (nmL p (s0 + s1)) s0 e0 e1)) :: some (.raw (.ref O)) :: some (.raw (.ref D)) :: some (.lst (postsOf (nmL p (s0 + s1)) s0 b0 b1)) :: some (.lst (sN sts)) :: some (.lst (sT (nmL p (s0 + s1)))) :: some (.int (p : Int)) :: some (.int ((s0 + s1 : Nat) : Int)) :: some (.lst (cs.map AV.int)) :: []), ((D, .list (sN ds)) :: (O, .list (sN ords)) :: (x, .ob ox) :: (dx, .ob od) :: (l, .list (ps.map pairT)) :: [(54, tab6), (61, tab7)])⟩ : S) PF := by
  refine e2_3 T.f80 ?_
  rintro o80 pm80 ho80 hd80 _
  have hm4 : (s0 + 1) * ov ≤ 4 * 100 := Nat.mul_le_mul (by lia) hov
  have bA : BdI 10 sA := by
    refine rwl hA ?_
    show ((e0 : Int) + ((s0 : Int) + 1) * (ov : Int)).natAbs < 2 ^ 10
    refine rwl (show (e0 : Int) + ((s0 : Int) + 1) * (ov : Int) = ((e0 + (s0 + 1) * ov : Nat) : Int) by rw [Int.natCast_add, Int.natCast_mul]; rfl) ?_
    refine rwl (Int.natAbs_natCast _) ?_
    lia
  have bw : BdI 4 ((s0 + 1 : Nat) : Int) := BdI.nat (by lia)
  refine e0_3 (call_ok (w := s0 + 1) (f2 := f) hu hs hnr bA (by lia) (by lia) (.inl rfl)) ?_
  rintro c1 c2 c3
  refine xs_cons ?_
  refine x_assign ?_ rfl
  refine ev_callF (a := 80) ho80 hd80 ?_ rfl
  repeat tb_start
  refine s_lst (by decide) (by decide) rfl ?_
  repeat tb_start
  refine bin_mulB bw hu.bf (by decide) (by decide) ?_
  repeat tb_start
  refine bin_mulB (((bA.mono (by decide)).add (bw.mul hu.bf))) hu.bu (by decide) (by decide) ?_
  repeat tb_start
  refine bin_mulB (sd_bd hs) ((((((bA.mono (by decide)).add (bw.mul hu.bf)).mul hu.bu).mono (k := 8710) (by decide))).add ((BdI.nat (k := 4302) (Nat.lt_trans hnr hu.bu)).mono (by decide))) (by decide) (by decide) ?_
  repeat tb_start
  refine bin_mulB (sd_bd hs) bw (by decide) (by decide) ?_
  repeat tb_start
  refine bin_mulB ((sd_bd hs).mul bw) hu.bu (by decide) (by decide) ?_
  repeat tb_start
  refine Con.callK ((con_idm T c1 c2 c3 (t6 := 5) (t7 := 6) rfl rfl).mono ?_) (Nat.le_of_ble_eq_true rfl)
  refine q0_2 ?_
  have hd := divm (x := (sA + ((s0 + 1 : Nat) : Int) * f) * (u : Int) + (nr : Int)) (d := ((s0 + 1 : Nat) : Int) * (u : Int)) (q := (ov : Int) + f) (r := (e0 : Int) * u + nr) hs (by
    refine rwl hA ?_
    have : ((s0 + 1 : Nat) : Int) = (s0 : Int) + 1 := rfl
    refine rwl this ?_
    generalize (s0 : Int) + 1 = W
    refine rwl (Int.add_mul _ _ _) ?_
    refine rwl (Int.add_mul _ _ _) ?_
    refine rwl (Int.mul_assoc _ _ _) ?_
    refine rwl (Int.mul_add _ _ _) ?_
    have e1 : W * ((ov : Int) * (u : Int)) = W * (u : Int) * ov := by rw [Int.mul_comm (ov : Int), Int.mul_assoc]
    have e2 : W * f * (u : Int) = W * (u : Int) * f := by rw [Int.mul_assoc, Int.mul_comm f, Int.mul_assoc]
    refine rwl e1 ?_
    refine rwl e2 ?_
    lia) (by have := Int.mul_nonneg (Int.natCast_nonneg e0) (Int.natCast_nonneg u); lia) (by
    have h1 : (e0 + 1) * u ≤ (s0 + 1) * u := Nat.mul_le_mul_right _ (by lia)
    rw [Nat.add_mul, Nat.one_mul] at h1
    have h2 : ((e0 * u + nr : Nat) : Int) < (((s0 + 1) * u : Nat) : Int) := by lia
    rw [Int.natCast_add, Int.natCast_mul, Int.natCast_mul] at h2
    exact h2)
  refine rwl (eT (a := (sd * ((sA + ((s0 + 1 : Nat) : Int) * f) * (u : Int) + (nr : Int))).fdiv (sd * ((s0 + 1 : Nat) : Int) * (u : Int))) (c := ov + f) (d := sd * (e0 * u + nr)) (by rw [Int.mul_assoc sd]; exact hd.1) (by rw [Int.mul_assoc sd]; exact hd.2)) ?_
  tb_start
  refine then_next ?_
  exact @h
theorem segS2 (T : TopOk B mg mb) {A : Around} {fit : Fit A 13} {pm : Value} {L : Addr} {PF : AF → S → Prop} {xs cs : List Int} {sts ds ords : List Nat} {s0 s1 b0 b1 p i ov : Nat} {x dx l D O : Addr} {ox od : Obj} {ps : List (Str × Str)} {e0 e1 hm u nr : Nat} {stp sA sB f sd : Int} (a4 : s1 ≤ 3) (a3 : 1 ≤ s1) (hu : UF u f) (hs : sd = 1 ∨ sd = -1) (hnr : nr < u) (he : e1 ≤ s1) (hov : hm ≤ 100) (hA : sB = e1 + (s1 + 1) * hm)
    (h : Xs (LK prog w B T A fit pm L) (sideB 2) (⟨(some (.lst (xs.map AV.int)) :: some (.tup [.int (s0 : Int), .int (s1 : Int)]) :: some (.int (s0 : Int)) :: some (.tup [.int (b0 : Int), .int (b1 : Int)]) :: none :: some (.raw (.ref l)) :: some (.raw (.ref x)) :: some (.lst (sT (rowsL p (s0 + s1)))) :: some (.int (ov : Int)) :: some (.int (i : Int)) :: some (.lst []) :: none :: none :: none :: none :: none :: none :: none :: none :: none :: none :: none :: none :: some (.lst (postsOf (nmL p (s0 + s1)) s0 s0 s1)) :: some (.lst [.int (e0 : Int), .int (e1 : Int)]) :: some (.lst (ps.map pairT)) :: none :: some (.int (hm : Int)) :: some (.lst [.int sA, .int sB]) :: some (.int stp) :: none :: some (.int ((s0 + 1 : Nat) : Int)) :: some (.int ((s1 + 1 : Nat) : Int)) :: some (.int (u : Int)) :: some (.int f) :: some (.int (nr : Int)) :: some (.int sd) :: some (.tup [.int (ov + f), .int (sd * (e0 * u + nr))]) :: some (.tup [.int (hm - f), .int (sd * (e1 * u + nr))]) :: []), (some (.lst (sN (stillL ords (s0 + s1)))) :: some (.lst (postsOf (nmL p (s0 + s1)) s0 e0 e1)) :: some (.raw (.ref O)) :: some (.raw (.ref D)) :: some (.lst (postsOf (nmL p (s0 + s1)) s0 b0 b1)) :: some (.lst (sN sts)) :: some (.lst (sT (nmL p (s0 + s1)))) :: some (.int (p : Int)) :: some (.int ((s0 + s1 : Nat) : Int)) :: some (.lst (cs.map AV.int)) :: []), ((D, .list (sN ds)) :: (O, .list (sN ords)) :: (x, .ob ox) :: (dx, .ob od) :: (l, .list (ps.map pairT)) :: [(54, tab6), (61, tab7)])⟩ : S) PF) :
    Xs (LK prog w B T A fit pm L) (sideB 1) (⟨(some (.lst (xs.map AV.int)) :: some (.tup [.int (s0 : Int), .int (s1 : Int)]) :: some (.int (s0 : Int)) :: some (.tup [.int (b0 : Int), .int (b1 : Int)]) :: none :: some (.raw (.ref l)) :: some (.raw (.ref x)) :: some (.lst (sT (rowsL p (s0 + s1)))) :: some (.int (ov : Int)) :: some (.int (i : Int)) :: some (.lst []) :: none :: none :: none :: none :: none :: none :: none :: none :: none :: none :: none :: none :: some (.lst (postsOf (nmL p (s0 + s1)) s0 s0 s1)) :: some (.lst [.int (e0 : Int), .int (e1 : Int)]) :: some (.lst (ps.map pairT)) :: none :: some (.int (hm : Int)) :: some (.lst [.int sA, .int sB]) :: some (.int stp) :: none :: some (.int ((s0 + 1 : Nat) : Int)) :: some (.int ((s1 + 1 : Nat) : Int)) :: some (.int (u : Int)) :: some (.int f) :: some (.int (nr : Int)) :: some (.int sd) :: some (.tup [.int (ov + f), .int (sd * (e0 * u + nr))]) :: none :: []), (some (.lst (sN (stillL ords (s0 + s1)))) :: some (.lst (postsOf (nmL p (s0 + s1)) s0 e0 e1)) :: some (.raw (.ref O)) :: some (.raw (.ref D)) :: some (.lst (postsOf (nmL p (s0 + s1)) s0 b0 b1)) :: some (.lst (sN sts)) :: some (.lst (sT (nmL p (s0 + s1)))) :: some (.int (p : Int)) :: some (.int ((s0 + s1 : Nat) : Int)) :: some (.lst (cs.map AV.int)) :: []), ((D, .list (sN ds)) :: (O, .list (sN ords)) :: (x, .ob ox) :: (dx, .ob od) :: (l, .list (ps.map pairT)) :: [(54, tab6), (61, tab7)])⟩ : S) PF := by
  refine e2_3 T.f80 ?_
  rintro o80 pm80 ho80 hd80 _
  have hm4 : (s1 + 1) * hm ≤ 4 * 100 := Nat.mul_le_mul (by lia) hov
  have bA : BdI 10 sB := by
    refine rwl hA ?_
    show ((e1 : Int) + ((s1 : Int) + 1) * (hm : Int)).natAbs < 2 ^ 10
    refine rwl (show (e1 : Int) + ((s1 : Int) + 1) * (hm : Int) = ((e1 + (s1 + 1) * hm : Nat) : Int) by rw [Int.natCast_add, Int.natCast_mul]; rfl) ?_
    refine rwl (Int.natAbs_natCast _) ?_
    lia
  have bw : BdI 4 ((s1 + 1 : Nat) : Int) := BdI.nat (by lia)
  refine e0_3 (call_ok (w := s1 + 1) (f2 := -f) hu hs hnr bA (by lia) (by lia) (.inr rfl)) ?_
  rintro c1 c2 c3
  have ef : sB + ((s1 + 1 : Nat) : Int) * (-f) = sB - ((s1 + 1 : Nat) : Int) * f := by rw [Int.mul_neg]; rfl
  rw [ef] at c3
  refine xs_cons ?_
  refine x_assign ?_ rfl
  refine ev_callF (a := 80) ho80 hd80 ?_ rfl
  repeat tb_start
  refine s_lst (by decide) (by decide) rfl ?_
  repeat tb_start
  refine bin_mulB bw hu.bf (by decide) (by decide) ?_
  repeat tb_start
  refine bin_mulB (((bA.mono (by decide)).sub (bw.mul hu.bf))) hu.bu (by decide) (by decide) ?_
  repeat tb_start
  refine bin_mulB (sd_bd hs) ((((((bA.mono (by decide)).sub (bw.mul hu.bf)).mul hu.bu).mono (k := 8710) (by decide))).add ((BdI.nat (k := 4302) (Nat.lt_trans hnr hu.bu)).mono (by decide))) (by decide) (by decide) ?_
  repeat tb_start
  refine bin_mulB (sd_bd hs) bw (by decide) (by decide) ?_
  repeat tb_start
  refine bin_mulB ((sd_bd hs).mul bw) hu.bu (by decide) (by decide) ?_
  repeat tb_start
  refine Con.callK ((con_idm T c1 c2 c3 (t6 := 5) (t7 := 6) rfl rfl).mono ?_) (Nat.le_of_ble_eq_true rfl)
  refine q0_2 ?_
  have hd := divm (x := (sB - ((s1 + 1 : Nat) : Int) * f) * (u : Int) + (nr : Int)) (d := ((s1 + 1 : Nat) : Int) * (u : Int)) (q := (hm : Int) - f) (r := (e1 : Int) * u + nr) hs (by
    refine rwl hA ?_
    have : ((s1 + 1 : Nat) : Int) = (s1 : Int) + 1 := rfl
    refine rwl this ?_
    generalize (s1 : Int) + 1 = W
    refine rwl (Int.sub_mul _ _ _) ?_
    refine rwl (Int.add_mul _ _ _) ?_
    refine rwl (Int.mul_assoc _ _ _) ?_
    refine rwl (Int.mul_sub _ _ _) ?_
    have e1 : W * ((hm : Int) * (u : Int)) = W * (u : Int) * hm := by rw [Int.mul_comm (hm : Int), Int.mul_assoc]
    have e2 : W * f * (u : Int) = W * (u : Int) * f := by rw [Int.mul_assoc, Int.mul_comm f, Int.mul_assoc]
    refine rwl e1 ?_
    refine rwl e2 ?_
    lia) (by have := Int.mul_nonneg (Int.natCast_nonneg e1) (Int.natCast_nonneg u); lia) (by
    have h1 : (e1 + 1) * u ≤ (s1 + 1) * u := Nat.mul_le_mul_right _ (by lia)
    rw [Nat.add_mul, Nat.one_mul] at h1
    have h2 : ((e1 * u + nr : Nat) : Int) < (((s1 + 1) * u : Nat) : Int) := by lia
    rw [Int.natCast_add, Int.natCast_mul, Int.natCast_mul] at h2
    exact h2)
  refine rwl (eT (a := (sd * ((sB - ((s1 + 1 : Nat) : Int) * f) * (u : Int) + (nr : Int))).fdiv (sd * ((s1 + 1 : Nat) : Int) * (u : Int))) (c := hm - f) (d := sd * (e1 * u + nr)) (by rw [Int.mul_assoc sd]; exact hd.1) (by rw [Int.mul_assoc sd]; exact hd.2)) ?_
  tb_start
  refine then_next ?_
  exact @h
end
section
variable {K : Cx} {σ : S} {P : AV → S → Prop}
theorem bin_powE (n : Nat) (hn : n ≤ 10000) (h : ∀ v : Nat, v = 2 ^ n → P (.int (v : Int)) σ) : Bin K .Pow (.int 2) (.int (n : Int)) σ P :=
  bin_pow (by lia) (by
    have : Builtin.Int.intBits 2 = 2 := rfl
    rw [this]; lia) (by
    refine rwl (Int.toNat_natCast _) ?_
    refine rwl (show (2 : Int) ^ n = ((2 ^ n : Nat) : Int) from by rw [Int.natCast_pow]; rfl) ?_
    exact h _ rfl)
end
section
variable {prog : Program} {w : World} {B : HF} {mg mb : Str → Option Value}
theorem segS3 (T : TopOk B mg mb) {A : Around} {fit : Fit A 13} {pm : Value} {L : Addr} {PF : AF → S → Prop} {xs cs : List Int} {sts ds ords : List Nat} {s0 s1 b0 b1 p i ov : Nat} {x dx l D O : Addr} {ox od : Obj} {ps : List (Str × Str)} {e0 e1 hm u nr : Nat} {stp sA sB f sd : Int} (a2 : s0 ≤ 3) (a4 : s1 ≤ 3) (he0 : e0 ≤ s0) (he1 : e1 ≤ s1) (hu : UF u f) (hs : sd = 1 ∨ sd = -1) (hnr : nr < u)
    (h : PF .next (⟨(some (.lst (xs.map AV.int)) :: some (.tup [.int (s0 : Int), .int (s1 : Int)]) :: some (.int (s0 : Int)) :: some (.tup [.int (b0 : Int), .int (b1 : Int)]) :: none :: some (.raw (.ref l)) :: some (.raw (.ref x)) :: some (.lst (sT (rowsL p (s0 + s1)))) :: some (.int (ov : Int)) :: some (.int (i : Int)) :: some (.lst []) :: none :: none :: none :: none :: none :: none :: none :: none :: none :: none :: none :: none :: some (.lst (postsOf (nmL p (s0 + s1)) s0 s0 s1)) :: some (.lst [.int (e0 : Int), .int (e1 : Int)]) :: some (.lst (ps.map pairT)) :: none :: some (.int (hm : Int)) :: some (.lst [.int sA, .int sB]) :: some (.int stp) :: none :: some (.int ((s0 + 1 : Nat) : Int)) :: some (.int ((s1 + 1 : Nat) : Int)) :: some (.int (u : Int)) :: some (.int f) :: some (.int (nr : Int)) :: some (.int sd) :: some (.tup [.int (ov + f), .int (sd * (e0 * u + nr))]) :: some (.tup [.int (hm - f), .int (sd * (e1 * u + nr))]) :: []), (some (.lst (sN (stillL ords (s0 + s1)))) :: some (.lst (postsOf (nmL p (s0 + s1)) s0 e0 e1)) :: some (.raw (.ref O)) :: some (.raw (.ref D)) :: some (.lst (postsOf (nmL p (s0 + s1)) s0 b0 b1)) :: some (.lst (sN sts)) :: some (.lst (sT (nmL p (s0 + s1)))) :: some (.int (p : Int)) :: some (.int ((s0 + s1 : Nat) : Int)) :: some (.lst (cs.map AV.int)) :: []), ((D, .list (sN ds)) :: (O, .list (sN ords)) :: (x, .ob ox) :: (dx, .ob od) :: (l, .list (ps.map pairT)) :: [(54, tab6), (61, tab7)])⟩ : S)) :
    Xs (LK prog w B T A fit pm L) (sideB 2) (⟨(some (.lst (xs.map AV.int)) :: some (.tup [.int (s0 : Int), .int (s1 : Int)]) :: some (.int (s0 : Int)) :: some (.tup [.int (b0 : Int), .int (b1 : Int)]) :: none :: some (.raw (.ref l)) :: some (.raw (.ref x)) :: some (.lst (sT (rowsL p (s0 + s1)))) :: some (.int (ov : Int)) :: some (.int (i : Int)) :: some (.lst []) :: none :: none :: none :: none :: none :: none :: none :: none :: none :: none :: none :: none :: some (.lst (postsOf (nmL p (s0 + s1)) s0 s0 s1)) :: some (.lst [.int (e0 : Int), .int (e1 : Int)]) :: some (.lst (ps.map pairT)) :: none :: some (.int (hm : Int)) :: some (.lst [.int sA, .int sB]) :: some (.int stp) :: none :: some (.int ((s0 + 1 : Nat) : Int)) :: some (.int ((s1 + 1 : Nat) : Int)) :: some (.int (u : Int)) :: some (.int f) :: some (.int (nr : Int)) :: some (.int sd) :: some (.tup [.int (ov + f), .int (sd * (e0 * u + nr))]) :: some (.tup [.int (hm - f), .int (sd * (e1 * u + nr))]) :: []), (some (.lst (sN (stillL ords (s0 + s1)))) :: some (.lst (postsOf (nmL p (s0 + s1)) s0 e0 e1)) :: some (.raw (.ref O)) :: some (.raw (.ref D)) :: some (.lst (postsOf (nmL p (s0 + s1)) s0 b0 b1)) :: some (.lst (sN sts)) :: some (.lst (sT (nmL p (s0 + s1)))) :: some (.int (p : Int)) :: some (.int ((s0 + s1 : Nat) : Int)) :: some (.lst (cs.map AV.int)) :: []), ((D, .list (sN ds)) :: (O, .list (sN ords)) :: (x, .ob ox) :: (dx, .ob od) :: (l, .list (ps.map pairT)) :: [(54, tab6), (61, tab7)])⟩ : S) PF := by
  have b0 : BdI 4 (e0 : Int) := BdI.nat (by lia)
  have b1 : BdI 4 (e1 : Int) := BdI.nat (by lia)
  have bn : BdI 4306 (nr : Int) := (BdI.nat (k := 4302) (Nat.lt_trans hnr hu.bu)).mono (by decide)
  refine xs_cons ?_
  repeat tb_start
  refine ev_tuple ?_
  repeat tb_start
  refine s_lst (by decide) (by decide) rfl ?_
  repeat tb_start
  refine bin_mulB b0 hu.bu (by decide) (by decide) ?_
  repeat tb_start
  refine bin_mulB (sd_bd hs) ((b0.mul hu.bu).add bn) (by decide) (by decide) ?_
  repeat tb_start
  refine ⟨by rw [sizeLine_eq]; exact Nat.le_of_ble_eq_true rfl, ?_⟩
  refine cmp_ned (Has.self rfl) (Has.self rfl) rfl rfl (by show (1 : Nat) ≤ 8; decide) fun c hc => ?_
  tb_start
  refine ite_f (by
    cases c with
    | false => rfl
    | true => exact absurd rfl (hc.mp rfl)) ?_
  repeat tb_start
  refine ev_tuple ?_
  repeat tb_start
  refine s_lst (by decide) (by decide) rfl ?_
  repeat tb_start
  refine bin_mulB b1 hu.bu (by decide) (by decide) ?_
  repeat tb_start
  refine bin_mulB (sd_bd hs) ((b1.mul hu.bu).add bn) (by decide) (by decide) ?_
  repeat tb_start
  refine ⟨by rw [sizeLine_eq]; exact Nat.le_of_ble_eq_true rfl, ?_⟩
  refine cmp_ned (Has.self rfl) (Has.self rfl) rfl rfl (by show (1 : Nat) ≤ 8; decide) fun c hc => ?_
  tb_start
  refine ite_f (by
    cases c with
    | false => rfl
    | true => exact absurd rfl (hc.mp rfl)) ?_
  tb_start
  refine ite_f rfl ?_
  refine xs_nil ?_
  refine then_next ?_
  refine xs_nil ?_
  exact h
theorem segU (T : TopOk B mg mb) {A : Around} {fit : Fit A 13} {pm : Value} {L : Addr} {PF : AF → S → Prop} {xs cs : List Int} {sts ds ords : List Nat} {s0 s1 b0 b1 p i ov : Nat} {x dx l D O : Addr} {ox od : Obj} {ps : List (Str × Str)} {e0 e1 hm u : Nat} {stp sA sB f : Int} (a1 : 1 ≤ s0) (a2 : s0 ≤ 3) (a3 : 1 ≤ s1) (a4 : s1 ≤ 3) (he0 : e0 ≤ s0) (he1 : e1 ≤ s1) (hov : ov ≤ 100) (hhm : hm ≤ 100) (hA : sA = e0 + (s0 + 1) * ov) (hB : sB = e1 + (s1 + 1) * hm) (hc : cs.length = 8) (hu : UF u f)
    (h : ∀ nr : Nat, PF .next (⟨(some (.lst (xs.map AV.int)) :: some (.tup [.int (s0 : Int), .int (s1 : Int)]) :: some (.int (s0 : Int)) :: some (.tup [.int (b0 : Int), .int (b1 : Int)]) :: none :: some (.raw (.ref l)) :: some (.raw (.ref x)) :: some (.lst (sT (rowsL p (s0 + s1)))) :: some (.int (ov : Int)) :: some (.int (i : Int)) :: some (.lst []) :: none :: none :: none :: none :: none :: none :: none :: none :: none :: none :: none :: none :: some (.lst (postsOf (nmL p (s0 + s1)) s0 s0 s1)) :: some (.lst [.int (e0 : Int), .int (e1 : Int)]) :: some (.lst (ps.map pairT)) :: none :: some (.int (hm : Int)) :: some (.lst [.int sA, .int sB]) :: some (.int stp) :: none :: some (.int ((s0 + 1 : Nat) : Int)) :: some (.int ((s1 + 1 : Nat) : Int)) :: some (.int (u : Int)) :: some (.int f) :: some (.int (nr : Int)) :: none :: none :: none :: []), (some (.lst (sN (stillL ords (s0 + s1)))) :: some (.lst (postsOf (nmL p (s0 + s1)) s0 e0 e1)) :: some (.raw (.ref O)) :: some (.raw (.ref D)) :: some (.lst (postsOf (nmL p (s0 + s1)) s0 b0 b1)) :: some (.lst (sN sts)) :: some (.lst (sT (nmL p (s0 + s1)))) :: some (.int (p : Int)) :: some (.int ((s0 + s1 : Nat) : Int)) :: some (.lst (cs.map AV.int)) :: []), ((D, .list (sN ds)) :: (O, .list (sN ords)) :: (x, .ob ox) :: (dx, .ob od) :: (l, .list (ps.map pairT)) :: [(54, tab6), (61, tab7)])⟩ : S)) :
    Xs (LK prog w B T A fit pm L) (unitB 0) (⟨(some (.lst (xs.map AV.int)) :: some (.tup [.int (s0 : Int), .int (s1 : Int)]) :: some (.int (s0 : Int)) :: some (.tup [.int (b0 : Int), .int (b1 : Int)]) :: none :: some (.raw (.ref l)) :: some (.raw (.ref x)) :: some (.lst (sT (rowsL p (s0 + s1)))) :: some (.int (ov : Int)) :: some (.int (i : Int)) :: some (.lst []) :: none :: none :: none :: none :: none :: none :: none :: none :: none :: none :: none :: none :: some (.lst (postsOf (nmL p (s0 + s1)) s0 s0 s1)) :: some (.lst [.int (e0 : Int), .int (e1 : Int)]) :: some (.lst (ps.map pairT)) :: none :: some (.int (hm : Int)) :: some (.lst [.int sA, .int sB]) :: some (.int stp) :: none :: some (.int ((s0 + 1 : Nat) : Int)) :: some (.int ((s1 + 1 : Nat) : Int)) :: some (.int (u : Int)) :: some (.int f) :: none :: none :: none :: none :: []), (some (.lst (sN (stillL ords (s0 + s1)))) :: some (.lst (postsOf (nmL p (s0 + s1)) s0 e0 e1)) :: some (.raw (.ref O)) :: some (.raw (.ref D)) :: some (.lst (postsOf (nmL p (s0 + s1)) s0 b0 b1)) :: some (.lst (sN sts)) :: some (.lst (sT (nmL p (s0 + s1)))) :: some (.int (p : Int)) :: some (.int ((s0 + s1 : Nat) : Int)) :: some (.lst (cs.map AV.int)) :: []), ((D, .list (sN ds)) :: (O, .list (sN ords)) :: (x, .ob ox) :: (dx, .ob od) :: (l, .list (ps.map pairT)) :: [(54, tab6), (61, tab7)])⟩ : S) PF := by
  refine xs_cons ?_
  repeat tb_start
  refine s_lst (v := .int (cs[6]'(by lia))) (by decide) (by decide) (by rw [show ((6 : Int)).toNat = 6 from rfl, List.getElem?_map, List.getElem?_eq_getElem (by lia)]; rfl) ?_
  repeat tb_start
  refine bin_modN u hu.pos fun nr hnr => ?_
  tb_start
  refine then_next ?_
  refine xs_cons ?_
  refine x_for ?_
  refine ev_tuple ?_
  repeat tb_start
  refine ⟨by rw [sizeLine_eq]; exact Nat.le_of_ble_eq_true rfl, ?_⟩
  let JJ : Nat → S → Prop := fun k σ => σ = (⟨(some (.lst (xs.map AV.int)) :: some (.tup [.int (s0 : Int), .int (s1 : Int)]) :: some (.int (s0 : Int)) :: some (.tup [.int (b0 : Int), .int (b1 : Int)]) :: none :: some (.raw (.ref l)) :: some (.raw (.ref x)) :: some (.lst (sT (rowsL p (s0 + s1)))) :: some (.int (ov : Int)) :: some (.int (i : Int)) :: some (.lst []) :: none :: none :: none :: none :: none :: none :: none :: none :: none :: none :: none :: none :: some (.lst (postsOf (nmL p (s0 + s1)) s0 s0 s1)) :: some (.lst [.int (e0 : Int), .int (e1 : Int)]) :: some (.lst (ps.map pairT)) :: none :: some (.int (hm : Int)) :: some (.lst [.int sA, .int sB]) :: some (.int stp) :: none :: some (.int ((s0 + 1 : Nat) : Int)) :: some (.int ((s1 + 1 : Nat) : Int)) :: some (.int (u : Int)) :: some (.int f) :: some (.int (nr : Int)) :: none :: none :: none :: []), (some (.lst (sN (stillL ords (s0 + s1)))) :: some (.lst (postsOf (nmL p (s0 + s1)) s0 e0 e1)) :: some (.raw (.ref O)) :: some (.raw (.ref D)) :: some (.lst (postsOf (nmL p (s0 + s1)) s0 b0 b1)) :: some (.lst (sN sts)) :: some (.lst (sT (nmL p (s0 + s1)))) :: some (.int (p : Int)) :: some (.int ((s0 + s1 : Nat) : Int)) :: some (.lst (cs.map AV.int)) :: []), ((D, .list (sN ds)) :: (O, .list (sN ords)) :: (x, .ob ox) :: (dx, .ob od) :: (l, .list (ps.map pairT)) :: [(54, tab6), (61, tab7)])⟩ : S)
  refine ⟨_, _, walk_tup, JJ, fun _ _ _ => True.intro, rfl, ?_, ?_⟩
  · rintro k v σ hv rfl
    obtain ⟨sd, rfl, hs⟩ : ∃ sd : Int, v = .int sd ∧ (sd = 1 ∨ sd = -1) := by
      match k, hv with
      | 0, e => exact ⟨1, (Option.some.inj e).symm, .inl rfl⟩
      | 1, e => exact ⟨-1, (Option.some.inj e).symm, .inr rfl⟩
    refine asg_name ?_
    tb_start
    refine segS1 T a1 a2 hu hs hnr he0 hov hA ?_
    refine segS2 T a4 a3 hu hs hnr he1 hhm hB ?_
    refine segS3 T a2 a4 he0 he1 hu hs hnr ?_
    refine turn_next ?_
    exact ⟨_, Le.vars [true, true, true, true, true, true, true, true, true, true, true, true, true, true, true, true, true, true, true, true, true, true, true, true, true, true, true, true, true, true, true, true, true, true, true, true, false, false, false], rfl⟩
  · rintro σ rfl
    refine xs_nil ?_
    refine then_next ?_
    refine xs_nil ?_
    exact h nr
theorem segB11 (T : TopOk B mg mb) {A : Around} {fit : Fit A 13} {pm : Value} {L : Addr} {PF : AF → S → Prop} {xs cs : List Int} {sts ds ords : List Nat} {s0 s1 b0 b1 p i ov : Nat} {x dx l D O : Addr} {ox od : Obj} {ps : List (Str × Str)} {e0 e1 hm : Nat} {stp sA sB : Int} (a1 : 1 ≤ s0) (a2 : s0 ≤ 3) (a3 : 1 ≤ s1) (a4 : s1 ≤ 3) (he0 : e0 ≤ s0) (he1 : e1 ≤ s1) (hov : ov ≤ 100) (hhm : hm ≤ 100) (hA : sA = e0 + (s0 + 1) * ov) (hB : sB = e1 + (s1 + 1) * hm) (hc : cs.length = 8)
    (h : PF (.ret (.bool ((i : Int) == stp))) (⟨(some (.lst (xs.map AV.int)) :: some (.tup [.int (s0 : Int), .int (s1 : Int)]) :: some (.int (s0 : Int)) :: some (.tup [.int (b0 : Int), .int (b1 : Int)]) :: none :: some (.raw (.ref l)) :: some (.raw (.ref x)) :: some (.lst (sT (rowsL p (s0 + s1)))) :: some (.int (ov : Int)) :: some (.int (i : Int)) :: some (.lst []) :: none :: none :: none :: none :: none :: none :: none :: none :: none :: none :: none :: none :: some (.lst (postsOf (nmL p (s0 + s1)) s0 s0 s1)) :: some (.lst [.int (e0 : Int), .int (e1 : Int)]) :: some (.lst (ps.map pairT)) :: none :: some (.int (hm : Int)) :: some (.lst [.int sA, .int sB]) :: some (.int stp) :: none :: some (.int ((s0 + 1 : Nat) : Int)) :: some (.int ((s1 + 1 : Nat) : Int)) :: none :: none :: none :: none :: none :: none :: []), (some (.lst (sN (stillL ords (s0 + s1)))) :: some (.lst (postsOf (nmL p (s0 + s1)) s0 e0 e1)) :: some (.raw (.ref O)) :: some (.raw (.ref D)) :: some (.lst (postsOf (nmL p (s0 + s1)) s0 b0 b1)) :: some (.lst (sN sts)) :: some (.lst (sT (nmL p (s0 + s1)))) :: some (.int (p : Int)) :: some (.int ((s0 + s1 : Nat) : Int)) :: some (.lst (cs.map AV.int)) :: []), ((D, .list (sN ds)) :: (O, .list (sN ords)) :: (x, .ob ox) :: (dx, .ob od) :: (l, .list (ps.map pairT)) :: [(54, tab6), (61, tab7)])⟩ : S)) :
    Xs (LK prog w B T A fit pm L) (lawB 31) (⟨(some (.lst (xs.map AV.int)) :: some (.tup [.int (s0 : Int), .int (s1 : Int)]) :: some (.int (s0 : Int)) :: some (.tup [.int (b0 : Int), .int (b1 : Int)]) :: none :: some (.raw (.ref l)) :: some (.raw (.ref x)) :: some (.lst (sT (rowsL p (s0 + s1)))) :: some (.int (ov : Int)) :: some (.int (i : Int)) :: some (.lst []) :: none :: none :: none :: none :: none :: none :: none :: none :: none :: none :: none :: none :: some (.lst (postsOf (nmL p (s0 + s1)) s0 s0 s1)) :: some (.lst [.int (e0 : Int), .int (e1 : Int)]) :: some (.lst (ps.map pairT)) :: none :: some (.int (hm : Int)) :: some (.lst [.int sA, .int sB]) :: some (.int stp) :: none :: none :: none :: none :: none :: none :: none :: none :: none :: []), (some (.lst (sN (stillL ords (s0 + s1)))) :: some (.lst (postsOf (nmL p (s0 + s1)) s0 e0 e1)) :: some (.raw (.ref O)) :: some (.raw (.ref D)) :: some (.lst (postsOf (nmL p (s0 + s1)) s0 b0 b1)) :: some (.lst (sN sts)) :: some (.lst (sT (nmL p (s0 + s1)))) :: some (.int (p : Int)) :: some (.int ((s0 + s1 : Nat) : Int)) :: some (.lst (cs.map AV.int)) :: []), ((D, .list (sN ds)) :: (O, .list (sN ords)) :: (x, .ob ox) :: (dx, .ob od) :: (l, .list (ps.map pairT)) :: [(54, tab6), (61, tab7)])⟩ : S) PF := by
  refine xs_cons ?_
  refine x_swap ["low", "high"] ?_ rfl rfl
  refine ev_tuple ?_
  repeat tb_start
  refine s_tup (j := 0) rfl rfl ?_
  repeat tb_start
  refine s_tup (j := 1) rfl rfl ?_
  repeat tb_start
  refine ⟨by rw [sizeLine_eq]; exact Nat.le_of_ble_eq_true rfl, _, rfl, rfl, ?_⟩
  refine stol_cons (e := "high") ?_
  tb_start
  refine stol_cons (e := "low") ?_
  tb_start
  refine stol_nil ?_
  refine then_next ?_
  refine xs_cons ?_
  refine x_for ?_
  refine ev_tuple ?_
  repeat tb_start
  refine ev_tuple ?_
  repeat tb_start
  refine ⟨by rw [sizeLine_eq]; exact Nat.le_of_ble_eq_true rfl, ?_⟩
  repeat tb_start
  refine ev_tuple ?_
  repeat tb_start
  refine bin_powE 4300 (by decide) fun p1 hp1 => ?_
  repeat tb_start
  refine bin_powE 2150 (by decide) fun p2 hp2 => ?_
  repeat tb_start
  refine bin_powE 4400 (by decide) fun p3 hp3 => ?_
  repeat tb_start
  refine bin_powE 4290 (by decide) fun p4 hp4 => ?_
  repeat tb_start
  refine s_lst (v := .int (cs[7]'(by lia))) (by decide) (by decide) (by rw [show ((7 : Int)).toNat = 7 from rfl, List.getElem?_map, List.getElem?_eq_getElem (by lia)]; rfl) ?_
  repeat tb_start
  refine bin_modN 64 (by decide) fun r hr => ?_
  repeat tb_start
  refine ⟨by rw [sizeLine_eq]; exact Nat.le_of_ble_eq_true rfl, ?_⟩
  repeat tb_start
  refine ⟨by rw [sizeLine_eq]; exact Nat.le_of_ble_eq_true rfl, ?_⟩
  have q1 : p1 = 2 ^ 4300 := hp1
  have hp1' : 1 ≤ p1 := by rw [hp1]; exact Nat.one_le_two_pow
  have hp2' : 1 ≤ p2 ∧ p2 < 2 ^ 4300 := by rw [hp2]; exact ⟨Nat.one_le_two_pow, Nat.pow_lt_pow_right (by decide) (by decide)⟩
  have hp3' : p3 < 2 ^ 4401 := by rw [hp3]; exact Nat.pow_lt_pow_right (by decide) (by decide)
  have hp4' : p4 < 2 ^ 4401 := by rw [hp4]; exact Nat.pow_lt_pow_right (by decide) (by decide)
  have hpw : (2 : Nat) ^ 4302 = 2 ^ 4300 * 4 := by rw [show 4302 = 4300 + 2 from rfl, Nat.pow_add]
  have hpx : (2 : Nat) ^ 4402 = 2 ^ 4401 * 2 := by rw [show 4402 = 4401 + 1 from rfl, Nat.pow_succ]
  have eU : (p1 : Int) + (p2 : Int) - 1 = ((p1 + p2 - 1 : Nat) : Int) := by lia
  have uf : UF (p1 + p2 - 1) ((p3 : Int) + (p4 : Int) - 1 - (r : Int)) := by
    refine .inr ⟨by rw [← q1]; lia, by rw [hpw, ← q1]; rw [← q1] at hp2'; lia, ?_⟩
    unfold BdI
    refine rwl hpx ?_
    have h4 : 64 ≤ p3 := by rw [hp3]; exact Nat.le_trans (show 64 ≤ 2 ^ 6 by decide) (Nat.pow_le_pow_right (by decide) (show 6 ≤ 4400 by decide))
    lia
  refine rwl eU ?_
  let JJ : Nat → S → Prop := fun k σ => σ = (⟨(some (.lst (xs.map AV.int)) :: some (.tup [.int (s0 : Int), .int (s1 : Int)]) :: some (.int (s0 : Int)) :: some (.tup [.int (b0 : Int), .int (b1 : Int)]) :: none :: some (.raw (.ref l)) :: some (.raw (.ref x)) :: some (.lst (sT (rowsL p (s0 + s1)))) :: some (.int (ov : Int)) :: some (.int (i : Int)) :: some (.lst []) :: none :: none :: none :: none :: none :: none :: none :: none :: none :: none :: none :: none :: some (.lst (postsOf (nmL p (s0 + s1)) s0 s0 s1)) :: some (.lst [.int (e0 : Int), .int (e1 : Int)]) :: some (.lst (ps.map pairT)) :: none :: some (.int (hm : Int)) :: some (.lst [.int sA, .int sB]) :: some (.int stp) :: none :: some (.int ((s0 + 1 : Nat) : Int)) :: some (.int ((s1 + 1 : Nat) : Int)) :: none :: none :: none :: none :: none :: none :: []), (some (.lst (sN (stillL ords (s0 + s1)))) :: some (.lst (postsOf (nmL p (s0 + s1)) s0 e0 e1)) :: some (.raw (.ref O)) :: some (.raw (.ref D)) :: some (.lst (postsOf (nmL p (s0 + s1)) s0 b0 b1)) :: some (.lst (sN sts)) :: some (.lst (sT (nmL p (s0 + s1)))) :: some (.int (p : Int)) :: some (.int ((s0 + s1 : Nat) : Int)) :: some (.lst (cs.map AV.int)) :: []), ((D, .list (sN ds)) :: (O, .list (sN ords)) :: (x, .ob ox) :: (dx, .ob od) :: (l, .list (ps.map pairT)) :: [(54, tab6), (61, tab7)])⟩ : S)
  refine ⟨_, _, walk_tup, JJ, fun _ _ _ => True.intro, rfl, ?_, ?_⟩
  · rintro k v σ hv rfl
    obtain ⟨u, f, rfl, hu⟩ : ∃ (u : Nat) (f : Int), v = .tup [.int (u : Int), .int f] ∧ UF u f := by
      match k, hv with
      | 0, e => exact ⟨1, 0, (Option.some.inj e).symm, .inl ⟨rfl, rfl⟩⟩
      | 1, e => exact ⟨_, _, (Option.some.inj e).symm, uf⟩
    refine asg_tup ?_
    refine asgl_cons (asg_name ?_)
    tb_start
    refine asgl_cons (asg_name ?_)
    tb_start
    refine asgl_nil ?_
    refine segU T a1 a2 a3 a4 he0 he1 hov hhm hA hB hc hu fun nr => ?_
    refine turn_next ?_
    exact ⟨_, Le.vars [true, true, true, true, true, true, true, true, true, true, true, true, true, true, true, true, true, true, true, true, true, true, true, true, true, true, true, true, true, true, true, true, true, false, false, false, false, false, false], rfl⟩
  · rintro σ rfl
    refine xs_nil ?_
    refine then_next ?_
    refine xs_cons ?_
    repeat tb_start
    exact h
end
end

section
open PySem PySem.P PyProof.Rows
theorem count_nat (l : List Nat) (j : Nat) : (l.map Int.ofNat).count (j : Int) = l.count j := by
  induction l with
  | nil => rfl
  | cons a r ih =>
    refine rwl List.map_cons ?_
    refine rwl List.count_cons ?_
    refine rwl List.count_cons ?_
    refine rwl ih ?_
    congr 1
    by_cases e : a = j
    · subst e
      rw [show (Int.ofNat a == (a : Int)) = true from beq_self_eq_true _, if_pos rfl, if_pos (beq_self_eq_true _)]
    · rw [if_neg (by intro z; have := eq_of_beq z; exact e (Int.ofNat.inj this)), if_neg (by intro z; exact e (eq_of_beq z))]
theorem count_neg (l : List Nat) : (l.map Int.ofNat).count (-1 : Int) = 0 := by
  refine List.count_eq_zero.mpr fun h => ?_
  refine e1_2 (List.mem_map.mp h) ?_
  rintro a _ e
  have : (0 : Int) ≤ Int.ofNat a := Int.natCast_nonneg a
  lia
theorem sum_counts (A : Nat → Int) (n : Nat) : ∀ l : List Nat, (∀ x ∈ l, x < n) → sumTo (fun j => ((l.count j : Nat) : Int) * A j) n = sumL A l
  | [], _ => by
    rw [sumTo_zero]
    · rfl
    · intro j _; simp
  | x :: l, h => by
    have ih := sum_counts A n l fun y hy => h y (.tail _ hy)
    have hx := h x (.head _)
    rw [sumTo_congr (g := fun j => ((l.count j : Nat) : Int) * A j + if j = x then A x else 0) (fun j _ => ?_), sumTo_add, ih, sumTo_point, if_pos hx]
    · show sumL A l + A x = A x + (List.map A l).sum
      unfold sumL
      lia
    · refine rwl List.count_cons ?_
      by_cases e : j = x
      · subst e
        refine rwl (if_pos (beq_self_eq_true _)) ?_
        refine rwl (if_pos rfl) ?_
        refine rwl (Int.natCast_add _ _) ?_
        refine rwl (Int.add_mul _ _ _) ?_
        show _ + 1 * A j = _
        lia
      · refine rwl (if_neg (by intro z; exact e (eq_of_beq z).symm)) ?_
        refine rwl (if_neg e) ?_
        simp
section
variable {s0 s1 b0 b1 p : Nat} {sts : List Nat}
theorem d0_succ (j : Nat) : d0 sts (j + 1) = sts.count j + 1 := by
  unfold d0
  rw [show ((j + 1 : Nat) : Int) - 1 = (j : Int) by lia, count_nat]
theorem d0_zero : d0 sts 0 = 1 := by
  unfold d0
  rw [show ((0 : Nat) : Int) - 1 = -1 by decide, count_neg]
theorem ds0_D {n k : Nat} (h : k < n) : (ds0 sts n).getD k 0 = d0 sts k := by
  unfold ds0
  rw [List.getD_eq_getElem?_getD, List.getElem?_map, List.getElem?_range h]; rfl
theorem lin_start (A Bf : Nat → Int) (ah : Nat → Bool) {n : Nat} (h : ∀ x ∈ sts, x < n) :
    lin A Bf (fun k => (ds0 sts (n + 2)).getD k 0) ah n = sumL A sts + sumTo (fun j => if ah j then Bf j else 0) n := by
  unfold lin
  rw [sumTo_congr (g := fun j => ((sts.count j : Nat) : Int) * A j + if ah j then Bf j else 0) (fun j hj => ?_), sumTo_add, sum_counts A n sts h]
  show (((ds0 sts (n + 2)).getD (j + 1) 0 : Int) - 1) * A j + _ = _
  refine rwl (ds0_D (by lia)) ?_
  refine rwl (d0_succ _) ?_
  congr 2
  lia
theorem sumTo_shift (f : Nat → Int) : ∀ n, sumTo f (n + 1) = f 0 + sumTo (fun j => f (j + 1)) n
  | 0 => by show 0 + f 0 = f 0 + 0; lia
  | n + 1 => by rw [sumTo, sumTo_shift f n, sumTo]; lia
theorem sumL_one (l : List Nat) : sumL (fun _ => 1) l = (l.length : Int) := by
  induction l with
  | nil => rfl
  | cons a r ih =>
    show 1 + sumL (fun _ => 1) r = _
    refine rwl ih ?_
    refine rwl List.length_cons ?_
    lia
theorem all_start {n : Nat} (h : ∀ x ∈ sts, x < n) (hl : sts.length = 4) : sumTo (fun j => ((ds0 sts (n + 2)).getD j 0 : Int) - 1) (n + 2) = 4 := by
  rw [sumTo_shift, sumTo]
  have e0 : ((ds0 sts (n + 2)).getD 0 0 : Int) - 1 = 0 := by rw [ds0_D (by lia), d0_zero]; rfl
  have e1 : ((ds0 sts (n + 2)).getD (n + 1) 0 : Int) - 1 = 0 := by
    rw [ds0_D (by lia), d0_succ, List.count_eq_zero.mpr (fun z => Nat.lt_irrefl _ (h n z))]; rfl
  rw [sumTo_congr (g := fun j => ((sts.count j : Nat) : Int) * (fun _ => 1) j) (fun j hj => ?_), sum_counts (fun _ => 1) n sts h, sumL_one, hl]
  · rw [e0, e1]; rfl
  · show ((ds0 sts (n + 2)).getD (j + 1) 0 : Int) - 1 = _
    refine rwl (ds0_D (by lia)) ?_
    refine rwl (d0_succ _) ?_
    show _ = ((sts.count j : Nat) : Int) * 1
    lia
theorem sumL_le {g : Nat → Int} {c : Int} : ∀ {l : List Nat}, (∀ x ∈ l, g x ≤ c) → sumL g l ≤ c * l.length
  | [], _ => by show (0 : Int) ≤ c * 0; lia
  | a :: r, h => by
    have h1 := h a (.head _)
    have h2 := sumL_le (l := r) fun x hx => h x (.tail _ hx)
    show g a + sumL g r ≤ _
    refine rwl List.length_cons ?_
    have : c * ((r.length + 1 : Nat) : Int) = c * (r.length : Int) + c := by rw [Int.natCast_add, Int.mul_add]; show _ + c * 1 = _; rw [Int.mul_one]
    lia
theorem sumL_add (f g : Nat → Int) : ∀ l : List Nat, sumL (fun j => f j + g j) l = sumL f l + sumL g l
  | [] => rfl
  | a :: r => by
    show (f a + g a) + sumL (fun j => f j + g j) r = (f a + sumL f r) + (g a + sumL g r)
    rw [sumL_add f g r]; lia
theorem sumL_mul (f : Nat → Int) (c : Int) : ∀ l : List Nat, sumL (fun j => c * f j) l = c * sumL f l
  | [] => by show (0 : Int) = c * 0; lia
  | a :: r => by
    show c * f a + sumL (fun j => c * f j) r = c * (f a + sumL f r)
    rw [sumL_mul f c r, Int.mul_add]
noncomputable def bsqB (s b : Nat) : Bool := decide ((b : Int) * ((s : Int) - b) ≤ 2)
theorem bsq {s b : Nat} (h1 : s ≤ 3) (h2 : b ≤ s) : (b : Int) * ((s : Int) - b) ≤ 2 := by
  have key : ([0, 1, 2, 3].all fun s => (List.range (s + 1)).all fun b => bsqB s b) = true := by decide +kernel
  have hs : s ∈ [0, 1, 2, 3] := by simp; lia
  have h3 := List.all_eq_true.mp (List.all_eq_true.mp key s hs) b (List.mem_range.mpr (by lia))
  exact of_decide_eq_true h3
theorem facts_hgt {h : Nat} (a1 : 1 ≤ s0) (a2 : s0 ≤ 3) (b1 : 1 ≤ s1) (b2 : s1 ≤ 3) (hh : h < s0 + s1) : hgt s0 s1 h + s1 * onS0 s0 h ≤ 7 := by
  have := street_facts a1 a2 b1 b2 hh
  unfold sfB at this
  simp only [Bool.and_eq_true, decide_eq_true_eq] at this
  exact this.1.2
theorem start_bound (a1 : 1 ≤ s0) (a2 : s0 ≤ 3) (a3 : 1 ≤ s1) (a4 : s1 ≤ 3) (h5 : b0 ≤ s0) (h6 : b1 ≤ s1) (h : ∀ x ∈ sts, x < s0 + s1) (hl : sts.length = 4) :
    (sumL (hgt s0 s1) sts + ((b0 : Int) * (s0 - b0) + b1 * (s1 - b1))) + sumL (onS0 s0) sts * s1 ≤ 32 := by
  have h1 := sumL_le (g := fun j => hgt s0 s1 j + s1 * onS0 s0 j) (c := 7) fun x hx => facts_hgt a1 a2 a3 a4 (h x hx)
  rw [sumL_add, sumL_mul, hl] at h1
  have h2 := bsq a2 h5
  have h3 := bsq a4 h6
  refine rwl (Int.mul_comm (sumL (onS0 s0) sts) _) ?_
  lia
theorem pre_drop {j : Nat} (hj : j + 1 ≠ s0) (h : pre s0 b0 b1 j = false) (k : pre s0 b0 b1 (j + 1) = true) : False := by
  unfold pre at h k
  split at h <;> split at k
  · have := of_decide_eq_false h; have := of_decide_eq_true k; lia
  · lia
  · lia
  · have := of_decide_eq_false h; have := of_decide_eq_true k; lia
theorem start_inv (a1 : 1 ≤ s0) (a2 : s0 ≤ 3) (a3 : 1 ≤ s1) (a4 : s1 ≤ 3) (h5 : b0 ≤ s0) (h6 : b1 ≤ s1) (h : ∀ x ∈ sts, x < s0 + s1) (hl : sts.length = 4) :
    Inv s0 s1 (sumL (hgt s0 s1) sts + ((b0 : Int) * (s0 - b0) + b1 * (s1 - b1))) (sumL (pa0 s0) sts + b0) (sumL (pa1 s0) sts + b1) (sumL (onS0 s0) sts) (fun k => (ds0 sts (s0 + s1 + 2)).getD k 0) (pre s0 b0 b1) 0 0 := by
  refine e0_3 (pre_sums a1 a2 a3 a4 h5 h6) ?_
  rintro p1 p2 p3
  refine ⟨fun k hk => ?_, all_start h hl, ?_, ?_, ?_, fun j _ hj e1 e2 => (pre_drop hj e1 e2).elim, ?_⟩
  · show 1 ≤ (ds0 sts (s0 + s1 + 2)).getD k 0
    refine rwl (ds0_D hk) ?_
    unfold d0
    lia
  · refine rwl (lin_start _ _ _ h) ?_
    refine rwl p1 ?_
    show _ + (0 : Int) = _ + 0 * _
    rw [Int.zero_mul]
  · refine rwl (lin_start _ _ _ h) ?_
    refine rwl p2 ?_
    show _ + _ * (0 : Int) = _
    rw [Int.mul_zero, Int.add_zero]
  · refine rwl (lin_start _ _ _ h) ?_
    refine rwl p3 ?_
    have : ((ds0 sts (s0 + s1 + 2)).getD (s0 + s1 + 1) 0 : Int) - 1 = 0 := by
      rw [ds0_D (by lia), d0_succ, List.count_eq_zero.mpr (fun z => Nat.lt_irrefl _ (h _ z))]; rfl
    show _ + _ * (((ds0 sts (s0 + s1 + 2)).getD (s0 + s1 + 1) 0 : Int) - 1) = _ + (0 : Int)
    rw [this, Int.mul_zero]
  · refine rwl (lin_start _ _ _ h) ?_
    refine rwl (sumTo_zero (by intro j _; split <;> rfl)) ?_
    show (0 : Int) + (_ + 0) ≤ _
    lia
theorem still_nil (n : Nat) : stillL [] n = List.range n := by
  unfold stillL
  rw [List.filter_eq_self]
  intro a _
  rfl
theorem start_LInv (a1 : 1 ≤ s0) (a2 : s0 ≤ 3) (a3 : 1 ≤ s1) (a4 : s1 ≤ 3) (h5 : b0 ≤ s0) (h6 : b1 ≤ s1) (h : ∀ x ∈ sts, x < s0 + s1) (hl : sts.length = 4) :
    LInv s0 s1 p (sumL (hgt s0 s1) sts + ((b0 : Int) * (s0 - b0) + b1 * (s1 - b1))) (sumL (pa0 s0) sts + b0) (sumL (pa1 s0) sts + b1) (sumL (onS0 s0) sts) 0 (ds0 sts (s0 + s1 + 2)) [] 0 (pre s0 b0 b1) (bkL p (postOf (nmL p (s0 + s1)) s0 b0 b1) (s0 + s1)) := by
  refine ⟨start_inv a1 a2 a3 a4 h5 h6 h hl, ds0_len _ _, List.nodup_nil, fun j hj => absurd hj List.not_mem_nil, ?_⟩
  unfold tabOf
  rw [still_nil, tabO, List.append_nil]
  rfl
theorem over_le {P0 S0 S1 N0 : Int} {t ov : Nat} {ds ords : List Nat} {ah : Nat → Bool} {ps : List (Str × Str)} (I : LInv s0 s1 p P0 S0 S1 N0 t ds ords ov ah ps) (hN : N0 ≤ 4) : ov ≤ 100 := by
  have h1 := I.inv.few
  have h2 : 0 ≤ lin (onS0 s0) (fun _ => 0) (fun k => ds.getD k 0) ah (s0 + s1) := by
    unfold lin
    refine sumTo_nonneg fun j hj => ?_
    have h3 := (I.le5 (k := j + 1) (by lia)).1
    have h4 : 0 ≤ onS0 s0 j := by unfold onS0; split <;> decide
    have h5 : 0 ≤ (((ds.getD (j + 1) 0 : Nat) : Int) - 1) * onS0 s0 j := Int.mul_nonneg (by lia) h4
    show 0 ≤ (((ds.getD (j + 1) 0 : Nat) : Int) - 1) * onS0 s0 j + (if ah j = true then (0 : Int) else 0)
    split <;> lia
  lia
theorem N0_le (hl : sts.length = 4) : sumL (onS0 s0) sts ≤ 4 := by
  have := sumL_le (g := onS0 s0) (c := 1) (l := sts) fun x _ => by unfold onS0; split <;> decide
  rw [hl] at this
  lia
end
section
variable {prog : Program} {w : World} {B : HF} {mg mb : Str → Option Value}
theorem segFin (T : TopOk B mg mb) (P : Pats B) (C : ClsOk B) {A : Around} {fit : Fit A 13} {pm : Value} {L : Addr} {PF : AF → S → Prop} {xs cs : List Int} {sts ds ords : List Nat} {s0 s1 b0 b1 p i ov : Nat} {x dx l D O : Addr} {ox od : Obj} {ps : List (Str × Str)} {ah : Nat → Bool} (io : InsOk x dx l ox od) (a1 : 1 ≤ s0) (a2 : s0 ≤ 3) (a3 : 1 ≤ s1) (a4 : s1 ≤ 3) (hp : p ≤ 26) (h5 : b0 ≤ s0) (h6 : b1 ≤ s1) (hc : cs.length = 8) (hst : ∀ x ∈ sts, x < s0 + s1) (hl : sts.length = 4)
    (I : LInv s0 s1 p (sumL (hgt s0 s1) sts + ((b0 : Int) * (s0 - b0) + b1 * (s1 - b1))) (sumL (pa0 s0) sts + b0) (sumL (pa1 s0) sts + b1) (sumL (onS0 s0) sts) i ds ords ov ah ps) (hnil : insL ds (s0 + s1) = [])
    (h : ∀ σ : S, (54, tab6) ∈ σ.mu → (61, tab7) ∈ σ.mu → PF (.ret (.bool true)) σ) :
    Xs (LK prog w B T A fit pm L) (lawB 15) (⟨(some (.lst (xs.map AV.int)) :: some (.tup [.int (s0 : Int), .int (s1 : Int)]) :: some (.int (s0 : Int)) :: some (.tup [.int (b0 : Int), .int (b1 : Int)]) :: none :: some (.raw (.ref l)) :: some (.raw (.ref x)) :: some (.lst (sT (rowsL p (s0 + s1)))) :: some (.int (ov : Int)) :: some (.int (i : Int)) :: some (.lst []) :: none :: none :: none :: none :: none :: none :: none :: none :: none :: none :: none :: none :: none :: none :: none :: none :: none :: none :: none :: none :: none :: none :: none :: none :: none :: none :: none :: none :: []), (none :: none :: some (.raw (.ref O)) :: some (.raw (.ref D)) :: some (.lst (postsOf (nmL p (s0 + s1)) s0 b0 b1)) :: some (.lst (sN sts)) :: some (.lst (sT (nmL p (s0 + s1)))) :: some (.int (p : Int)) :: some (.int ((s0 + s1 : Nat) : Int)) :: some (.lst (cs.map AV.int)) :: []), ((D, .list (sN ds)) :: (O, .list (sN ords)) :: (x, .ob ox) :: (dx, .ob od) :: (l, .list (ps.map pairT)) :: [(54, tab6), (61, tab7)])⟩ : S) PF := by
  have hpn : p + (s0 + s1) ≤ 32 := by lia
  refine e2_6 (inv_end a1 a2 a3 a4 I.inv (insL_nil hnil)) ?_
  rintro e0 e1 he0 he1 hah hS0 hS1 ht
  refine e0_3 (pre_sums a1 a2 a3 a4 he0 he1) ?_
  rintro p1 p2 p3
  have q0 : aft ah s0 true (s0 + s1) = e0 := by
    have := aft_sum0 ah s0 (s0 + s1)
    rw [sumTo_congr (g := fun j => if pre s0 e0 e1 j then onS0 s0 j else 0) (fun j hj => by rw [hah j hj]), p2] at this
    lia
  have q1 : aft ah s0 false (s0 + s1) = e1 := by
    have := aft_sum1 ah s0 (s0 + s1)
    rw [sumTo_congr (g := fun j => if pre s0 e0 e1 j then onS1 s0 j else 0) (fun j hj => by rw [hah j hj]), p3] at this
    lia
  have hps : tabOf p (postOf (nmL p (s0 + s1)) s0 e0 e1) ords (s0 + s1) = ps := by
    refine rwl I.tab ?_
    have cg : ∀ j, j < s0 + s1 → postOf (nmL p (s0 + s1)) s0 e0 e1 j = fAh p s0 s1 ah j := fun j hj => by
      rw [post_way]
      show _ = wayOf p (s0 + s1) s0 (ah j) j
      rw [hah j hj]
    unfold tabOf
    rw [tabS_congr fun j hj => cg j (still_mem.mp hj).1, tabS_congr fun j hj => cg j (still_mem.mp hj).1, tabO_congr fun j hj => cg j (I.mem j hj)]
  have hov := over_le I (N0_le hl)
  have hd1 := (I.le5 (k := s0 + s1 + 1) (by lia))
  refine segB1 T a1 a2 a4 fun Af c0 c1 hc0 hc1 => ?_
  refine segB2 T P C io hc0 hc1 a1 a2 a3 a4 hp I fun j oj hj => ?_
  subst hj
  refine segB3 T q0 q1 a1 a2 a4 ?_
  refine segB4 T (Af := Af) a2 a4 ?_
  refine segB5 T (Af := Af) a2 a4 I.mem I.ords_len hps ?_
  refine segB6 T P C io (I.hok hpn) (by have := I.ps_len; lia) (I.all_ok hpn) ?_
  refine segB7 T a4 (by lia) I.len hd1.1 fun Sm hm stp sA sB hhm hstp hsA hsB => ?_
  refine segB8 T a2 a4 hst rfl rfl rfl ?_
  refine segB9 T a2 a4 h5 h6 he0 he1 rfl ?_
  refine segB11 T a1 a2 a3 a4 he0 he1 hov (by lia) ?_ ?_ hc ?_
  · rw [hsA]; lia
  · refine rwl hsB ?_
    have : ((ds.getD (s0 + s1 + 1) 0 : Nat) : Int) - 1 = (hm : Int) := by lia
    have hS1 : sumL (pa1 s0) sts + (b1 : Int) + (ov : Int) = (e1 : Int) + ((s1 : Int) + 1) * (((ds.getD (s0 + s1 + 1) 0 : Nat) : Int) - 1) := hS1
    rw [this] at hS1
    lia
  · rw [show ((i : Int) == stp + sumL (hgt s0 s1) sts + (dlt s0 s1 b0 b1 e0 e1 0 + dlt s0 s1 b0 b1 e0 e1 1)) = true from by
      refine beq_iff_eq.mpr ?_
      refine rwl ht ?_
      refine rwl hstp ?_
      show _ = (ov : Int) * (s1 : Int) + sumL (hgt s0 s1) sts + (((b0 : Int) * ((s0 : Int) - b0) - (e0 : Int) * ((s0 : Int) - e0)) + ((b1 : Int) * ((s1 : Int) - b1) - (e1 : Int) * ((s1 : Int) - e1)))
      lia]
    refine h _ ?_ ?_
    · exact List.mem_of_getElem? (i := 5) rfl
    · exact List.mem_of_getElem? (i := 6) rfl
theorem con_law (T : TopOk B mg mb) (P : Pats B) (C : ClsOk B) (hd81 : B 81 = some flagO) (f286 : FnT B 286 (topSt 29) "law" .none) {xs : List Int} (hx : xs.length ≤ 63) :
    Con prog w B 14 (.ref 286) [.lst (xs.map .int)] [] [(54, tab6), (61, tab7)] fun v mu' => v = .bool true ∧ (54, tab6) ∈ mu' ∧ (61, tab7) ∈ mu' := by
  refine fn_con T f286 lawNs ["script"] (ab := [("script", .lst (xs.map .int))]) (fun pm => lawOk pm) (fun pm => Binds.one (fun _ => rfl)) rfl (by decide +kernel) fun pm A fit L => ?_
  refine segA1 T hx fun cs s0 s1 b0 b1 p hc a1 a2 a3 a4 h5 h6 hp => ?_
  have hpn : p + (s0 + s1) ≤ 32 := by lia
  refine segA2 T a2 a4 hp ?_
  refine segA3 T a2 a4 hp a1 hc fun sts hl hst => ?_
  have I := start_LInv (p := p) a1 a2 a3 a4 h5 h6 hst hl
  refine segA4 T a2 a4 a1 ?_
  refine segA5 T a2 a4 fun l => ?_
  refine segA6 T P C (fun q hq => ⟨plain_ok (I.all_ok hpn q hq).1, plain_ok (I.all_ok hpn q hq).2⟩) fun x dx ox od io => ?_
  refine segA7 T a2 a4 ?_
  refine segA8 T a2 a4 fun D => ?_
  refine segA9 T fun O => ?_
  refine Tri.le (Le.swap (σ := ⟨[], [], []⟩)) ?_
  refine segLoop T P C hd81 io a1 a2 a3 a4 hp hc (start_bound a1 a2 a3 a4 h5 h6 hst hl) I fun i D ds ords ov ah ps I2 hnil => ?_
  refine segFin T P C io a1 a2 a3 a4 hp h5 h6 hc hst hl I2 hnil fun σ m6 m7 => ?_
  exact ⟨rfl, m6, m7⟩
end
end

section
open PySem PySem.W PyProof.Rows
theorem lookup_in {α : Type} : ∀ {l : List (Str × α)} {x : Str} {v : α}, l.lookup x = some v → (x, v) ∈ l
  | [], x, v, h => by cases h
  | (y, w) :: r, x, v, h => by
    rw [List.lookup_cons] at h
    by_cases e : x = y
    · subst e
      rw [beq_self_eq_true] at h
      cases h
      exact .head _
    · rw [beq_eq_false_iff_ne.mpr e] at h
      exact .tail _ (lookup_in h)
structure FactsU (g : Heap) : Prop where
  fns : ∀ p ∈ fnsU, ∃ o pm, g.get? p.1 = some o ∧ o.cls = .type "function" ∧ o.data = .func (fdOf p.2.1 p.2.2.1 p.2.2.2 pm (.ref (p.1 - 1)))
  codes : ∀ p ∈ fnsU, ∃ o vs t, g.get? (p.1 - 1) = some o ∧ o.data = .fields vs ∧ vs[1]? = some (.str p.2.2.1 t)
  pats : ∀ q ∈ ([(93, 92), (98, 97), (115, 114), (120, 119)] : List (Addr × Addr)), ∃ x t fl t2, g.get? q.1 = some (patO x t fl t2 q.2)
  cls : ∃ nm q k0 k1 k2 k3 k5, g.get? 249 = some (excClassObj nm q 249 248 [.type "object"] [.type "object"] true [] [] false none none k0 k1 k2 k3 k5 "object.__new__")
  t54 : g.get? 54 = some (tabObj #[])
  t61 : g.get? 61 = some (tabObj #[])
  flag : g.get? 81 = some flagO
  w1 : g.get? 92 = some (wordsO c1)
  w2 : g.get? 97 = some (wordsO c2)
  w3 : g.get? 114 = some (wordsO c3)
  w4 : g.get? 119 = some (wordsO c4)
  d136 : g.get? 136 = some (tupO #[.none])
  d189 : g.get? 189 = some (tupO #[.none])
  h58 : CodeHd g 58 54
  h65 : CodeHd g 65 61
  sm : ∃ o, g.get? sysModules = some o
  nsG : g.Ns mainGlobals (g.nsMap mainGlobals)
  nsB : g.Ns builtinsNs (g.nsMap builtinsNs)
  nsC : g.Ns 248 (g.nsMap 248)
  gl : ∀ p ∈ gtabU, g.nsMap mainGlobals p.1 = some p.2
  bl : ∀ p ∈ btab, g.nsMap mainGlobals p.1 = none ∧ g.nsMap builtinsNs p.1 = some p.2
  me : ∀ p ∈ metTab, g.nsMap 248 p.1 = some (.ref p.2)
  no : ∀ x ∈ noneU, g.nsMap 248 x = none
  crlf : ∃ t, g.nsMap mainGlobals "CRLF" = some (.str "\r\n" t)
  lim : ∃ t, g.nsMap mainGlobals "_DIV_LIMIT" = some (.int 4000 t)

theorem nn {α : Type} {a : α} {p : Prop} (h : none = some a) : p := nomatch h
theorem dFields_is {d : Data} {x : Array Value} (h : dFields d = some x) : d = .fields x := by
  cases d with
  | fields y => exact congrArg Data.fields (Option.some.inj h)
  | _ => exact nn h
theorem dFunc_is {d : Data} {x : FuncData} (h : dFunc d = some x) : d = .func x := by
  cases d with
  | func y => exact congrArg Data.func (Option.some.inj h)
  | _ => exact nn h
theorem dCls_is {d : Data} {x : ClassData} (h : dCls d = some x) : d = .cls x := by
  cases d with
  | cls y => exact congrArg Data.cls (Option.some.inj h)
  | _ => exact nn h
theorem vStr_is {v : Value} {x : Str} (h : vStr v = some x) : ∃ t, v = .str x t := by
  cases v with
  | str y t => exact ⟨t, congrArg (Value.str · t) (Option.some.inj h)⟩
  | _ => exact nn h
theorem vInt_is {v : Value} {x : Int} (h : vInt v = some x) : ∃ t, v = .int x t := by
  cases v with
  | int y t => exact ⟨t, congrArg (Value.int · t) (Option.some.inj h)⟩
  | _ => exact nn h
theorem vBool_is {v : Value} {x : Bool} (h : vBool v = some x) : v = .bool x := by
  cases v with
  | bool y => exact congrArg Value.bool (Option.some.inj h)
  | _ => exact nn h
theorem obj_ext : ∀ {o : Obj} {c : Value} {d : Option Addr} {da : Data} {sl : Array (Option Value)}, o.cls = c → o.dict = d → o.data = da → o.slots = sl → o = { cls := c, dict := d, data := da, slots := sl }
  | ⟨_, _, _, _⟩, _, _, _, _, rfl, rfl, rfl, rfl => rfl
theorem bnd {α β : Type} {x : Option α} {f : α → Option β} {b : β} (h : x.bind f = some b) : ∃ a, x = some a ∧ f a = some b := Option.bind_eq_some_iff.mp h
theorem hdV_hd {g : Heap} {c P : Addr} (hne : c ≠ P) (e : hdV g c = hdG P) : CodeHd g c P := by
  obtain ⟨o, ho, e⟩ := bnd e
  obtain ⟨vs, hd, e⟩ := bnd e
  obtain ⟨f, h18, e⟩ := bnd e
  obtain ⟨fl, h7, e⟩ := bnd e
  obtain ⟨b, h9, e⟩ := bnd e
  obtain ⟨n, h10, e⟩ := bnd e
  have e1 := Option.some.inj e
  obtain ⟨tf, h18⟩ := vStr_is h18
  obtain ⟨tg, h7⟩ := vInt_is h7
  obtain ⟨tt, h10⟩ := vInt_is h10
  exact ⟨o, vs, f, tf, fl, tg, b, n, tt, ho, congrArg (·.1) e1, dFields_is hd, congrArg (·.2.1) e1, congrArg (·.2.2) e1, h18, h7, vBool_is h9, h10, hne⟩
theorem fnV_fn {g : Heap} {a : Addr} {c : Value} {fd : FuncData} (e : fnV g a = some (c, { fd with pyModule := .none })) : ∃ o pm, g.get? a = some o ∧ o.cls = c ∧ o.data = .func { fd with pyModule := pm } := by
  obtain ⟨o, ho, e⟩ := bnd e
  obtain ⟨fd', hd, e⟩ := bnd e
  have e1 := Option.some.inj e
  have e3 : ({ fd' with pyModule := .none } : FuncData) = { fd with pyModule := .none } := congrArg (·.2) e1
  refine i2_3 o fd'.pyModule ho (congrArg (·.1) e1) ((dFunc_is hd).trans (congrArg Data.func ?_))
  exact congrArg (fun x : FuncData => { x with pyModule := fd'.pyModule }) e3
theorem codeV_code {g : Heap} {a : Addr} {q : Str} (e : codeV g a = some q) : ∃ o vs t, g.get? a = some o ∧ o.data = .fields vs ∧ vs[1]? = some (.str q t) := by
  obtain ⟨o, ho, e⟩ := bnd e
  obtain ⟨vs, hd, e⟩ := bnd e
  obtain ⟨v, hv, e⟩ := bnd e
  obtain ⟨t, rfl⟩ := vStr_is e
  exact i3_3 o vs t ho (dFields_is hd) hv
theorem two_of {α : Type} {a b : α} {r : List α} : ∀ {l : List α}, l[0]? = some a → l[1]? = some b → l.drop 2 = r → l = a :: b :: r
  | _ :: _ :: _, h1, h2, h3 => by cases h1; cases h2; cases h3; rfl
theorem patV_pat {g : Heap} {a wa : Addr} (e : patV g a = patG wa) : ∃ x t fl t2, g.get? a = some (patO x t fl t2 wa) := by
  obtain ⟨o, ho, e⟩ := bnd e
  obtain ⟨vs, hd, e⟩ := bnd e
  obtain ⟨x, hx, e⟩ := bnd e
  obtain ⟨fl, hf, e⟩ := bnd e
  obtain ⟨v0, h0, hx⟩ := bnd hx
  obtain ⟨v1, h1, hf⟩ := bnd hf
  obtain ⟨t, rfl⟩ := vStr_is hx
  obtain ⟨t2, rfl⟩ := vInt_is hf
  have e1 := Option.some.inj e
  have a1 : o.cls = .type "re.Pattern" := congrArg (·.1) e1
  have a2 : o.dict = none := congrArg (·.2.1) e1
  have a3 : o.slots = #[] := congrArg (·.2.2.1) e1
  have a5 : vs = #[.str x t, .int fl t2, .int 0 0, .none, .none, .ref wa, .int 0 0] := congrArg List.toArray (two_of h0 h1 (congrArg (·.2.2.2) e1))
  refine i4_1 x t fl t2 (ho.trans (congrArg some ?_))
  exact obj_ext a1 a2 ((dFields_is hd).trans (congrArg Data.fields a5)) a3
theorem six_of {α : Type} {e : α} : ∀ {l : List α}, l.length = 6 → l[4]? = some e → ∃ a b c d f, l = [a, b, c, d, e, f]
  | [a, b, c, d, _, f], _, h => by cases h; exact ⟨a, b, c, d, f, rfl⟩
theorem clsV_cls {g : Heap} (e : clsV g = clsG) : ∃ nm q k0 k1 k2 k3 k5, g.get? 249 = some (excClassObj nm q 249 248 [.type "object"] [.type "object"] true [] [] false none none k0 k1 k2 k3 k5 "object.__new__") := by
  obtain ⟨o, ho, e⟩ := bnd e
  obtain ⟨cd, hd, e⟩ := bnd e
  have e1 := Option.some.inj e
  have a1 : o.cls = .type "type" := congrArg (·.1) e1
  have a2 : o.dict = none := congrArg (·.2.1) e1
  have a3 : ({ cd with name := "", qualname := "" } : ClassData) = _ := congrArg (·.2.2.1) e1
  obtain ⟨k0, k1, k2, k3, k5, hs⟩ := six_of (congrArg (·.2.2.2.1) e1) (congrArg (·.2.2.2.2) e1)
  have a5 : o.slots = #[k0, k1, k2, k3, _, k5] := congrArg List.toArray hs
  have a6 : cd = _ := congrArg (fun x : ClassData => { x with name := cd.name, qualname := cd.qualname }) a3
  refine i7_1 cd.name cd.qualname k0 k1 k2 k3 k5 (ho.trans (congrArg some ?_))
  exact obj_ext a1 a2 ((dCls_is hd).trans (congrArg Data.cls a6)) a5
theorem map_at {α β : Type} {f g : α → β} {l : List α} (e : l.map f = l.map g) : ∀ x ∈ l, f x = g x := List.map_inj_left.mp e
theorem facts_of {s : Shared} (e : obsU s = goodU) : FactsU s.heap := by
  have e1 : (fnsU.map fun p => fnV s.heap p.1) = fnsU.map fun p => some (.type "function", fdOf p.2.1 p.2.2.1 p.2.2.2 .none (.ref (p.1 - 1))) := congrArg (·.1) e
  have e2 : (fnsU.map fun p => codeV s.heap (p.1 - 1)) = fnsU.map fun p => some p.2.2.1 := congrArg (·.2.1) e
  have e3 : [93, 98, 115, 120].map (patV s.heap) = [92, 97, 114, 119].map patG := congrArg (·.2.2.1) e
  have e4 : clsV s.heap = clsG := congrArg (·.2.2.2.1) e
  have e5 : objsU.map s.heap.get? = [some (tabObj #[]), some (tabObj #[]), some flagO, some (wordsO c1), some (wordsO c2), some (wordsO c3), some (wordsO c4), some (tupO #[.none]), some (tupO #[.none])] := congrArg (·.2.2.2.2.1) e
  have e6 : boolsU s.heap = true := congrArg (·.2.2.2.2.2.1) e
  have e7 : gtabU.map (fun p => s.heap.nsMap mainGlobals p.1) = gtabU.map (fun p => some p.2) := congrArg (·.2.2.2.2.2.2.1) e
  have e8 : btab.map (fun p => (s.heap.nsMap mainGlobals p.1, s.heap.nsMap builtinsNs p.1)) = btab.map (fun p => (none, some p.2)) := congrArg (·.2.2.2.2.2.2.2.1) e
  have e9 : metTab.map (fun p => s.heap.nsMap 248 p.1) = metTab.map (fun p => some (.ref p.2)) := congrArg (·.2.2.2.2.2.2.2.2.1) e
  have e10 : noneU.map (fun x => s.heap.nsMap 248 x) = noneU.map (fun _ => none) := congrArg (·.2.2.2.2.2.2.2.2.2.1) e
  have e11 : crlfV s.heap = some ("\r\n" : Str) := congrArg (·.2.2.2.2.2.2.2.2.2.2.1) e
  have e12 : limV s.heap = some 4000 := congrArg (·.2.2.2.2.2.2.2.2.2.2.2.1) e
  have e13 : [58, 65].map (hdV s.heap) = [hdG 54, hdG 61] := congrArg (·.2.2.2.2.2.2.2.2.2.2.2.2) e
  have e14 := List.cons.inj e13
  have e15 := List.cons.inj e14.2
  clear e
  have ob : ∀ (i : Nat) (a : Addr) (o : Obj), objsU[i]? = some a → ([some (tabObj #[]), some (tabObj #[]), some flagO, some (wordsO c1), some (wordsO c2), some (wordsO c3), some (wordsO c4), some (tupO #[.none]), some (tupO #[.none])] : List (Option Obj))[i]? = some (some o) → s.heap.get? a = some o := fun i a o h1 h2 => by
    rw [← e5, List.getElem?_map, h1] at h2
    exact Option.some.inj h2
  have pt : ∀ (i : Nat) (a wa : Addr), ([93, 98, 115, 120] : List Addr)[i]? = some a → ([92, 97, 114, 119] : List Addr)[i]? = some wa → patV s.heap a = patG wa := fun i a wa h1 h2 => by
    have h3 : ([93, 98, 115, 120].map (patV s.heap))[i]? = ([92, 97, 114, 119].map patG)[i]? := by rw [e3]
    rw [List.getElem?_map, List.getElem?_map, h1, h2] at h3
    exact Option.some.inj h3
  unfold boolsU at e6
  simp only [Bool.and_eq_true] at e6
  obtain ⟨⟨⟨g3, g4⟩, g5⟩, g6⟩ := e6
  refine ⟨fun p hp => fnV_fn (fd := fdOf p.2.1 p.2.2.1 p.2.2.2 .none (.ref (p.1 - 1))) (map_at e1 p hp), fun p hp => codeV_code (map_at e2 p hp), fun q hq => ?_, clsV_cls e4, ob 0 _ _ rfl rfl, ob 1 _ _ rfl rfl, ob 2 _ _ rfl rfl, ob 3 _ _ rfl rfl, ob 4 _ _ rfl rfl, ob 5 _ _ rfl rfl, ob 6 _ _ rfl rfl, ob 7 _ _ rfl rfl, ob 8 _ _ rfl rfl,
    hdV_hd (by decide) e14.1, hdV_hd (by decide) e15.1, Option.isSome_iff_exists.mp g3, .of_isNs g4, .of_isNs g5, .of_isNs g6, fun p hp => map_at e7 p hp, fun p hp => ?_, fun p hp => map_at e9 p hp, fun x hx => map_at e10 x hx, ?_, ?_⟩
  · obtain ⟨i, hi⟩ := List.getElem?_of_mem hq
    refine patV_pat (pt i q.1 q.2 ?_ ?_)
    · have := congrArg (Option.map (·.1)) hi
      rw [← List.getElem?_map] at this
      exact this
    · have := congrArg (Option.map (·.2)) hi
      rw [← List.getElem?_map] at this
      exact this
  · have := map_at e8 p hp
    exact ⟨congrArg (·.1) this, congrArg (·.2) this⟩
  · obtain ⟨v, hv, e⟩ := bnd e11
    obtain ⟨t, rfl⟩ := vStr_is e
    exact ⟨t, hv⟩
  · obtain ⟨v, hv, e⟩ := bnd e12
    obtain ⟨t, rfl⟩ := vInt_is e
    exact ⟨t, hv⟩
noncomputable def YPU (_ : World) (h : Heap) : Prop := ∃ g : Heap, FactsU g ∧ ∀ b o, g.get? b = some o → h.get? b = some o
noncomputable def BU (h : Heap) : HF := fun a => if a = 54 ∨ a = 61 then none else h.get? a
theorem BU_at {h : Heap} {a : Addr} {o : Obj} (ha : a ≠ 54 ∧ a ≠ 61) (e : h.get? a = some o) : BU h a = some o := by
  unfold BU
  refine rwl (if_neg (fun z => z.elim ha.1 ha.2)) ?_
  exact e
theorem ns_sub {h : Heap} {a : Addr} {m : Str → Option Value} (ha : a ≠ 54 ∧ a ≠ 61) (x : h.Ns a m) : ∀ h' : Heap, Sub (BU h) h' → h'.Ns a m := by
  intro h' hs
  refine e3_2 x ?_
  clear x
  rintro o es ep ho r
  exact i3_2 o es ep (hs _ _ (BU_at ha ho)) r
theorem hd_sub {h : Heap} {c P : Addr} (hc : c ≠ 54 ∧ c ≠ 61) (x : CodeHd h c P) : ∀ h' : Heap, Sub (BU h) h' → CodeHd h' c P := by
  intro h' hs
  obtain ⟨o, vs, f, tf, fl, tg, b, n, tt, ho, r⟩ := x
  exact ⟨o, vs, f, tf, fl, tg, b, n, tt, hs _ _ (BU_at hc ho), r⟩
section
variable {g h : Heap} (F : FactsU g) (k : ∀ b o, g.get? b = some o → h.get? b = some o)
theorem fns_ne : ∀ p ∈ fnsU, (p.1 ≠ 54 ∧ p.1 ≠ 61) ∧ (p.1 - 1 ≠ 54 ∧ p.1 - 1 ≠ 61) := by decide
include F k
theorem fnM_of {p : Addr × Stmt × Str × Value} (hp : p ∈ fnsU) : FnM (BU h) p.1 p.2.1 p.2.2.1 p.2.2.2 := by
  refine e2_3 (F.fns p hp) ?_
  rintro o pm h1 h2 h3
  refine e0_2 (fns_ne p hp) ?_
  rintro n1 n2
  refine i2_4 o pm (BU_at n1 (k _ _ h1)) h2 h3 (fun h' hs => ?_)
  refine e3_3 (F.codes p hp) ?_
  rintro oc vs t c1 c2 c3
  exact i4_4 (p.1 - 1) oc vs t rfl (hs _ _ (BU_at n2 (k _ _ c1))) c2 c3
theorem pats_of : Pats (BU h) := by
  have pt : ∀ q ∈ ([(93, 92), (98, 97), (115, 114), (120, 119)] : List (Addr × Addr)), q.1 ≠ 54 ∧ q.1 ≠ 61 → ∃ x t fl t2, BU h q.1 = some (patO x t fl t2 q.2) := fun q hq hn => by
    refine e4_1 (F.pats q hq) ?_
    rintro x t fl t2 e
    exact i4_1 x t fl t2 (BU_at hn (k _ _ e))
  exact ⟨pt (93, 92) (by simp) (by decide), BU_at (by decide) (k _ _ F.w1), pt (98, 97) (by simp) (by decide), BU_at (by decide) (k _ _ F.w2), pt (115, 114) (by simp) (by decide), BU_at (by decide) (k _ _ F.w3), pt (120, 119) (by simp) (by decide), BU_at (by decide) (k _ _ F.w4)⟩
theorem cls_of : ClsOk (BU h) := by
  refine e7_1 F.cls ?_
  rintro nm q k0 k1 k2 k3 k5 e
  refine e1_1 F.sm ?_
  rintro os hos
  have fm : ∀ (i : Nat) (p : Addr × Stmt × Str × Value), fnsU[i]? = some p → FnM (BU h) p.1 p.2.1 p.2.2.1 p.2.2.2 := fun i p hi => fnM_of F k (List.mem_of_getElem? hi)
  refine ⟨⟨nm, q, k0, k1, k2, k3, k5, BU_at (by decide) (k _ _ e)⟩, ⟨g.nsMap 248, ns_sub (by decide) (F.nsC.keeps k), fun x a hx => F.me (x, a) (lookup_in hx), F.no _ (by simp [noneU]), F.no _ (by simp [noneU]), F.no _ (by simp [noneU]), F.no _ (by simp [noneU])⟩,
    ⟨os, BU_at (by decide) (k _ _ hos)⟩, fm 8 _ rfl, fm 9 _ rfl, fm 10 _ rfl, fm 11 _ rfl, fm 12 _ rfl, fm 13 _ rfl, fm 14 _ rfl, BU_at (by decide) (k _ _ F.d136), BU_at (by decide) (k _ _ F.d189)⟩
theorem top_of {p : Program} {loose : List Str} {mean : ExcName → Option Value} {mg mb : Str → Option Value} (T : Top p loose mean mg mb h) : TopOk (BU h) mg mb := by
  have eg : mg = g.nsMap mainGlobals := T.g.eq_nsMap.trans (F.nsG.keeps k).eq_nsMap.symm
  have eb : mb = g.nsMap builtinsNs := T.b.eq_nsMap.trans (F.nsB.keeps k).eq_nsMap.symm
  refine e1_2 T.nolimit ?_
  rintro mc hmc hl
  refine e2_6 T.bmain ?_
  rintro bm ob b1 b2 b3 b4 b5 b6
  have fm : ∀ (i : Nat) (p : Addr × Stmt × Str × Value), fnsU[i]? = some p → FnT (BU h) p.1 p.2.1 p.2.2.1 p.2.2.2 := fun i p hi => (fnM_of F k (List.mem_of_getElem? hi)).toT
  have n54 : bm ≠ 54 := fun z => by rw [z, k _ _ F.t54] at b3; cases b3; cases b4
  have n61 : bm ≠ 61 := fun z => by rw [z, k _ _ F.t61] at b3; cases b3; cases b4
  have nG : bm ≠ mainGlobals := fun z => by
    refine e3_3 T.g ?_
    rintro o es ep ho hd _
    rw [z, ho] at b3
    cases b3
    rw [hd] at b6; cases b6
  have gr : Gr (BU h) mg mb := ⟨ns_sub (by decide) T.g, ns_sub (by decide) T.b, fun h' hs => ⟨mc, ns_sub (by decide) hmc h' hs, hl⟩⟩
  refine ⟨gr, by rw [eg]; exact F.crlf, by rw [eg]; exact F.lim, ⟨bm, ob, b1, b2, nG, BU_at ⟨n54, n61⟩ b3, b4, b5, b6⟩, hd_sub (by decide) (F.h58.keeps k), hd_sub (by decide) (F.h65.keeps k),
    fun x v hx => by rw [eg]; exact F.gl (x, v) (List.mem_cons_of_mem _ (lookup_in hx)), fun x v hx => by rw [eg, eb]; exact F.bl (x, v) (lookup_in hx),
    fm 15 _ rfl, fm 16 _ rfl, fm 17 _ rfl, fm 18 _ rfl, fm 6 _ rfl, fm 7 _ rfl, fm 0 _ rfl, fm 1 _ rfl, fm 2 _ rfl, fm 3 _ rfl, fm 4 _ rfl, fm 5 _ rfl⟩
theorem law_of : FnT (BU h) 286 (topSt 29) "law" .none := (fnM_of F k (List.mem_of_getElem? (i := 19) rfl : (286, topSt 29, ("law" : Str), Value.none) ∈ fnsU)).toT
theorem mu_of : StM (BU h) (BU h) [(54, tab6), (61, tab7)] h := by
  refine ⟨.refl _, fun a o e => ?_, fun p hp => ?_, by decide⟩
  · unfold BU at e
    split at e
    · cases e
    · exact e
  · rcases List.mem_cons.mp hp with rfl | hp
    · exact ⟨if_pos (.inl rfl), .inl (k _ _ F.t54)⟩
    · refine rwl (List.mem_singleton.mp hp) ?_
      exact ⟨if_pos (.inr rfl), .inl (k _ _ F.t61)⟩
theorem old_of {H' : HF} {mu' : Mu} {h' : Heap} (le : HF.le (BU h) H') (st : StM (BU h) H' mu' h') (m6 : (54, tab6) ∈ mu') (m7 : (61, tab7) ∈ mu') : OldK h h' := by
  have tb : ∀ {P : Addr} {l c : Int} {l' c' : Nat} {q : Str} {cc : Addr}, h.get? P = some (tabObj #[]) → CodeHd h cc P → (MO.tab l' c' q).sat H' P h' → ∀ o, h.get? P = some o → asItWas h h' P o ∧ ∃ o', h'.get? P = some o' := by
    intro P l c l' c' q cc hP hcd hs o ho
    rw [hP] at ho
    cases ho
    obtain ⟨oc, vs, f, tf, fl, tg, b, n, tt, x1, x2, x3, x4, _⟩ := hcd
    rcases hs with e | ⟨c2, oc2, e, _⟩
    · exact ⟨.inl e, _, e⟩
    · refine ⟨.inr (.inl ⟨⟨cc, oc, vs, x1, x2, x3, x4⟩, rfl, #[], #[rawInt (l' : Int), rawInt (c' : Int), .ref c2], rfl, ?_⟩), _, e⟩
      rw [e, Array.empty_append]
  have c6 := F.h58.keeps k
  have c7 := F.h65.keeps k
  have key : ∀ b o, h.get? b = some o → asItWas h h' b o ∧ ∃ o', h'.get? b = some o' := by
    intro b o e
    by_cases e4 : b = 54
    · subst e4
      exact tb (l := 0) (c := 0) (k _ _ F.t54) c6 (st.own _ m6).2 o e
    by_cases e1 : b = 61
    · subst e1
      exact tb (l := 0) (c := 0) (k _ _ F.t61) c7 (st.own _ m7).2 o e
    have := st.keep b o (le b o (BU_at ⟨e4, e1⟩ e))
    exact ⟨.inl this, o, this⟩
  exact ⟨fun b o e => (key b o e).1, fun b o e => (key b o e).2⟩
end
theorem ints_data : ∀ {ds : List WData}, WShape.hasItems [] ds .int = true → ∃ xs : List Int, ds = xs.map WData.int
  | [], _ => ⟨[], rfl⟩
  | d :: r, h => by
    have h' : WShape.has [] d .int = true ∧ WShape.hasItems [] r .int = true := by simpa [WShape.hasItems] using h
    obtain ⟨i, rfl⟩ := hasW_int h'.1
    obtain ⟨xs, rfl⟩ := ints_data h'.2
    exact ⟨i :: xs, rfl⟩
theorem ints_vrs {P : Params} {h : Heap} {H : HF} : ∀ {xs : List Int} {vs : List Value}, WellAll P h vs (xs.map WData.int) → VRs H (xs.map AV.int) vs
  | [], vs, x => by cases x; exact VRs.nil
  | i :: xs, vs, x => by
    refine e2_3 (wellAll_cons_inv x) ?_
    rintro v vs' rfl h1 h2
    cases h1
    exact VRs.cons (mk_int _ _) (ints_vrs h2)
theorem pre_len {ds : List WData} (h : rowU.pre.holds rowU.records { args := [.list ds] } = true) : ds.length ≤ 63 := by
  by_cases hh : ds.length ≤ 63
  · exact hh
  · exfalso
    have e : decide ((63 : Int) < (ds.length : Int)) = true := decide_eq_true (by omega)
    have v1 : WTm.value rowU.records (.lt (.lit (.int ((63 : Nat) : Int))) (.len (.arg 0))) { args := [.list ds] } = some (.bool (decide ((63 : Int) < (ds.length : Int)))) := rfl
    have v2 : WTm.value rowU.records (.not (.lt (.lit (.int ((63 : Nat) : Int))) (.len (.arg 0)))) { args := [.list ds] } = some (.bool false) := by
      rw [WTm.value, v1, e]; rfl
    have key : rowU.pre.value rowU.records { args := [.list ds] } = some (.bool false) := by
      show WTm.value rowU.records (.and (.not (.lt (.lit (.int ((63 : Nat) : Int))) (.len (.arg 0)))) (.lit (.bool true))) { args := [.list ds] } = _
      rw [WTm.value, v2]
    unfold WTm.holds at h
    rw [key] at h
    cases h
theorem post_ok (args after : List WData) : rowU.claim.post args (.bool true) after = true := by
  show (WShape.has rowU.records (.bool true) .bool && WTm.holds rowU.records (.eq .res (.lit (.bool true))) { args := args, res := some (.bool true), after := after }) = true
  refine rwl (Bool.and_eq_true _ _) ?_
  exact ⟨by simp [WShape.has, WShape.arms], by simp [WTm.holds, WTm.value, same]⟩
theorem walkU {d : DefRec} {kwd : List (Str × Expr)} (hn : d.name = "law") : WalkO qU looseU (XL qU []) YPU rowU.toRowW d kwd fun f vs => PySem.call f vs := by
  intro w s₀ s₁ mg mb G Y a o pm cd doc dV kV ho hd hcd hD hmg hg args vals as hpre hlay hrd hwl hlo
  refine e1_2 Y ?_
  clear Y
  rintro g F k
  have T := top_of F k G.T
  have ha : a = 286 := by
    have e1 : mg = g.nsMap mainGlobals := G.T.g.eq_nsMap.trans (F.nsG.keeps k).eq_nsMap.symm
    have e2 := F.gl ("law", .ref 286) (.head _)
    rw [hn, e1] at hmg
    have e3 := hmg.symm.trans e2
    cases e3
    rfl
  have key : ∃ xs : List Int, args = [.list (xs.map WData.int)] ∧ xs.length ≤ 63 := by
    obtain ⟨p1, p2⟩ := pre_splitW hpre
    clear hpre hwl
    obtain ⟨d1, r1, rfl, q1, q2⟩ := hasAllW_cons p1
    cases hasAllW_nil q2
    obtain ⟨ds, rfl, q3⟩ := hasW_list q1
    obtain ⟨xs, rfl⟩ := ints_data q3
    exact ⟨xs, rfl, by have := pre_len p2; rwa [List.length_map] at this⟩
  refine e1_2 key ?_
  clear key hpre
  rintro xs rfl hx
  have key : ∃ v, vals = [v] ∧ VR (BU s₁.heap) (.lst (xs.map AV.int)) v := by
    obtain ⟨v, vs', e1, w1, w2⟩ := wellAll_cons_inv hwl
    clear hwl
    cases w2
    refine ⟨v, e1, ?_⟩
    cases w1 with
    | list e wl =>
      refine mk_lst (BU_at ⟨fun z => ?_, fun z => ?_⟩ e) (by rw [List.toList_toArray]; exact ints_vrs wl)
      · rw [z, k _ _ F.t54] at e; cases e
      · rw [z, k _ _ F.t61] at e; cases e
  refine e1_2 key ?_
  clear key hwl
  rintro v rfl hv
  subst ha
  have hc := con_law (prog := pw) (w := w) T (pats_of F k) (cls_of F k) (BU_at (by decide) (k _ _ F.flag)) (law_of F k) hx
  refine hc callerA ⟨rfl, by decide, by decide⟩ (BU s₁.heap) s₁ (mu_of F k) [v] (VRs.cons hv VRs.nil) [] VRs.nil _ _ fun b u H' mu' h' tk le st vr post => ?_
  refine e0_3 post ?_
  clear post
  rintro rfl m6 m7
  obtain rfl := vr_bool vr
  exact ⟨.inl ⟨.bool true, .bool true, [], rfl, fun cls => rfl, .bool true, post_ok _ _, fun _ => ⟨List.nodup_nil, fun a ha => nomatch ha⟩⟩, old_of F k le st m6 m7, rfl, AllBare.of_eq hg⟩
end

section
open PySem PySem.W PyProof.Rows
set_option maxHeartbeats 0
theorem lk1 : sreFenced rowU.toRowW.prog.main = true := by kernel_rfl
theorem lk2 : namesResolve rowU.toRowW.prog = true := by kernel_rfl
theorem lk3 : namesMeet rowU.toRowW.prog rowU.toRowW.prog.main.body (fun _ n => attrL n) = true := by kernel_rfl
theorem looksU : looksOpen rowU.toRowW.prog = true := by
  unfold looksOpen
  rw [lk1, lk2, lk3]
  kernel_rfl
theorem saidR : rowU.wellSaid = true := by
  unfold OpenRow.wellSaid OpenRow.partSaid
  rw [looksU]
  kernel_rfl
theorem saidU : PySem.Challenge.rw_uk0018_01.wellSaid = true := by
  unfold OpenLaw.wellSaid
  rw [saidR]
  kernel_rfl
theorem holdsU : PySem.Challenge.rw_uk0018_01.Holds := by
  refine holds_law saidU fun said => ?_
  refine holds_open (q := qU) (loose := looseU) (Xt := fun s => xlAt qU [] s && recOk (RowW.records rowU.toRowW) s) (XP := XL qU []) (Yf := obsU) (Ya := fun _ => goodU) (YP := YPU) (N := 3702) leftU (fun w s e => ⟨s.heap, facts_of e, fun _ _ x => x⟩)
    (fun w h h' y k => let ⟨g, F, k0⟩ := y; ⟨g, F, fun b o e => k b o (k0 b o e)⟩) (fun s e => xl_of s (Bool.and_eq_true_iff.mp e).1) XL.keeps (by rfl) (by rfl) (by rfl) (fun s e => recFacts_of (Bool.and_eq_true_iff.mp e).2) (by rfl) said (by decide +kernel)
    ⟨rfl, rfl, rfl, rfl, rfl, by decide +kernel⟩ ⟨[.list [.int 3]], by decide +kernel, by decide +kernel⟩ (walkU rfl)
end

end Mine
theorem PySem.Challenge.cw_uk0018_01_holds : PySem.Challenge.rw_uk0018_01.Holds :=
  Mine.holdsU
