import PyProof.Rows.All
import Wide.All
import OpenK.AllK
import Wide.FinOn
import KE.KLam
import Lean
import PySem.Challenge.RW_kl0004_01
set_option Elab.async false
set_option linter.all false
set_option maxRecDepth 100000
set_option maxHeartbeats 0
noncomputable section
namespace Mine
theorem obE {α β : Type _} {o : Option α} {f : α → Option β} {b : β} (h : o.bind f = some b) : ∃ a, o = some a ∧ f a = some b := Option.bind_eq_some_iff.mp h
theorem omE {α β : Type _} {f : α → β} {o : Option α} {b : β} (h : o.map f = some b) : ∃ a, o = some a ∧ f a = b := Option.map_eq_some_iff.mp h
theorem siE {α : Type _} {a b : α} (h : some a = some b) : a = b := Option.some.inj h
section
section
variable {Ta Tb Tc Td Te Tf Tg Th Ti Tj Tk Tl Tm Tn To : Sort _} {G : Prop}
theorem nS {α : Type _} {a : α} (h : none = some a) : G := by cases h
theorem sN {α : Type _} {a : α} (h : some a = none) : G := by cases h
theorem sP {α β : Type _} {a c : α} {b d : β} (h : some (a, b) = some (c, d)) (k : a = c -> b = d -> G) : G := by cases h; exact k rfl rfl
theorem Ea {P0 P1 : Prop} (h : P0 /\ P1) (k : P0 -> P1 -> G) : G := h.elim fun z0 z1 => k z0 z1
theorem Ex {P0 : Ta -> Prop} (h : ∃ a, P0 a) (k : ∀ a, P0 a -> G) : G := h.elim fun z0 z1 => k z0 z1
theorem h9 {P0 P1 P2 : Prop} (z0 : P0) (z1 : P1) (z2 : P2) : P0 /\ P1 /\ P2 := ⟨z0, z1, z2⟩
theorem bC {P0 P1 : Ta -> Prop} (a : Ta) (z1 : P0 a) (z2 : P1 a) : ∃ a, P0 a /\ P1 a := ⟨a, z1, z2⟩
theorem j2 {P0 : Ta -> Tb -> Prop} (a : Ta) (b : Tb) (z2 : P0 a b) : ∃ a, ∃ b, P0 a b := ⟨a, b, z2⟩
theorem n4 {P0 P1 P2 : Prop} (h : P0 /\ P1 /\ P2) (k : P0 -> P1 -> P2 -> G) : G := h.elim fun z0 h => Ea h (k z0)
theorem ax {P0 P1 : Ta -> Prop} (h : ∃ a, P0 a /\ P1 a) (k : ∀ a, P0 a -> P1 a -> G) : G := h.elim fun z0 h => Ea h (k z0)
theorem Br {P0 : Ta -> Tb -> Prop} (h : ∃ a, ∃ b, P0 a b) (k : ∀ a, ∀ b, P0 a b -> G) : G := h.elim fun z0 h => Ex h (k z0)
theorem oE {P0 P1 P2 P3 : Prop} (z0 : P0) (z1 : P1) (z2 : P2) (z3 : P3) : P0 /\ P1 /\ P2 /\ P3 := ⟨z0, h9 z1 z2 z3⟩
theorem rD {P0 P1 : Prop} {P2 : Ta -> Prop} (z0 : P0) (z1 : P1) (a : Ta) (z3 : P2 a) : P0 /\ P1 /\ ∃ a, P2 a := ⟨z0, z1, a, z3⟩
theorem cF {P0 P1 P2 : Ta -> Prop} (a : Ta) (z1 : P0 a) (z2 : P1 a) (z3 : P2 a) : ∃ a, P0 a /\ P1 a /\ P2 a := ⟨a, h9 z1 z2 z3⟩
theorem yL {P0 : Ta -> Prop} {P1 : Ta -> Tb -> Prop} (a : Ta) (z1 : P0 a) (b : Tb) (z3 : P1 a b) : ∃ a, P0 a /\ ∃ b, P1 a b := ⟨a, z1, b, z3⟩
theorem kA {P0 P1 : Ta -> Tb -> Prop} (a : Ta) (b : Tb) (z2 : P0 a b) (z3 : P1 a b) : ∃ a, ∃ b, P0 a b /\ P1 a b := ⟨a, bC b z2 z3⟩
theorem Gk {P0 : Ta -> Tb -> Tc -> Prop} (a : Ta) (b : Tb) (c : Tc) (z3 : P0 a b c) : ∃ a, ∃ b, ∃ c, P0 a b c := ⟨a, j2 b c z3⟩
theorem wQ {P0 P1 P2 P3 : Prop} (h : P0 /\ P1 /\ P2 /\ P3) (k : P0 -> P1 -> P2 -> P3 -> G) : G := h.elim fun z0 h => n4 h (k z0)
theorem yz {P0 P1 : Prop} {P2 : Ta -> Prop} (h : P0 /\ P1 /\ ∃ a, P2 a) (k : P0 -> P1 -> ∀ a, P2 a -> G) : G := h.elim fun z0 h => h.elim fun z1 h => h.elim fun z2 z3 => k z0 z1 z2 z3
theorem wS {P0 P1 P2 : Ta -> Prop} (h : ∃ a, P0 a /\ P1 a /\ P2 a) (k : ∀ a, P0 a -> P1 a -> P2 a -> G) : G := h.elim fun z0 h => n4 h (k z0)
theorem Bw {P0 : Ta -> Prop} {P1 : Ta -> Tb -> Prop} (h : ∃ a, P0 a /\ ∃ b, P1 a b) (k : ∀ a, P0 a -> ∀ b, P1 a b -> G) : G := h.elim fun z0 h => h.elim fun z1 h => h.elim fun z2 z3 => k z0 z1 z2 z3
theorem nk {P0 P1 : Ta -> Tb -> Prop} (h : ∃ a, ∃ b, P0 a b /\ P1 a b) (k : ∀ a, ∀ b, P0 a b -> P1 a b -> G) : G := h.elim fun z0 h => ax h (k z0)
theorem jJ {P0 P1 P2 P3 P4 : Prop} (z0 : P0) (z1 : P1) (z2 : P2) (z3 : P3) (z4 : P4) : P0 /\ P1 /\ P2 /\ P3 /\ P4 := ⟨z0, oE z1 z2 z3 z4⟩
theorem rE {P0 : Prop} {P1 P2 P3 : Ta -> Prop} (z0 : P0) (a : Ta) (z2 : P1 a) (z3 : P2 a) (z4 : P3 a) : P0 /\ ∃ a, P1 a /\ P2 a /\ P3 a := ⟨z0, cF a z2 z3 z4⟩
theorem yK {P0 : Prop} {P1 P2 : Ta -> Tb -> Prop} (z0 : P0) (a : Ta) (b : Tb) (z3 : P1 a b) (z4 : P2 a b) : P0 /\ ∃ a, ∃ b, P1 a b /\ P2 a b := ⟨z0, kA a b z3 z4⟩
theorem jt {P0 P1 P2 P3 : Ta -> Prop} (a : Ta) (z1 : P0 a) (z2 : P1 a) (z3 : P2 a) (z4 : P3 a) : ∃ a, P0 a /\ P1 a /\ P2 a /\ P3 a := ⟨a, oE z1 z2 z3 z4⟩
theorem kH {P0 P1 : Ta -> Prop} {P2 : Ta -> Tb -> Prop} (a : Ta) (z1 : P0 a) (z2 : P1 a) (b : Tb) (z4 : P2 a b) : ∃ a, P0 a /\ P1 a /\ ∃ b, P2 a b := ⟨a, rD z1 z2 b z4⟩
theorem d8 {P0 P1 P2 : Ta -> Tb -> Prop} (a : Ta) (b : Tb) (z2 : P0 a b) (z3 : P1 a b) (z4 : P2 a b) : ∃ a, ∃ b, P0 a b /\ P1 a b /\ P2 a b := ⟨a, cF b z2 z3 z4⟩
theorem yM {P0 P1 : Ta -> Tb -> Tc -> Prop} (a : Ta) (b : Tb) (c : Tc) (z3 : P0 a b c) (z4 : P1 a b c) : ∃ a, ∃ b, ∃ c, P0 a b c /\ P1 a b c := ⟨a, kA b c z3 z4⟩
theorem vJ {P0 : Ta -> Tb -> Tc -> Td -> Prop} (a : Ta) (b : Tb) (c : Tc) (d : Td) (z4 : P0 a b c d) : ∃ a, ∃ b, ∃ c, ∃ d, P0 a b c d := ⟨a, Gk b c d z4⟩
theorem vG {P0 P1 P2 P3 P4 : Prop} (h : P0 /\ P1 /\ P2 /\ P3 /\ P4) (k : P0 -> P1 -> P2 -> P3 -> P4 -> G) : G := h.elim fun z0 h => wQ h (k z0)
theorem rB {P0 : Prop} {P1 P2 : Ta -> Tb -> Prop} (h : P0 /\ ∃ a, ∃ b, P1 a b /\ P2 a b) (k : P0 -> ∀ a, ∀ b, P1 a b -> P2 a b -> G) : G := h.elim fun z0 h => nk h (k z0)
theorem gD {P0 P1 P2 P3 : Ta -> Prop} (h : ∃ a, P0 a /\ P1 a /\ P2 a /\ P3 a) (k : ∀ a, P0 a -> P1 a -> P2 a -> P3 a -> G) : G := h.elim fun z0 h => wQ h (k z0)
theorem bk {P0 P1 P2 : Ta -> Tb -> Prop} (h : ∃ a, ∃ b, P0 a b /\ P1 a b /\ P2 a b) (k : ∀ a, ∀ b, P0 a b -> P1 a b -> P2 a b -> G) : G := h.elim fun z0 h => wS h (k z0)
theorem mF {P0 P1 : Ta -> Tb -> Tc -> Prop} (h : ∃ a, ∃ b, ∃ c, P0 a b c /\ P1 a b c) (k : ∀ a, ∀ b, ∀ c, P0 a b c -> P1 a b c -> G) : G := h.elim fun z0 h => nk h (k z0)
theorem yE {P0 : Ta -> Tb -> Tc -> Td -> Prop} (h : ∃ a, ∃ b, ∃ c, ∃ d, P0 a b c d) (k : ∀ a, ∀ b, ∀ c, ∀ d, P0 a b c d -> G) : G := h.elim fun z0 h => h.elim fun z1 h => h.elim fun z2 h => h.elim fun z3 z4 => k z0 z1 z2 z3 z4
theorem qk {P0 P1 : Prop} {P2 P3 : Ta -> Tb -> Prop} (z0 : P0) (z1 : P1) (a : Ta) (b : Tb) (z4 : P2 a b) (z5 : P3 a b) : P0 /\ P1 /\ ∃ a, ∃ b, P2 a b /\ P3 a b := ⟨z0, yK z1 a b z4 z5⟩
theorem eR {P0 P1 P2 P3 : Ta -> Tb -> Prop} (a : Ta) (b : Tb) (z2 : P0 a b) (z3 : P1 a b) (z4 : P2 a b) (z5 : P3 a b) : ∃ a, ∃ b, P0 a b /\ P1 a b /\ P2 a b /\ P3 a b := ⟨a, jt b z2 z3 z4 z5⟩
theorem fD {P0 P1 P2 : Ta -> Tb -> Tc -> Prop} (a : Ta) (b : Tb) (c : Tc) (z3 : P0 a b c) (z4 : P1 a b c) (z5 : P2 a b c) : ∃ a, ∃ b, ∃ c, P0 a b c /\ P1 a b c /\ P2 a b c := ⟨a, d8 b c z3 z4 z5⟩
theorem yy {P0 P1 P2 P3 P4 P5 : Prop} (h : P0 /\ P1 /\ P2 /\ P3 /\ P4 /\ P5) (k : P0 -> P1 -> P2 -> P3 -> P4 -> P5 -> G) : G := h.elim fun z0 h => vG h (k z0)
theorem qg {P0 P1 : Prop} {P2 P3 : Ta -> Tb -> Prop} (h : P0 /\ P1 /\ ∃ a, ∃ b, P2 a b /\ P3 a b) (k : P0 -> P1 -> ∀ a, ∀ b, P2 a b -> P3 a b -> G) : G := h.elim fun z0 h => rB h (k z0)
theorem yA {P0 : Prop} {P1 P2 P3 : Ta -> Tb -> Prop} (h : P0 /\ ∃ a, ∃ b, P1 a b /\ P2 a b /\ P3 a b) (k : P0 -> ∀ a, ∀ b, P1 a b -> P2 a b -> P3 a b -> G) : G := h.elim fun z0 h => bk h (k z0)
theorem Gd {P0 : Ta -> Prop} {P1 P2 : Ta -> Tb -> Tc -> Prop} (h : ∃ a, P0 a /\ ∃ b, ∃ c, P1 a b c /\ P2 a b c) (k : ∀ a, P0 a -> ∀ b, ∀ c, P1 a b c -> P2 a b c -> G) : G := h.elim fun z0 h => rB h (k z0)
theorem gv {P0 P1 P2 P3 : Ta -> Tb -> Prop} (h : ∃ a, ∃ b, P0 a b /\ P1 a b /\ P2 a b /\ P3 a b) (k : ∀ a, ∀ b, P0 a b -> P1 a b -> P2 a b -> P3 a b -> G) : G := h.elim fun z0 h => gD h (k z0)
theorem bv {P0 P1 P2 : Ta -> Tb -> Tc -> Prop} (h : ∃ a, ∃ b, ∃ c, P0 a b c /\ P1 a b c /\ P2 a b c) (k : ∀ a, ∀ b, ∀ c, P0 a b c -> P1 a b c -> P2 a b c -> G) : G := h.elim fun z0 h => bk h (k z0)
theorem hY {P0 P1 : Ta -> Tb -> Tc -> Td -> Prop} (h : ∃ a, ∃ b, ∃ c, ∃ d, P0 a b c d /\ P1 a b c d) (k : ∀ a, ∀ b, ∀ c, ∀ d, P0 a b c d -> P1 a b c d -> G) : G := h.elim fun z0 h => mF h (k z0)
theorem Ge {P0 : Ta -> Tb -> Tc -> Td -> Te -> Prop} (h : ∃ a, ∃ b, ∃ c, ∃ d, ∃ e, P0 a b c d e) (k : ∀ a, ∀ b, ∀ c, ∀ d, ∀ e, P0 a b c d e -> G) : G := h.elim fun z0 h => yE h (k z0)
theorem ql {P0 : Prop} {P1 P2 P3 P4 : Ta -> Tb -> Prop} (z0 : P0) (a : Ta) (b : Tb) (z3 : P1 a b) (z4 : P2 a b) (z5 : P3 a b) (z6 : P4 a b) : P0 /\ ∃ a, ∃ b, P1 a b /\ P2 a b /\ P3 a b /\ P4 a b := ⟨z0, eR a b z3 z4 z5 z6⟩
theorem qm {P0 P1 P2 P3 : Ta -> Tb -> Tc -> Prop} (a : Ta) (b : Tb) (c : Tc) (z3 : P0 a b c) (z4 : P1 a b c) (z5 : P2 a b c) (z6 : P3 a b c) : ∃ a, ∃ b, ∃ c, P0 a b c /\ P1 a b c /\ P2 a b c /\ P3 a b c := ⟨a, eR b c z3 z4 z5 z6⟩
theorem vH {P0 P1 P2 P3 P4 P5 P6 : Prop} (h : P0 /\ P1 /\ P2 /\ P3 /\ P4 /\ P5 /\ P6) (k : P0 -> P1 -> P2 -> P3 -> P4 -> P5 -> P6 -> G) : G := h.elim fun z0 h => yy h (k z0)
theorem qh {P0 : Prop} {P1 P2 P3 P4 P5 : Ta -> Prop} (h : P0 /\ ∃ a, P1 a /\ P2 a /\ P3 a /\ P4 a /\ P5 a) (k : P0 -> ∀ a, P1 a -> P2 a -> P3 a -> P4 a -> P5 a -> G) : G := h.elim fun z0 h => h.elim fun z1 h => h.elim fun z2 h => h.elim fun z3 h => h.elim fun z4 h => h.elim fun z5 z6 => k z0 z1 z2 z3 z4 z5 z6
theorem vI {P0 : Prop} {P1 P2 P3 P4 : Ta -> Tb -> Prop} (h : P0 /\ ∃ a, ∃ b, P1 a b /\ P2 a b /\ P3 a b /\ P4 a b) (k : P0 -> ∀ a, ∀ b, P1 a b -> P2 a b -> P3 a b -> P4 a b -> G) : G := h.elim fun z0 h => gv h (k z0)
theorem qi {P0 : Ta -> Prop} {P1 P2 P3 : Ta -> Tb -> Tc -> Prop} (h : ∃ a, P0 a /\ ∃ b, ∃ c, P1 a b c /\ P2 a b c /\ P3 a b c) (k : ∀ a, P0 a -> ∀ b, ∀ c, P1 a b c -> P2 a b c -> P3 a b c -> G) : G := h.elim fun z0 h => yA h (k z0)
theorem Bx {P0 P1 P2 P3 P4 : Ta -> Tb -> Prop} (h : ∃ a, ∃ b, P0 a b /\ P1 a b /\ P2 a b /\ P3 a b /\ P4 a b) (k : ∀ a, ∀ b, P0 a b -> P1 a b -> P2 a b -> P3 a b -> P4 a b -> G) : G := h.elim fun z0 h => h.elim fun z1 h => h.elim fun z2 h => h.elim fun z3 h => h.elim fun z4 h => h.elim fun z5 z6 => k z0 z1 z2 z3 z4 z5 z6
theorem fh {P0 P1 P2 P3 : Ta -> Tb -> Tc -> Prop} (h : ∃ a, ∃ b, ∃ c, P0 a b c /\ P1 a b c /\ P2 a b c /\ P3 a b c) (k : ∀ a, ∀ b, ∀ c, P0 a b c -> P1 a b c -> P2 a b c -> P3 a b c -> G) : G := h.elim fun z0 h => gv h (k z0)
theorem lD {P0 P1 P2 : Ta -> Tb -> Tc -> Td -> Prop} (h : ∃ a, ∃ b, ∃ c, ∃ d, P0 a b c d /\ P1 a b c d /\ P2 a b c d) (k : ∀ a, ∀ b, ∀ c, ∀ d, P0 a b c d -> P1 a b c d -> P2 a b c d -> G) : G := h.elim fun z0 h => bv h (k z0)
theorem iJ {P0 P1 P2 P3 P4 P5 : Ta -> Tb -> Prop} (a : Ta) (b : Tb) (z2 : P0 a b) (z3 : P1 a b) (z4 : P2 a b) (z5 : P3 a b) (z6 : P4 a b) (z7 : P5 a b) : ∃ a, ∃ b, P0 a b /\ P1 a b /\ P2 a b /\ P3 a b /\ P4 a b /\ P5 a b := ⟨a, b, z2, z3, z4, z5, z6, z7⟩
theorem nu {P0 P1 P2 P3 P4 : Ta -> Tb -> Tc -> Prop} (a : Ta) (b : Tb) (c : Tc) (z3 : P0 a b c) (z4 : P1 a b c) (z5 : P2 a b c) (z6 : P3 a b c) (z7 : P4 a b c) : ∃ a, ∃ b, ∃ c, P0 a b c /\ P1 a b c /\ P2 a b c /\ P3 a b c /\ P4 a b c := ⟨a, b, c, z3, z4, z5, z6, z7⟩
theorem nv {P0 P1 P2 P3 : Ta -> Tb -> Tc -> Td -> Prop} (a : Ta) (b : Tb) (c : Tc) (d : Td) (z4 : P0 a b c d) (z5 : P1 a b c d) (z6 : P2 a b c d) (z7 : P3 a b c d) : ∃ a, ∃ b, ∃ c, ∃ d, P0 a b c d /\ P1 a b c d /\ P2 a b c d /\ P3 a b c d := ⟨a, qm b c d z4 z5 z6 z7⟩
theorem yB {P0 : Ta -> Prop} {P1 P2 P3 : Ta -> Tb -> Tc -> Td -> Prop} (h : ∃ a, P0 a /\ ∃ b, ∃ c, ∃ d, P1 a b c d /\ P2 a b c d /\ P3 a b c d) (k : ∀ a, P0 a -> ∀ b, ∀ c, ∀ d, P1 a b c d -> P2 a b c d -> P3 a b c d -> G) : G := h.elim fun z0 h => h.elim fun z1 h => h.elim fun z2 h => h.elim fun z3 h => h.elim fun z4 h => h.elim fun z5 h => h.elim fun z6 z7 => k z0 z1 z2 z3 z4 z5 z6 z7
theorem lC {P0 P1 P2 P3 P4 P5 : Ta -> Tb -> Prop} (h : ∃ a, ∃ b, P0 a b /\ P1 a b /\ P2 a b /\ P3 a b /\ P4 a b /\ P5 a b) (k : ∀ a, ∀ b, P0 a b -> P1 a b -> P2 a b -> P3 a b -> P4 a b -> P5 a b -> G) : G := h.elim fun z0 h => h.elim fun z1 h => h.elim fun z2 h => h.elim fun z3 h => h.elim fun z4 h => h.elim fun z5 h => h.elim fun z6 z7 => k z0 z1 z2 z3 z4 z5 z6 z7
theorem yC {P0 : Ta -> Tb -> Prop} {P1 P2 P3 P4 : Ta -> Tb -> Tc -> Prop} (h : ∃ a, ∃ b, P0 a b /\ ∃ c, P1 a b c /\ P2 a b c /\ P3 a b c /\ P4 a b c) (k : ∀ a, ∀ b, P0 a b -> ∀ c, P1 a b c -> P2 a b c -> P3 a b c -> P4 a b c -> G) : G := h.elim fun z0 h => h.elim fun z1 h => h.elim fun z2 h => h.elim fun z3 h => h.elim fun z4 h => h.elim fun z5 h => h.elim fun z6 z7 => k z0 z1 z2 z3 z4 z5 z6 z7
theorem yD {P0 : Ta -> Tb -> Prop} {P1 P2 P3 : Ta -> Tb -> Tc -> Td -> Prop} (h : ∃ a, ∃ b, P0 a b /\ ∃ c, ∃ d, P1 a b c d /\ P2 a b c d /\ P3 a b c d) (k : ∀ a, ∀ b, P0 a b -> ∀ c, ∀ d, P1 a b c d -> P2 a b c d -> P3 a b c d -> G) : G := h.elim fun z0 h => qi h (k z0)
theorem yF {P0 P1 P2 P3 : Ta -> Tb -> Tc -> Td -> Prop} (h : ∃ a, ∃ b, ∃ c, ∃ d, P0 a b c d /\ P1 a b c d /\ P2 a b c d /\ P3 a b c d) (k : ∀ a, ∀ b, ∀ c, ∀ d, P0 a b c d -> P1 a b c d -> P2 a b c d -> P3 a b c d -> G) : G := h.elim fun z0 h => fh h (k z0)
theorem ma {P0 P1 P2 P3 P4 P5 P6 : Ta -> Tb -> Prop} (a : Ta) (b : Tb) (z2 : P0 a b) (z3 : P1 a b) (z4 : P2 a b) (z5 : P3 a b) (z6 : P4 a b) (z7 : P5 a b) (z8 : P6 a b) : ∃ a, ∃ b, P0 a b /\ P1 a b /\ P2 a b /\ P3 a b /\ P4 a b /\ P5 a b /\ P6 a b := ⟨a, b, z2, z3, z4, z5, z6, z7, z8⟩
theorem oW {P0 P1 P2 P3 P4 P5 P6 P7 P8 : Prop} (h : P0 /\ P1 /\ P2 /\ P3 /\ P4 /\ P5 /\ P6 /\ P7 /\ P8) (k : P0 -> P1 -> P2 -> P3 -> P4 -> P5 -> P6 -> P7 -> P8 -> G) : G := h.elim fun z0 h => h.elim fun z1 h => h.elim fun z2 h => h.elim fun z3 h => h.elim fun z4 h => h.elim fun z5 h => h.elim fun z6 h => h.elim fun z7 z8 => k z0 z1 z2 z3 z4 z5 z6 z7 z8
theorem wR {P0 : Prop} {P1 P2 P3 P4 P5 : Ta -> Tb -> Tc -> Prop} (h : P0 /\ ∃ a, ∃ b, ∃ c, P1 a b c /\ P2 a b c /\ P3 a b c /\ P4 a b c /\ P5 a b c) (k : P0 -> ∀ a, ∀ b, ∀ c, P1 a b c -> P2 a b c -> P3 a b c -> P4 a b c -> P5 a b c -> G) : G := h.elim fun z0 h => h.elim fun z1 h => h.elim fun z2 h => h.elim fun z3 h => h.elim fun z4 h => h.elim fun z5 h => h.elim fun z6 h => h.elim fun z7 z8 => k z0 z1 z2 z3 z4 z5 z6 z7 z8
theorem wT {P0 P1 P2 P3 P4 P5 P6 : Ta -> Tb -> Prop} (h : ∃ a, ∃ b, P0 a b /\ P1 a b /\ P2 a b /\ P3 a b /\ P4 a b /\ P5 a b /\ P6 a b) (k : ∀ a, ∀ b, P0 a b -> P1 a b -> P2 a b -> P3 a b -> P4 a b -> P5 a b -> P6 a b -> G) : G := h.elim fun z0 h => h.elim fun z1 h => h.elim fun z2 h => h.elim fun z3 h => h.elim fun z4 h => h.elim fun z5 h => h.elim fun z6 h => h.elim fun z7 z8 => k z0 z1 z2 z3 z4 z5 z6 z7 z8
theorem k8 {P0 P1 : Ta -> Tb -> Prop} {P2 P3 P4 : Ta -> Tb -> Tc -> Td -> Prop} (h : ∃ a, ∃ b, P0 a b /\ P1 a b /\ ∃ c, ∃ d, P2 a b c d /\ P3 a b c d /\ P4 a b c d) (k : ∀ a, ∀ b, P0 a b -> P1 a b -> ∀ c, ∀ d, P2 a b c d -> P3 a b c d -> P4 a b c d -> G) : G := h.elim fun z0 h => h.elim fun z1 h => h.elim fun z2 h => h.elim fun z3 h => h.elim fun z4 h => h.elim fun z5 h => h.elim fun z6 h => h.elim fun z7 z8 => k z0 z1 z2 z3 z4 z5 z6 z7 z8
theorem oX {P0 P1 P2 P3 P4 P5 : Ta -> Tb -> Tc -> Prop} (h : ∃ a, ∃ b, ∃ c, P0 a b c /\ P1 a b c /\ P2 a b c /\ P3 a b c /\ P4 a b c /\ P5 a b c) (k : ∀ a, ∀ b, ∀ c, P0 a b c -> P1 a b c -> P2 a b c -> P3 a b c -> P4 a b c -> P5 a b c -> G) : G := h.elim fun z0 h => lC h (k z0)
theorem hZ {P0 : Prop} {P1 P2 P3 P4 P5 P6 P7 : Ta -> Tb -> Prop} (z0 : P0) (a : Ta) (b : Tb) (z3 : P1 a b) (z4 : P2 a b) (z5 : P3 a b) (z6 : P4 a b) (z7 : P5 a b) (z8 : P6 a b) (z9 : P7 a b) : P0 /\ ∃ a, ∃ b, P1 a b /\ P2 a b /\ P3 a b /\ P4 a b /\ P5 a b /\ P6 a b /\ P7 a b := ⟨z0, ma a b z3 z4 z5 z6 z7 z8 z9⟩
theorem nt {P0 : Ta -> Prop} {P1 P2 P3 P4 P5 : Ta -> Tb -> Tc -> Td -> Prop} (a : Ta) (z1 : P0 a) (b : Tb) (c : Tc) (d : Td) (z5 : P1 a b c d) (z6 : P2 a b c d) (z7 : P3 a b c d) (z8 : P4 a b c d) (z9 : P5 a b c d) : ∃ a, P0 a /\ ∃ b, ∃ c, ∃ d, P1 a b c d /\ P2 a b c d /\ P3 a b c d /\ P4 a b c d /\ P5 a b c d := ⟨a, z1, b, c, d, z5, z6, z7, z8, z9⟩
theorem nl {P0 P1 P2 P3 P4 P5 : Ta -> Tb -> Tc -> Td -> Prop} (h : ∃ a, ∃ b, ∃ c, ∃ d, P0 a b c d /\ P1 a b c d /\ P2 a b c d /\ P3 a b c d /\ P4 a b c d /\ P5 a b c d) (k : ∀ a, ∀ b, ∀ c, ∀ d, P0 a b c d -> P1 a b c d -> P2 a b c d -> P3 a b c d -> P4 a b c d -> P5 a b c d -> G) : G := h.elim fun z0 h => oX h (k z0)
theorem mG {P0 P1 P2 P3 P4 P5 P6 P7 P8 : Ta -> Tb -> Prop} (a : Ta) (b : Tb) (z2 : P0 a b) (z3 : P1 a b) (z4 : P2 a b) (z5 : P3 a b) (z6 : P4 a b) (z7 : P5 a b) (z8 : P6 a b) (z9 : P7 a b) (z10 : P8 a b) : ∃ a, ∃ b, P0 a b /\ P1 a b /\ P2 a b /\ P3 a b /\ P4 a b /\ P5 a b /\ P6 a b /\ P7 a b /\ P8 a b := ⟨a, b, z2, z3, z4, z5, z6, z7, z8, z9, z10⟩
theorem bN {P0 P1 P2 P3 P4 P5 P6 P7 : Ta -> Tb -> Tc -> Prop} (a : Ta) (b : Tb) (c : Tc) (z3 : P0 a b c) (z4 : P1 a b c) (z5 : P2 a b c) (z6 : P3 a b c) (z7 : P4 a b c) (z8 : P5 a b c) (z9 : P6 a b c) (z10 : P7 a b c) : ∃ a, ∃ b, ∃ c, P0 a b c /\ P1 a b c /\ P2 a b c /\ P3 a b c /\ P4 a b c /\ P5 a b c /\ P6 a b c /\ P7 a b c := ⟨a, b, c, z3, z4, z5, z6, z7, z8, z9, z10⟩
theorem dY {P0 P1 P2 P3 P4 P5 P6 : Ta -> Tb -> Tc -> Td -> Prop} (a : Ta) (b : Tb) (c : Tc) (d : Td) (z4 : P0 a b c d) (z5 : P1 a b c d) (z6 : P2 a b c d) (z7 : P3 a b c d) (z8 : P4 a b c d) (z9 : P5 a b c d) (z10 : P6 a b c d) : ∃ a, ∃ b, ∃ c, ∃ d, P0 a b c d /\ P1 a b c d /\ P2 a b c d /\ P3 a b c d /\ P4 a b c d /\ P5 a b c d /\ P6 a b c d := ⟨a, b, c, d, z4, z5, z6, z7, z8, z9, z10⟩
theorem mE {P0 P1 P2 P3 P4 P5 P6 P7 P8 P9 P10 : Prop} (h : P0 /\ P1 /\ P2 /\ P3 /\ P4 /\ P5 /\ P6 /\ P7 /\ P8 /\ P9 /\ P10) (k : P0 -> P1 -> P2 -> P3 -> P4 -> P5 -> P6 -> P7 -> P8 -> P9 -> P10 -> G) : G := h.elim fun z0 h => h.elim fun z1 h => h.elim fun z2 h => h.elim fun z3 h => h.elim fun z4 h => h.elim fun z5 h => h.elim fun z6 h => h.elim fun z7 h => h.elim fun z8 h => h.elim fun z9 z10 => k z0 z1 z2 z3 z4 z5 z6 z7 z8 z9 z10
theorem fq {P0 P1 P2 P3 P4 P5 P6 P7 P8 : Ta -> Tb -> Prop} (h : ∃ a, ∃ b, P0 a b /\ P1 a b /\ P2 a b /\ P3 a b /\ P4 a b /\ P5 a b /\ P6 a b /\ P7 a b /\ P8 a b) (k : ∀ a, ∀ b, P0 a b -> P1 a b -> P2 a b -> P3 a b -> P4 a b -> P5 a b -> P6 a b -> P7 a b -> P8 a b -> G) : G := h.elim fun z0 h => h.elim fun z1 h => h.elim fun z2 h => h.elim fun z3 h => h.elim fun z4 h => h.elim fun z5 h => h.elim fun z6 h => h.elim fun z7 h => h.elim fun z8 h => h.elim fun z9 z10 => k z0 z1 z2 z3 z4 z5 z6 z7 z8 z9 z10
theorem aJ {P0 P1 P2 P3 P4 P5 P6 P7 : Ta -> Tb -> Tc -> Prop} (h : ∃ a, ∃ b, ∃ c, P0 a b c /\ P1 a b c /\ P2 a b c /\ P3 a b c /\ P4 a b c /\ P5 a b c /\ P6 a b c /\ P7 a b c) (k : ∀ a, ∀ b, ∀ c, P0 a b c -> P1 a b c -> P2 a b c -> P3 a b c -> P4 a b c -> P5 a b c -> P6 a b c -> P7 a b c -> G) : G := h.elim fun z0 h => h.elim fun z1 h => h.elim fun z2 h => h.elim fun z3 h => h.elim fun z4 h => h.elim fun z5 h => h.elim fun z6 h => h.elim fun z7 h => h.elim fun z8 h => h.elim fun z9 z10 => k z0 z1 z2 z3 z4 z5 z6 z7 z8 z9 z10
theorem jH {P0 P1 P2 P3 P4 P5 P6 : Ta -> Tb -> Tc -> Td -> Prop} (h : ∃ a, ∃ b, ∃ c, ∃ d, P0 a b c d /\ P1 a b c d /\ P2 a b c d /\ P3 a b c d /\ P4 a b c d /\ P5 a b c d /\ P6 a b c d) (k : ∀ a, ∀ b, ∀ c, ∀ d, P0 a b c d -> P1 a b c d -> P2 a b c d -> P3 a b c d -> P4 a b c d -> P5 a b c d -> P6 a b c d -> G) : G := h.elim fun z0 h => h.elim fun z1 h => h.elim fun z2 h => h.elim fun z3 h => h.elim fun z4 h => h.elim fun z5 h => h.elim fun z6 h => h.elim fun z7 h => h.elim fun z8 h => h.elim fun z9 z10 => k z0 z1 z2 z3 z4 z5 z6 z7 z8 z9 z10
theorem rC {P0 P1 P2 P3 P4 P5 : Ta -> Tb -> Tc -> Td -> Te -> Prop} (h : ∃ a, ∃ b, ∃ c, ∃ d, ∃ e, P0 a b c d e /\ P1 a b c d e /\ P2 a b c d e /\ P3 a b c d e /\ P4 a b c d e /\ P5 a b c d e) (k : ∀ a, ∀ b, ∀ c, ∀ d, ∀ e, P0 a b c d e -> P1 a b c d e -> P2 a b c d e -> P3 a b c d e -> P4 a b c d e -> P5 a b c d e -> G) : G := h.elim fun z0 h => nl h (k z0)
theorem qj {P0 P1 P2 P3 P4 P5 P6 P7 : Ta -> Tb -> Tc -> Td -> Prop} (h : ∃ a, ∃ b, ∃ c, ∃ d, P0 a b c d /\ P1 a b c d /\ P2 a b c d /\ P3 a b c d /\ P4 a b c d /\ P5 a b c d /\ P6 a b c d /\ P7 a b c d) (k : ∀ a, ∀ b, ∀ c, ∀ d, P0 a b c d -> P1 a b c d -> P2 a b c d -> P3 a b c d -> P4 a b c d -> P5 a b c d -> P6 a b c d -> P7 a b c d -> G) : G := h.elim fun z0 h => aJ h (k z0)
theorem gk {P0 P1 P2 P3 P4 P5 : Ta -> Tb -> Tc -> Td -> Te -> Tf -> Tg -> Prop} (a : Ta) (b : Tb) (c : Tc) (d : Td) (e : Te) (f : Tf) (g : Tg) (z7 : P0 a b c d e f g) (z8 : P1 a b c d e f g) (z9 : P2 a b c d e f g) (z10 : P3 a b c d e f g) (z11 : P4 a b c d e f g) (z12 : P5 a b c d e f g) : ∃ a, ∃ b, ∃ c, ∃ d, ∃ e, ∃ f, ∃ g, P0 a b c d e f g /\ P1 a b c d e f g /\ P2 a b c d e f g /\ P3 a b c d e f g /\ P4 a b c d e f g /\ P5 a b c d e f g := ⟨a, b, c, d, e, f, g, z7, z8, z9, z10, z11, z12⟩
end
set_option compiler.extract_closed false in
def aK : Lean.Syntax := .node .none `Lean.Parser.Tactic.tacticSeq #[.node .none `Lean.Parser.Tactic.tacticSeq1Indented #[.node .none `null #[.node .none `tacticKernel_rfl #[.atom .none "kernel_rfl"]]]]
set_option compiler.extract_closed false in
def aR : Lean.Syntax := .node .none `Lean.Parser.Tactic.tacticSeq #[.node .none `Lean.Parser.Tactic.tacticSeq1Indented #[.node .none `null #[.node .none `Lean.Parser.Tactic.intros #[.atom .none "intros", .node .none `null #[]], .atom .none ";", .node .none `Lean.Parser.Tactic.tacticRfl #[.atom .none "rfl"]]]]
set_option compiler.extract_closed false in
def aD : Lean.Syntax := .node .none `Lean.Parser.Tactic.tacticSeq #[.node .none `Lean.Parser.Tactic.tacticSeq1Indented #[.node .none `null #[.node .none `Lean.Parser.Tactic.decide #[.atom .none "decide", .node .none `Lean.Parser.Tactic.optConfig #[.node .none `null #[]]]]]]
set_option compiler.extract_closed false in
def aW : Lean.Syntax := .node .none `Lean.Parser.Tactic.tacticSeq #[.node .none `Lean.Parser.Tactic.tacticSeq1Indented #[.node .none `null #[.node .none `Lean.Parser.Tactic.withUnfoldingAll #[.atom .none "with_unfolding_all", .node .none `Lean.Parser.Tactic.tacticSeq #[.node .none `Lean.Parser.Tactic.tacticSeq1Indented #[.node .none `null #[.node .none `Lean.Parser.Tactic.tacticRfl #[.atom .none "rfl"]]]]]]]]
theorem PR {k : Nat} (h : k < 2) : k = 0 \/ k = 1 := by omega
theorem lt3 {k : Nat} (h : k < 3) : k = 0 \/ k = 1 \/ k = 2 := by omega
theorem lt4 {k : Nat} (h : k < 4) : k = 0 \/ k = 1 \/ k = 2 \/ k = 3 := by omega
namespace Om
theorem lm {a b c : Nat} (h : c < b) (d : a ≤ c) : a < b := Nat.lt_of_le_of_lt d h
theorem lr {a b c : Nat} (h : a < c) (d : c ≤ b) : a < b := Nat.lt_of_lt_of_le h d
theorem em {a b c : Nat} (h : c ≤ b) (d : a ≤ c) : a ≤ b := Nat.le_trans d h
theorem lN {x : Nat} (k : Nat) {m : Nat} (h : x ≤ k) (d : Nat.ble k m = true) : x ≤ m := Nat.le_trans h (Nat.le_of_ble_eq_true d)
theorem lS {x : Nat} (k : Nat) {m : Nat} (h : x < k) (d : Nat.ble k m = true) : x < m := Nat.lt_of_lt_of_le h (Nat.le_of_ble_eq_true d)
theorem lE {x : Nat} (k : Nat) {m : Nat} (h : x < k) (d : Nat.ble k (m + 1) = true) : x ≤ m := Nat.le_of_lt_succ (Nat.lt_of_lt_of_le h (Nat.le_of_ble_eq_true d))
theorem lL {x : Nat} (k : Nat) {m : Nat} (h : x ≤ k) (d : Nat.blt k m = true) : x < m := Nat.lt_of_le_of_lt h (Nat.le_of_ble_eq_true d)
theorem s1 (a b : Nat) : a + 1 + b = a + (b + 1) := Nat.add_right_comm a 1 b
theorem tn {n i : Nat} (h : i < n) : n + 1 - (i + 1) < n + 1 - i := Nat.sub_lt_sub_left (Nat.lt_succ_of_lt h) (Nat.lt_succ_self i)
theorem md {x k m : Nat} (h : Nat.blt 0 k = true) (d : Nat.ble k m = true) : x % k < m := Nat.lt_of_lt_of_le (Nat.mod_lt _ (Nat.le_of_ble_eq_true h)) (Nat.le_of_ble_eq_true d)
theorem nmin (n m : Nat) : (max 0 (min (n : Int) (m : Int))).toNat = min n m := by
 rcases Nat.le_total n m with h | h
 . rw [Nat.min_eq_left h, Int.min_eq_left (Int.ofNat_le.mpr h), Int.max_eq_right (Int.natCast_nonneg _)]; rfl
 . rw [Nat.min_eq_right h, Int.min_eq_right (Int.ofNat_le.mpr h), Int.max_eq_right (Int.natCast_nonneg _)]; rfl
theorem oc (x k q : Nat) (h : q = x / k / 64) : q * 64 + (64 + x / k % 64) % 64 = x / k := by
 rw [h, Nat.add_mod_left, Nat.mod_mod, Nat.mul_comm]; exact Nat.div_add_mod _ _
theorem oc1 (x q : Nat) (h : q = x / 64) : q * 64 + x % 64 % 64 = x := by
 rw [h, Nat.mod_mod, Nat.mul_comm]; exact Nat.div_add_mod _ _
theorem oc0 (x k : Nat) (h : x / k < 64) : 0 * 64 + (64 + x / k % 64) % 64 = x / k := by
 rw [Nat.zero_mul, Nat.zero_add, Nat.add_mod_left, Nat.mod_mod, Nat.mod_eq_of_lt h]
theorem oct1 {c : Nat} (h : c < 16777216) : ((((0 * 64 + (64 + c / 262144 % 64) % 64) * 64 + (64 + c / 4096 % 64) % 64) * 64 + (64 + c / 64 % 64) % 64) * 64 + c % 64 % 64) = c := by
 rw [oc0 _ _ (Nat.div_lt_of_lt_mul h), oc _ 4096 _ (Nat.div_div_eq_div_mul c 4096 64).symm, oc _ 64 _ (Nat.div_div_eq_div_mul c 64 64).symm, oc1 _ _ rfl]
theorem oct2 {c : Nat} (h : c < 262144) : (((0 * 64 + (64 + c / 4096 % 64) % 64) * 64 + (64 + c / 64 % 64) % 64) * 64 + c % 64 % 64) = c := by
 rw [oc0 _ _ (Nat.div_lt_of_lt_mul h), oc _ 64 _ (Nat.div_div_eq_div_mul c 64 64).symm, oc1 _ _ rfl]
theorem oct3 {c : Nat} (h : c < 4096) : ((0 * 64 + (64 + c / 64 % 64) % 64) * 64 + c % 64 % 64) = c := by
 rw [oc0 _ _ (Nat.div_lt_of_lt_mul h), oc1 _ _ rfl]
theorem oct4 {c : Nat} (h : c < 64) : 0 * 64 + c % 64 % 64 = c := by
 rw [Nat.zero_mul, Nat.zero_add, Nat.mod_mod, Nat.mod_eq_of_lt h]
theorem bhi (d e : Nat) : (d + 128 * e) / 2 ^ 6 % 2 = d / 2 ^ 6 % 2 := by
 rw [show d + 128 * e = d + 2 ^ 6 * (2 * e) by rw [<- Nat.mul_assoc], Nat.add_mul_div_left _ _ (by decide), Nat.add_mul_mod_self_left]
theorem fhi (b e : Nat) : (b + 128 * e) % 64 = b % 64 := by
 rw [show 128 * e = 64 * (2 * e) by rw [<- Nat.mul_assoc], Nat.add_mul_mod_self_left]
theorem m48 (c : Nat) : c % 16 = (c % 48 + 7 - 7) % 16 := by
 rw [Nat.add_sub_cancel]; exact (Nat.mod_mod_of_dvd c ⟨3, rfl⟩).symm
theorem bdc (n : Nat) (j : Int) : ((max 0 (min j (n : Int))).toNat : Int) = max 0 (min j n) := Int.toNat_of_nonneg (Int.le_max_left _ _)
theorem tkm {i j : Nat} (h : i < j) : j - i = j - i - 1 + 1 := (Nat.succ_pred_eq_of_pos (Nat.sub_pos_of_lt h)).symm
theorem sin (n : Nat) : (max 0 (min (-1 + (n : Int)) n)).toNat = n - 1 := by
 cases n with
 | zero => rfl
 | succ k => rw [show -1 + ((k + 1 : Nat) : Int) = (k : Int) by rw [Int.natCast_succ, Int.add_comm]; exact Int.add_neg_cancel_right _ _, nmin]; exact Nat.min_eq_left (Nat.le_succ k)
theorem minle {a b n k : Nat} (h : n ≤ k) : min a (n - b) ≤ k := Nat.le_trans (Nat.min_le_right _ _) (Nat.le_trans (Nat.sub_le _ _) h)
theorem tri {n : Nat} (h1 : 256 ≤ n) (h2 : n < 259) : n = 256 \/ n = 257 \/ n = 258 := by
 rcases Nat.lt_succ_iff_lt_or_eq.mp h2 with h | h
 . rcases Nat.lt_succ_iff_lt_or_eq.mp h with h | h
   . exact .inl (Nat.le_antisymm (Nat.le_of_lt_succ h) h1)
   . exact .inr (.inl h)
 . exact .inr (.inr h)
theorem sA {s : Nat} (h : (7 ≤ s /\ s < 55) \/ (256 ≤ s /\ s < 259)) (c : s < 256) : 7 ≤ s /\ s < 55 := h.resolve_right fun q => absurd c (Nat.not_lt.mpr q.1)
theorem sB {s : Nat} (h : (7 ≤ s /\ s < 55) \/ (256 ≤ s /\ s < 259)) (c : ¬ s < 256) : 256 ≤ s /\ s < 259 := h.resolve_left fun q => c (Nat.lt_trans q.2 (by decide))
theorem s7 {s : Nat} (h : (7 ≤ s /\ s < 55) \/ (256 ≤ s /\ s < 259)) : 7 ≤ s := h.elim (·.1) fun q => Nat.le_trans (by decide) q.1
theorem s48 {s : Nat} (h : (7 ≤ s /\ s < 55) \/ (256 ≤ s /\ s < 259)) (c : s < 256) : s - 7 < 48 := Nat.sub_lt_left_of_lt_add (sA h c).1 (sA h c).2
theorem s3 {s : Nat} (h : (7 ≤ s /\ s < 55) \/ (256 ≤ s /\ s < 259)) (c : ¬ s < 256) : s = 256 \/ s = 257 \/ s = 258 := tri (sB h c).1 (sB h c).2
theorem s2 {s : Nat} (h : (7 ≤ s /\ s < 55) \/ (256 ≤ s /\ s < 259)) (c : ¬ s < 256) : s - 256 < 3 := Nat.sub_lt_left_of_lt_add (sB h c).1 (sB h c).2
theorem s0 {s : Nat} (h : (7 ≤ s /\ s < 55) \/ (256 ≤ s /\ s < 259)) : ¬ (s : Int) = 0 := fun e => absurd (s7 h) (by rw [Int.ofNat_eq_zero.mp e]; decide)
theorem eN {x y : Nat} (e : y = x) (k : Nat) {m : Nat} (h : x ≤ k) (d : Nat.ble k m = true) : y ≤ m := Nat.le_trans (Nat.le_of_eq e) (Nat.le_trans h (Nat.le_of_ble_eq_true d))
theorem eS {x y : Nat} (e : y = x) (k : Nat) {m : Nat} (h : x < k) (d : Nat.ble k (m + 1) = true) : y ≤ m := Nat.le_of_lt_succ (Nat.lt_of_le_of_lt (Nat.le_of_eq e) (Nat.lt_of_lt_of_le h (Nat.le_of_ble_eq_true d)))
theorem eK {x k m : Nat} (e : x = k) (d : Nat.ble k m = true) : x ≤ m := Nat.le_trans (Nat.le_of_eq e) (Nat.le_of_ble_eq_true d)
theorem eT {x k m : Nat} (e : x = k) (d : Nat.blt k m = true) : x < m := Nat.lt_of_le_of_lt (Nat.le_of_eq e) (Nat.le_of_ble_eq_true d)
theorem eG {x k m : Nat} (e : x = k) (d : Nat.blt m k = true) : m < x := Nat.lt_of_lt_of_le (Nat.le_of_ble_eq_true d) (Nat.le_of_eq e.symm)
theorem aN {a b : Nat} (k l : Nat) {m : Nat} (h : a ≤ k) (h' : b ≤ l) (d : Nat.ble (k + l) m = true) : a + b ≤ m := Nat.le_trans (Nat.add_le_add h h') (Nat.le_of_ble_eq_true d)
theorem aS {a b : Nat} (k l : Nat) {m : Nat} (h : a < k) (h' : b ≤ l) (d : Nat.ble (k + l) m = true) : a + b < m := Nat.lt_of_lt_of_le (Nat.add_lt_add_of_lt_of_le h h') (Nat.le_of_ble_eq_true d)
theorem mN {a c : Nat} (k : Nat) {m : Nat} (h : a ≤ k) (d : Nat.ble (c * k) m = true) : c * a ≤ m := Nat.le_trans (Nat.mul_le_mul_left c h) (Nat.le_of_ble_eq_true d)
theorem cM {x y c : Nat} (k : Nat) {m : Nat} (h : x ≤ c * y) (h' : y ≤ k) (d : Nat.ble (c * k) m = true) : x ≤ m := Nat.le_trans h (mN k h' d)
theorem cL {x y c : Nat} (k : Nat) {m : Nat} (h : x ≤ c * y) (h' : y ≤ k) (d : Nat.blt (c * k) m = true) : x < m := Nat.lt_of_le_of_lt h (Nat.lt_of_le_of_lt (Nat.mul_le_mul_left c h') (Nat.le_of_ble_eq_true d))
theorem cC {x y z b c : Nat} (k : Nat) {m : Nat} (h : x ≤ b * y) (h' : y ≤ c * z) (h'' : z ≤ k) (d : Nat.ble (b * (c * k)) m = true) : x ≤ m := cM (c * k) h (Nat.le_trans h' (Nat.mul_le_mul_left c h'')) d
theorem cT {w x y c : Nat} (k : Nat) {m : Nat} (g : w < x) (h : x ≤ c * y) (h' : y ≤ k) (d : Nat.ble (c * k) m = true) : w < m := Nat.lt_of_lt_of_le g (cM k h h' d)
theorem n1 {a b m : Nat} (d : Nat.ble a m = true) : min a b ≤ m := Nat.le_trans (Nat.min_le_left _ _) (Nat.le_of_ble_eq_true d)
theorem n2 {a b m : Nat} (d : Nat.ble b m = true) : min a b ≤ m := Nat.le_trans (Nat.min_le_right _ _) (Nat.le_of_ble_eq_true d)
theorem ne {a b : Nat} (h : a < b + 1) (n : ¬ a = b) : a < b := Nat.lt_of_le_of_ne (Nat.le_of_lt_succ h) n
theorem nf {a b : Nat} (h : a ≤ b) (n : ¬ a < b) : a = b := Nat.le_antisymm h (Nat.le_of_not_lt n)
theorem pS {x c : Nat} (k : Nat) {m : Nat} (h : x < k) (d : Nat.ble (c + k) m = true) : c + x < m := Nat.lt_of_lt_of_le (Nat.add_lt_add_left h c) (Nat.le_of_ble_eq_true d)
theorem pL {x c : Nat} (k : Nat) {m : Nat} (h : x < k) (d : Nat.ble (c + k) (m + 1) = true) : c + x ≤ m := Nat.le_of_lt_succ (pS k h d)
theorem pN {x c : Nat} (k : Nat) {m : Nat} (h : x ≤ k) (d : Nat.ble (c + k) m = true) : c + x ≤ m := Nat.le_trans (Nat.add_le_add_left h c) (Nat.le_of_ble_eq_true d)
theorem qN {x c : Nat} (k : Nat) {m : Nat} (h : x ≤ k) (d : Nat.ble (k + c) m = true) : x + c ≤ m := Nat.le_trans (Nat.add_le_add_right h c) (Nat.le_of_ble_eq_true d)
theorem iE {x : Nat} (k : Nat) {m : Int} (h : x ≤ k) (d : (k : Int) ≤ m) : (x : Int) ≤ m := Int.le_trans (Int.ofNat_le.mpr h) d
theorem gI {x : Nat} (k : Nat) {m : Int} (h : k ≤ x) (d : m ≤ (k : Int)) : m ≤ (x : Int) := Int.le_trans d (Int.ofNat_le.mpr h)
theorem jL {x k m : Int} {P : Prop} (h : P /\ x < k) (d : k ≤ m) : x < m := Int.lt_of_lt_of_le h.2 d
theorem jG {x m : Int} {P : Prop} (h : 0 ≤ x /\ P) (d : m ≤ 0) : m ≤ x := Int.le_trans d h.1
theorem zF {x : Nat} (h : 0 < x) (g : x = 0) : False := Nat.ne_of_gt h g
theorem cAN {x : Nat} {P : Prop} (k : Nat) {m : Nat} (h : x ≤ k /\ P) (d : Nat.ble k m = true) : x ≤ m := Nat.le_trans h.1 (Nat.le_of_ble_eq_true d)
theorem cAS {x : Nat} {P : Prop} (k : Nat) {m : Nat} (h : x ≤ k /\ P) (d : Nat.blt k m = true) : x < m := Nat.lt_of_le_of_lt h.1 (Nat.le_of_ble_eq_true d)
theorem cAT {x : Nat} {P : Prop} (k : Nat) {m : Nat} (h : x < k /\ P) (d : Nat.ble k m = true) : x < m := Nat.lt_of_lt_of_le h.1 (Nat.le_of_ble_eq_true d)
theorem cBT {x : Nat} {P : Prop} (k : Nat) {m : Nat} (h : P /\ x < k) (d : Nat.ble k m = true) : x < m := Nat.lt_of_lt_of_le h.2 (Nat.le_of_ble_eq_true d)
theorem dO {a b m : Nat} (h : Nat.ble a m = true) : a - b ≤ m := Nat.le_trans (Nat.sub_le a b) (Nat.le_of_ble_eq_true h)
theorem zI (x : Nat) (h : x ≠ 0) : (0 : Int) < (x : Int) := Int.ofNat_lt.mpr (Nat.pos_of_ne_zero h)
theorem m2 (x : Nat) {n : Nat} (h : ¬ x / n % 2 = 1) : x / n % 2 = 0 := (Nat.mod_two_eq_zero_or_one _).resolve_right h
theorem dm (x n : Nat) : n * (x / n) + x % n = x := Nat.div_add_mod x n
theorem rl {a b c d : Nat} (h : a ≤ b) (g : c + 8 * b + 256 < d) : c + 8 * a + 256 < d := Nat.lt_of_le_of_lt (Nat.add_le_add_right (Nat.add_le_add_left (Nat.mul_le_mul_left 8 h) c) 256) g
theorem rm {a b c d : Nat} (h : a ≤ b) (g : c + b < d) : c + a < d := Nat.lt_of_le_of_lt (Nat.add_le_add_left h c) g
end Om
theorem Om.a1 {x y c d : Nat} (e : x = y) (h : y ≤ c) (k : Nat.ble c d = true) : x ≤ d := e ▸ Nat.le_trans h (Nat.le_of_ble_eq_true k)
theorem Om.a4 {x y c d : Nat} (e : x = y) (h : y < c) (k : Nat.ble c d = true) : x < d := e ▸ Nat.lt_of_lt_of_le h (Nat.le_of_ble_eq_true k)
theorem Om.a5 {x y k f c d : Nat} (e : x = y) (hk : y + k = f) (hf : f ≤ c) (b : Nat.ble c d = true) : x ≤ d := e ▸ Nat.le_trans (Nat.le_trans (Nat.le_trans (Nat.le_add_right y k) (Nat.le_of_eq hk)) hf) (Nat.le_of_ble_eq_true b)
theorem Om.a6 {a k f : Nat} (h : a + (k + 1) = f) : a < f := Nat.lt_of_lt_of_eq (Nat.lt_add_of_pos_right (Nat.succ_pos k)) h
theorem Om.a7 {a k f : Nat} (h : a + (k + 1) = f) : a + 1 + k = f := by rw [<- h, Nat.add_assoc, Nat.add_comm 1 k]
theorem Om.a8 {a d c e : Nat} (h : a < d + 1) (hl : d ≤ c) (b : Nat.ble (c + 1) e = true) : a < e := Nat.lt_of_lt_of_le h (Nat.le_trans (Nat.succ_le_succ hl) (Nat.le_of_ble_eq_true b))
theorem Om.a9 {a d : Nat} (h : a < d + 1) : (a : Int) ≤ d := Int.ofNat_le.mpr (Nat.le_of_lt_succ h)
theorem Om.b2' {x y c : Nat} (e : x = y) (h : y < c) (b : Nat.ble c 9223372036854775808 = true) : (x : Int) < 2 ^ 63 := Int.lt_of_lt_of_le (Int.ofNat_lt.mpr (Om.a4 e h b)) (by decide)
theorem Om.b3' {y c : Nat} (h : y < c) (b : Nat.ble c 9223372036854775808 = true) : ¬ ((y : Int) ≥ 2 ^ 63) := Int.not_le.mpr (Om.b2' rfl h b)
theorem Om.b4 {j : Int} (h : 0 ≤ j) : ¬ j < -(2 ^ 63 : Int) := Int.not_lt.mpr (Int.le_trans (by decide) h)
theorem Om.b5 {j : Int} (h : j < 2 ^ 62) : ¬ j ≥ (2 ^ 63 : Int) := Int.not_le.mpr (Int.lt_trans h (by decide))
theorem Om.b1' {k : Int} {n c : Nat} (h : k < n) (h2 : n < c) (b : Nat.ble c 9223372036854775808 = true) : k < 2 ^ 63 := Int.lt_trans h (Om.b2' rfl h2 b)
theorem Om.c1 {a b c : Nat} (e : a = b + 1) (h : a + 1 ≤ c) : b ≤ c := Nat.le_trans (Nat.le_succ b) (Nat.le_trans (Nat.le_of_eq e.symm) (Nat.le_of_succ_le h))
theorem Om.c2 {a c : Nat} (h : a + 1 ≤ c) (q : c = a) : False := Nat.lt_irrefl a (Nat.lt_of_lt_of_eq h q)
theorem Om.c3 {a b c : Nat} (e : a = b + 1) (h : c < b) (q : c = a) : False := Nat.lt_irrefl b (Nat.lt_trans (Nat.lt_of_lt_of_eq (Nat.lt_succ_self b) (e.symm.trans q.symm)) h)
theorem Om.c4 {a b c : Nat} (e : a = b + 1) (h1 : a + 1 ≤ c) (h2 : c < b) : False := Nat.lt_irrefl b (Nat.lt_of_le_of_lt (Om.c1 e h1) h2)
theorem Om.c5 {a b : Nat} (e : a = b + 1) (q : b = a) : False := Nat.lt_irrefl b (Nat.lt_of_lt_of_eq (Nat.lt_succ_self b) (e.symm.trans q.symm))
theorem Om.c6 {a b : Nat} (e : a = b + 1) (h : a + 1 ≤ b) : False := Nat.lt_irrefl b (Nat.lt_of_lt_of_le (Nat.lt_of_lt_of_eq (Nat.lt_succ_self b) e.symm) (Nat.le_of_succ_le h))
theorem Om.d1 {r l c k : Nat} (hl : r + (l + 1) < c) (h : r + 1 = k) : k + l < c := by rw [<- h, Nat.add_assoc, Nat.add_comm 1 l]; exact hl
theorem Om.d2 {n r l : Nat} (h : n ≤ r + (l + 1)) : n ≤ r + 1 + l := by rw [Nat.add_assoc, Nat.add_comm 1 l]; exact h
theorem Om.d3 {e r l c k : Nat} (hl : e + r + (l + 1) < c) (h : r + 1 = k) : e + k < c := Nat.lt_of_le_of_lt (by rw [<- h, <- Nat.add_assoc]; exact Nat.add_le_add_left (Nat.succ_le_succ (Nat.zero_le l)) _) hl
theorem Om.d4 {n a b : Nat} (h : n ≤ a) : n ≤ a + 1 + b := Nat.le_trans h (Nat.le_trans (Nat.le_succ a) (Nat.le_add_right _ _))
theorem Om.x1 {s c a k : Nat} (h1 : s ≤ c) (h2 : a ≤ k) : a + s ≤ c + k := by rw [Nat.add_comm a]; exact Nat.add_le_add h1 h2
end
section
open PySem PySem.Calls PyProof.Rows
theorem dK {α : Type} {d : α} {P : Prop} (h : (none : Option α) = some d) : P := nomatch h
noncomputable abbrev KM := Addr -> Option Obj
inductive D where
 | none
 | bool (b : Bool)
 | int (i : Int)
 | str (l : List Nat)
 | list (xs : List D)
 | tup (xs : List D)
 | val (v : Value)
 | opq (p : KM -> Value -> Prop)
noncomputable abbrev S (l : List Nat) : Str := Str.mk l.toArray
def eV (K : KM) (h : Heap) : Prop := ∀ a o, K a = some o -> h.get? a = some o
def kJ (K K' : KM) : Prop := ∀ a o, K a = some o -> K' a = some o
structure bw (K : KM) (h : Heap) (K' : KM) : Prop where
 le : kJ K K'
 new : ∀ a o, K' a = some o -> K a = some o \/ h.get? a = none
noncomputable abbrev aT (vs : List Value) (n : Nat) : Obj := { cls := .type "list", data := .seq vs.toArray n }
noncomputable abbrev vE (vs : List Value) (n : Nat) : Obj := { cls := .type "tuple", data := .seq vs.toArray n }
mutual
noncomputable def bJ (K : KM) : D -> Value -> Prop
 | .none, v => v = .none
 | .bool b, v => v = .bool b
 | .int i, v => ∃ t, v = .int i t
 | .str x, v => ∃ t, v = .str (S x) t
 | .list xs, v => ∃ a vs n, v = .ref a /\ K a = some (aT vs n) /\ ak K xs vs
 | .tup xs, v => ∃ a vs n, v = .ref a /\ K a = some (vE vs n) /\ ak K xs vs
 | .val w, v => v = w
 | .opq p, v => ∃ rF : KM, (∀ a o, rF a = some o -> K a = some o) /\ p rF v
noncomputable def ak (K : KM) : List D -> List Value -> Prop
 | [], vs => vs = []
 | d :: ds, vs => ∃ v r, vs = v :: r /\ bJ K d v /\ ak K ds r
end
mutual
theorem bJ.mono {K K' : KM} (h : kJ K K') : ∀ {d : D} {v : Value}, bJ K d v -> bJ K' d v
 | .none, _, x => by simp only [bJ] at x ⊢; exact x
 | .bool _, _, x => by simp only [bJ] at x ⊢; exact x
 | .int _, _, x => by simp only [bJ] at x ⊢; exact x
 | .str _, _, x => by simp only [bJ] at x ⊢; exact x
 | .list _, _, x => by simp only [bJ] at x ⊢; (refine bv x fun a vs n e k r => ?_; clear x); exact (fD a vs n e (h _ _ k) (ak.mono h r))
 | .tup _, _, x => by simp only [bJ] at x ⊢; (refine bv x fun a vs n e k r => ?_; clear x); exact (fD a vs n e (h _ _ k) (ak.mono h r))
 | .val _, _, x => by simp only [bJ] at x ⊢; exact x
 | .opq _, _, x => by simp only [bJ] at x ⊢; (refine ax x fun rF a b => ?_; clear x); exact (bC rF (fun a' o e => h _ _ (a a' o e)) b)
theorem ak.mono {K K' : KM} (h : kJ K K') : ∀ {ds : List D} {vs : List Value}, ak K ds vs -> ak K' ds vs
 | [], _, x => by simp only [ak] at x ⊢; exact x
 | _ :: _, _, x => by simp only [ak] at x ⊢; (refine bk x fun v r e p q => ?_; clear x); exact (d8 v r e (bJ.mono h p) (ak.mono h q))
end
theorem kJ.refl (K : KM) : kJ K K := fun _ _ e => e
theorem kJ.trans {K K' K'' : KM} (x : kJ K K') (y : kJ K' K'') : kJ K K'' := fun a o e => y a o (x a o e)
theorem bw.refl (K : KM) (h : Heap) : bw K h K := ⟨kJ.refl K, fun _ _ e => .inl e⟩
theorem fN {h h' : Heap} (k : ∀ b o, h.get? b = some o -> h'.get? b = some o) {a : Addr} (e : h'.get? a = none) : h.get? a = none := by
 cases q : h.get? a with
 | none => rfl
 | some o => rw [k a o q] at e; exact sN e
theorem bw.trans {K K' K'' : KM} {h h' : Heap} (x : bw K h K') (k : ∀ b o, h.get? b = some o -> h'.get? b = some o) (y : bw K' h' K'') : bw K h K'' :=
 ⟨x.1.trans y.1, fun a o e => (y.2 a o e).elim (x.2 a o) fun q => .inr (fN k q)⟩
theorem ak.length {K : KM} : ∀ {ds : List D} {vs : List Value}, ak K ds vs -> vs.length = ds.length
 | [], _, x => by simp only [ak] at x; subst x; rfl
 | _ :: _, _, x => by simp only [ak] at x; (refine bk x fun v r q0 _ q => ?_; clear x; subst q0); simp [ak.length q]
theorem ak.get {K : KM} : ∀ {ds : List D} {vs : List Value} {i : Nat} {d : D}, ak K ds vs -> ds[i]? = some d -> ∃ v, vs[i]? = some v /\ bJ K d v
 | [], _, _, _, _, e => by simp at e
 | d :: ds, _, i, _, x, e => by
  simp only [ak] at x; (refine bk x fun v r q0 p q => ?_; clear x; subst q0)
  cases i with
  | zero => simp at e; subst e; exact (bC v (by simp) p)
  | succ i => simp at e; refine ax (ak.get q e) fun u e1 e2 => ?_; exact (bC u (by simpa using e1) e2)
theorem ak.get' {K : KM} {ds : List D} {vs : List Value} {i : Nat} {v : Value} (x : ak K ds vs) (e : vs[i]? = some v) : ∃ d, ds[i]? = some d /\ bJ K d v := by
 have hl := x.length
 have : i < vs.length := (List.getElem?_eq_some_iff.mp e).1
 have h' : i < ds.length := hl ▸ this
 refine ax (x.get (i := i) (d := ds[i]) (by simp [h'])) fun u e1 e2 => ?_
 rw [e] at e1; (replace e1 := siE e1; subst e1)
 exact (bC _ (by simp [h']) e2)
theorem ak.append {K : KM} : ∀ {ds es : List D} {vs ws : List Value}, ak K ds vs -> ak K es ws -> ak K (ds ++ es) (vs ++ ws)
 | [], _, _, _, x, y => by simp only [ak] at x; subst x; exact y
 | _ :: _, _, _, _, x, y => by
  simp only [ak] at x; (refine bk x fun v r q0 p q => ?_; clear x; subst q0)
  simp only [List.cons_append, ak]; exact (d8 v _ rfl p (ak.append q y))
theorem ak.one {K : KM} {d : D} {v : Value} (x : bJ K d v) : ak K [d] [v] := by simp only [ak]; exact (d8 v ([]) rfl x rfl)
theorem ak.nil {K : KM} : ak K [] [] := by simp only [ak]
theorem ak.cons {K : KM} {d : D} {v : Value} {ds : List D} {vs : List Value} (x : bJ K d v) (y : ak K ds vs) : ak K (d :: ds) (v :: vs) := by
 simp only [ak]; exact (d8 v vs rfl x y)
theorem ak.take {K : KM} : ∀ {ds : List D} {vs : List Value} (n : Nat), ak K ds vs -> ak K (ds.take n) (vs.take n)
 | [], _, n, x => by simp only [ak] at x; subst x; simp [ak]
 | _ :: _, _, 0, x => by simp [ak]
 | _ :: _, _, n + 1, x => by simp only [ak] at x; (refine bk x fun v r q0 p q => ?_; clear x; subst q0); simp only [List.take_succ_cons]; exact .cons p (ak.take n q)
theorem ak.drop {K : KM} : ∀ {ds : List D} {vs : List Value} (n : Nat), ak K ds vs -> ak K (ds.drop n) (vs.drop n)
 | [], _, n, x => by simp only [ak] at x; subst x; simp [ak]
 | _ :: _, _, 0, x => by simpa using x
 | _ :: _, _, n + 1, x => by simp only [ak] at x; (refine bk x fun v r q0 p q => ?_; clear x; subst q0); simp only [List.drop_succ_cons]; exact ak.drop n q
theorem ak.reverse {K : KM} : ∀ {ds : List D} {vs : List Value}, ak K ds vs -> ak K ds.reverse vs.reverse
 | [], _, x => by simp only [ak] at x; subst x; simp [ak]
 | _ :: _, _, x => by simp only [ak] at x; (refine bk x fun v r q0 p q => ?_; clear x; subst q0); simp only [List.reverse_cons]; exact ak.append (ak.reverse q) (ak.one p)
theorem jn {α γ : Type} {G : List α -> Option γ} (h0 : G [] = none) (h2 : ∀ a b r, G (a :: b :: r) = none) {ds : List α} {d : γ} (h : G ds = some d) : ∃ x, ds = [x] /\ G [x] = some d := by
 cases ds with
 | nil => rw [h0] at h; exact dK h
 | cons x r => cases r with
  | nil => exact (bC x rfl h)
  | cons y r => rw [h2] at h; exact dK h
theorem rA {α γ : Type} {G : List α -> Option γ} (h0 : G [] = none) (h1 : ∀ a, G [a] = none) (h3 : ∀ a b c r, G (a :: b :: c :: r) = none) {ds : List α} {d : γ} (h : G ds = some d) : ∃ x y, ds = [x, y] /\ G [x, y] = some d := by
 cases ds with
 | nil => rw [h0] at h; exact dK h
 | cons x r => cases r with
  | nil => rw [h1] at h; exact dK h
  | cons y r => cases r with
   | nil => exact (kA x y rfl h)
   | cons z r => rw [h3] at h; exact dK h
noncomputable def b2 {α β γ : Type} (g : α -> β -> Option γ) (a : Option α) (b : Option β) : Option γ := a.bind fun x => b.bind fun y => g x y
theorem ag {α β γ : Type} {g : α -> β -> Option γ} {x : α} {y : β} : b2 g (some x) (some y) = g x y := rfl
theorem j4 {α β γ : Type} {g : α -> β -> Option γ} {a : Option α} {b : Option β} {c : γ} (h : b2 g a b = some c) : ∃ x y, a = some x /\ b = some y /\ g x y = some c := by
 cases a with
 | none => exact dK h
 | some x => cases b with
  | none => exact dK h
  | some y => exact (d8 x y rfl rfl h)
def lc (a : Option D) (b : Option (List D)) : Option (List D) := b2 (fun d ds => some (d :: ds)) a b
theorem ai {d : D} {ds : List D} : lc (some d) (some ds) = some (d :: ds) := rfl
noncomputable def od (ds : List D) : Option D := if ds.length ≤ 10000 then some (.tup ds) else none
noncomputable def uG (ds : List D) : Option D := if ds.length ≤ 10000 then some (.list ds) else none
noncomputable abbrev af := Str -> Option D
noncomputable def upd (ρ : af) (x : Str) (d : D) : af := fun y => if y = x then some d else ρ y
structure dd where
 prog : Program
 w : World
 h₀ : Heap
 mg : Str -> Option Value
 mb : Str -> Option Value
noncomputable abbrev dd.M (C : dd) : Model := model C.prog C.w
structure dd.Ok (C : dd) : Prop where
 g : C.h₀.Ns mainGlobals C.mg
 b : C.h₀.Ns builtinsNs C.mb
 nolimit : C.h₀.NoLimit
 nodigits : ∃ mc, C.h₀.Ns cStatics mc /\ mc "sys.int_max_str_digits" = none
 builtins : ∀ x : Str, x ≠ "__name__" -> C.mb x = bootBuiltins x
inductive dQ (env : Env) (h : Heap) (x : Str) (v : Value) : Prop
 | loc (m : Str -> Option Value) (hk : env.kindOf x = some .local) (hn : h.Ns env.locals m) (hv : m x = some v)
 | cell (c : Addr) (hk : env.kindOf x = some .cell) (hc : env.cells.lookup x = some c) (hv : h.IsCell c (some v))
 | free (c : Addr) (hk : env.kindOf x = some .free) (hc : env.cells.lookup x = some c) (hv : h.IsCell c (some v))
theorem dQ.keeps {env : Env} {h h' : Heap} {x : Str} {v : Value} (y : dQ env h x v) (hk : ∀ b o, h.get? b = some o -> h'.get? b = some o) : dQ env h' x v := by
 cases y with
 | loc m a b c => exact .loc m a (b.keeps hk) c
 | cell c a b d => exact .cell c a b (d.keeps hk)
 | free c a b d => exact .free c a b (d.keeps hk)
structure nq (C : dd) (env : Env) (K : KM) (ρ : af) (h : Heap) : Prop where
 fn : env.scope.kind = .function
 gl : env.globals = mainGlobals
 bl : env.builtins = builtinsNs
 inH : eV K h
 base : ∀ a o, C.h₀.get? a = some o -> K a = some o
 ns : ∃ m, h.Ns env.locals m
 vars : ∀ x d, ρ x = some d -> ∃ v, dQ env h x v /\ bJ K d v
 caps : ∀ x, env.kindOf x = some .cell \/ env.kindOf x = some .free -> ∃ c, env.cells.lookup x = some c /\ ∃ o, h.get? c = some o
 cl : ∀ x c, env.cells.lookup x = some c -> ∃ o, h.get? c = some o
theorem nq.keeps {C : dd} {env : Env} {K K' : KM} {ρ : af} {h h' : Heap} (F : nq C env K ρ h) (hk : ∀ b o, h.get? b = some o -> h'.get? b = some o) (hK : kJ K K') (hi : eV K' h') : nq C env K' ρ h' :=
 ⟨F.fn, F.gl, F.bl, hi, fun a o e => hK _ _ (F.base a o e), let ⟨m, x⟩ := F.ns; ⟨m, x.keeps hk⟩, fun x d e => let ⟨v, a, b⟩ := F.vars x d e; ⟨v, a.keeps hk, b.mono hK⟩, fun x e => let ⟨c, h1, o, h2⟩ := F.caps x e; ⟨c, h1, o, hk _ _ h2⟩, fun x c e => let ⟨o, h2⟩ := F.cl x c e; ⟨o, hk _ _ h2⟩⟩
theorem nq.h₀ {C : dd} {env : Env} {K : KM} {ρ : af} {h : Heap} (F : nq C env K ρ h) : ∀ b o, C.h₀.get? b = some o -> h.get? b = some o := fun b o e => F.inH _ _ (F.base b o e)
structure dg (n : Nat) (A : Around) : Prop where
 hd : A.handled = none
 dp : A.depth + n < recursionLimit
 un : A.units + 8 * n + 256 < cLine
theorem dg.le {n m : Nat} {A : Around} (h : dg n A) (hm : m ≤ n) : dg m A := ⟨h.1, by have := h.2; with_reducible exact Om.rm ‹_› ‹_›, by have := h.3; with_reducible exact Om.rl ‹_› ‹_›⟩
structure Kp (s s' : Shared) : Prop where
 k : Keeps s s'
theorem Kp.refl (s : Shared) : Kp s s := ⟨s.heap, s.toks, rfl, fun _ _ e => e⟩
theorem Kp.trans {s s' s'' : Shared} (x : Kp s s') (y : Kp s' s'') : Kp s s'' := by
 obtain ⟨h, t, rfl, k⟩ := x
 obtain ⟨h', t', rfl, k'⟩ := y
 exact ⟨h', t', rfl, fun b o e => k' b o (k b o e)⟩
theorem Kp.get {s s' : Shared} (x : Kp s s') : ∀ b o, s.heap.get? b = some o -> s'.heap.get? b = some o := by
 obtain ⟨h, t, rfl, k⟩ := x; exact k
theorem Kp.of {s : Shared} {h : Heap} {t : Nat} (k : ∀ b o, s.heap.get? b = some o -> h.get? b = some o) : Kp s { s with heap := h, toks := t } := ⟨h, t, rfl, k⟩
theorem Kp.tok (s : Shared) (t : Nat) : Kp s { s with toks := t } := ⟨s.heap, t, rfl, fun _ _ e => e⟩
theorem Kp.push (s : Shared) (o : Obj) : Kp s { s with heap := s.heap.push o } := ⟨_, s.toks, rfl, fun _ _ e => Heap.get?_push_of_some _ e⟩
inductive Gm (K : KM) (s : Shared) (d : D) (v : Value) (s' : Shared) : Prop
 | mk (K' : KM) (g : bw K s.heap K') (i : eV K' s'.heap) (r : bJ K' d v)
structure dS (K : KM) (s : Shared) (d : D) (v : Value) (s' : Shared) : Prop where
 ex : Gm K s d v s'
 keeps : Kp s s'
def dq : Value -> Shared -> Prop := fun _ _ => False
structure ab (C : dd) (n : Nat) (sc : Scope) (e : Expr) (f : af -> Option D) : Prop where
 run : ∀ (A : Around) (env : Env) (K : KM) (ρ : af) (s : Shared) (d : D), dg n A -> env.scope = sc -> nq C env K ρ s.heap -> f ρ = some d ->
  wpAny C.M A (eval e env) (dS K s d) dq s
structure bj (C : dd) (n : Nat) (sc : Scope) (e : Expr) (f : af -> Option Bool) : Prop where
 run : ∀ (A : Around) (env : Env) (K : KM) (ρ : af) (s : Shared) (b : Bool), dg n A -> env.scope = sc -> nq C env K ρ s.heap -> f ρ = some b ->
  wpAny C.M A (isTrue e env (eval e env)) (fun r s' => r = b /\ Kp s s') dq s
theorem dS.flat {K : KM} {s s' : Shared} {d : D} {v : Value} (hi : eV K s.heap) (hr : bJ K d v) (hk : Kp s s') : dS K s d v s' :=
 ⟨⟨K, bw.refl _ _, fun a o e => hk.get _ _ (hi a o e), hr⟩, hk⟩
noncomputable def bH (K : KM) (a : Addr) (o : Obj) : KM := fun b => if b = a then some o else K b
theorem ed {K : KM} {a : Addr} {o : Obj} (hn : K a = none) : kJ K (bH K a o) := fun b o' e => by
 unfold bH
 by_cases h : b = a
 . subst h; rw [hn] at e; exact nS e
 . rw [if_neg h]; exact e
theorem iV {K : KM} {a : Addr} {o : Obj} {h : Heap} (hi : eV K h) (ha : h.get? a = none) : bw K h (bH K a o) := by
 have hn : K a = none := by
  cases q : K a with
  | none => rfl
  | some o' => rw [hi a o' q] at ha; exact sN ha
 refine ⟨ed hn, fun b o' e => ?_⟩
 unfold bH at e
 by_cases h : b = a
 . subst h; exact .inr ha
 . rw [if_neg h] at e; exact .inl e
theorem bt (h : Heap) : h.get? h.objs.size = none := by
 cases e : h.get? h.objs.size with
 | none => rfl
 | some o => exact absurd (Heap.lt_size e) (Nat.lt_irrefl _)
theorem dS.new {K : KM} {s s' : Shared} {d : D} {a : Addr} {o : Obj} (hi : eV K s.heap) (ha : s.heap.get? a = none) (ho : s'.heap.get? a = some o) (hk : Kp s s') (hr : bJ (bH K a o) d (.ref a)) : dS K s d (.ref a) s' :=
 ⟨⟨bH K a o, iV hi ha, fun b o' e => by
   unfold bH at e
   by_cases h : b = a
   . subst h; rw [if_pos rfl] at e; (replace e := siE e; subst e); exact ho
   . rw [if_neg h] at e; exact hk.get _ _ (hi b o' e), hr⟩, hk⟩
theorem dS.after {K K' : KM} {s s₁ an : Shared} {d : D} {v : Value} (g : bw K s.heap K') (k : Kp s s₁) (x : dS K' s₁ d v an) : dS K s d v an := by
 obtain ⟨⟨cI, bV, bW, ek⟩, b7⟩ := x
 exact ⟨⟨cI, g.trans k.get bV, bW, ek⟩, k.trans b7⟩
section
variable {C : dd} {n : Nat} {sc : Scope}
theorem ab.int (i : Int) (k : Nat) (pos : Pos) : ab C n sc (.Constant (.int i) k pos) (fun _ => some (.int i)) := by
 constructor
 intro A env K ρ s d _ _ F hf
 (replace hf := siE hf; subst hf)
 exact wpAny_Constant_int (.flat F.inH (by simp only [bJ]; exact ⟨_, rfl⟩) (Kp.tok _ _))
theorem ab.str (x : Str) (k : Nat) (pos : Pos) : ab C n sc (.Constant (.str x) k pos) (fun _ => some (.str x.cps.toList)) := by
 constructor
 intro A env K ρ s d _ _ F hf
 (replace hf := siE hf; subst hf)
 exact wpAny_Constant_str (.flat F.inH (by simp only [bJ]; exact ⟨_, rfl⟩) (Kp.tok _ _))
theorem ab.bool (b : Bool) (k : Nat) (pos : Pos) : ab C n sc (.Constant (.bool b) k pos) (fun _ => some (.bool b)) := by
 constructor
 intro A env K ρ s d _ _ F hf
 (replace hf := siE hf; subst hf)
 exact wpAny_Constant_bool (.flat F.inH (by simp only [bJ]) (Kp.refl _))
theorem ab.none_ (k : Nat) (pos : Pos) : ab C n sc (.Constant .none k pos) (fun _ => some .none) := by
 constructor
 intro A env K ρ s d _ _ F hf
 (replace hf := siE hf; subst hf)
 exact wpAny_Constant_none (.flat F.inH (by simp only [bJ]) (Kp.refl _))
theorem ci {env : Env} {s : Shared} {x : Str} {v : Value} {A : Around} {E : Value -> Shared -> Prop} {Q : Value -> Shared -> Prop} (hk : env.scope.kind = .function) (y : dQ env s.heap x v) (h : Q v s)
 (hn : (x == ("__classdict__" : Str)) = false) : wpAny C.M A (loadName env x) Q E s := by
 cases y with
 | loc m a b c => exact wpAny_loadName_local hk a b c h
 | cell c a b d => exact wpAny_loadName_cell hk a b d h
 | free c a b d => exact wpAny_loadName_free hk a b d h hn
theorem ab.name (x : Str) (pos : Pos) (hd : (x == ("__debug__" : Str)) = false) (hc : (x == ("__classdict__" : Str)) = false) : ab C n sc (.Name x pos) (fun ρ => ρ x) := by
 constructor
 intro A env K ρ s d _ _ F hf
 refine ax (F.vars x d hf) fun v a b => ?_
 exact wpAny_Name (ci F.fn a (.flat F.inH b (Kp.refl _)) hc) hd
theorem nA {x : Str} {pos : Pos} (hd : autoParam ((x == ("__debug__" : Str)) = false) aK) (hc : autoParam ((x == ("__classdict__" : Str)) = false) aK) : ab C n sc (.Name x pos) (fun ρ => ρ x) := ab.name x pos hd hc
theorem iA {i : Int} {k : Nat} {pos : Pos} : ab C n sc (.Constant (.int i) k pos) (fun _ => some (.int i)) := ab.int i k pos
theorem sA {x : Str} {k : Nat} {pos : Pos} : ab C n sc (.Constant (.str x) k pos) (fun _ => some (.str x.cps.toList)) := ab.str x k pos
theorem bA {b : Bool} {k : Nat} {pos : Pos} : ab C n sc (.Constant (.bool b) k pos) (fun _ => some (.bool b)) := ab.bool b k pos
end
end
section
open PySem PySem.Calls PyProof.Rows PySem.W
variable {A : Around} {C : dd} {E : Value -> Shared -> Prop} {I a aL aU dA it : Addr} {K K' K'' P P' : KM} {Ls fp wr : List Addr} {N c ep goal i j k k' last m n n₀ : Nat} {O O' O'' xs : List Str} {Q : Fl -> af -> Prop} {a2 e e' e3 i1 : Expr} {apos bp cp cpos lpos p p1 p2 pi pn pos pos' pt px py q q' q'' qp spos tp wp : Pos} {b : Str -> Bool} {base h h' : Heap} {body orelse ss : List Stmt} {bs : List Int} {codes l row σ : List Nat} {dT dr : D} {ds out : List D} {env : Env} {es ifs ifs1 rest ts : List Expr} {f f' f3 fo fr kE kF : af -> Option D} {f1 fi fl : af -> Option (List D)} {fd : FuncData} {ft ft1 test : af -> Option Bool} {g g' gb : af -> Option (Fl × af)} {hs : Int} {its its0 : List It} {ls rows : List (List Nat)} {mb mg : Str -> Option Value} {o o' : Obj} {ow : List (Str × Addr)} {r : Option (Fl × af)} {s s' s'' s₁ : Shared} {sc scope : Scope} {sub : List DictEntry} {u v : Value} {w : World} {x y z : Str} {ρ ρ' aV : af}
section
open PySem PySem.Calls PyProof.Rows
def dj (C : dd) (op : Value -> Value -> Sem Value) (g : D -> D -> Option D) : Prop :=
 ∀ (A : Around) (K : KM) (s : Shared) (u v : Value) (a b d : D), dg 0 A -> eV K s.heap -> bJ K a u -> bJ K b v -> g a b = some d -> wpAny C.M A (op u v) (dS K s d) dq s
theorem two {α : Type} {l r : Expr} (cR : ab C n sc l kE) (ca : ab C n sc r kF) {a b : D} (hA : dg n A) (he : env.scope = sc)
 (F : nq C env K ρ s.heap) (am : kE ρ = some a) (ar : kF ρ = some b) {k : Value -> Value -> Sem α} {Q : α -> Shared -> Prop}
 (h : ∀ u v cI an, bw K s.heap cI -> eV cI an.heap -> Kp s an -> bJ cI a u -> bJ cI b v -> nq C env cI ρ an.heap -> wpAny C.M A (k u v) Q dq an) :
 wpAny C.M A (eval l env) (fun u s₁ => wpAny C.M A (eval r env) (fun v an => wpAny C.M A (k u v) Q dq an) dq s₁) dq s := by
 refine wpAny_mono (cR.run A env K ρ s a hA he F am) (fun u s₁ fc => ?_) fun _ _ x => x
 obtain ⟨⟨ap, av, aA, aB⟩, k₁⟩ := fc
 have aq := F.keeps k₁.get av.1 aA
 refine wpAny_mono (ca.run A env ap ρ s₁ b hA he aq ar) (fun v an ii => ?_) fun _ _ x => x
 obtain ⟨⟨cI, bV, bW, ek⟩, b7⟩ := ii
 exact h u v cI an (av.trans k₁.get bV) bW (k₁.trans b7) (aB.mono bV.1) ek (aq.keeps b7.get bV.1 bW)
theorem ab.bin {l r : Expr} {op : Operator} {g : D -> D -> Option D} (cR : ab C n sc l kE) (ca : ab C n sc r kF) (hg : dj C (binaryOp op) g) :
 ab C n sc (.BinOp l op r pos) (fun ρ => b2 g (kE ρ) (kF ρ)) := by
 constructor
 intro A env K ρ s d hA he F hf
 refine bk (j4 hf) fun a b am ar hf => ?_
 refine wpAny_BinOp (two cR ca hA he F am ar fun u v cI an bV bW b7 ru rv bE => ?_)
 exact wpAny_mono (hg A cI an u v a b d (hA.le (Nat.zero_le _)) bW ru rv hf) (fun r cX p => .after bV b7 p) fun _ _ x => x
noncomputable def kt (g : Int -> Int -> Option Int) : D -> D -> Option D
 | .int a, .int b => (g a b).map .int
 | _, _ => none
theorem lX {g : Int -> Int -> Option Int} {x y d : D} (h : kt g x y = some d) : ∃ a b c, x = .int a /\ y = .int b /\ g a b = some c /\ d = .int c := by
 cases x <;> cases y <;> simp [kt] at h
 (refine ax h fun c h1 h2 => ?_; clear h)
 exact (qm _ _ c rfl rfl h1 h2.symm)
theorem aZ {i : Int} (h : bJ K (.int i) v) : ∃ t, v = .int i t := by simpa only [bJ] using h
theorem cJ (h : bJ K (.str l) v) : ∃ t, v = .str (S l) t := by simpa only [bJ] using h
theorem dW {b : Bool} (h : bJ K (.bool b) v) : v = .bool b := by simpa only [bJ] using h
theorem iX (h : bJ K .none v) : v = .none := by simpa only [bJ] using h
theorem bu (h : bJ K (.list ds) v) : ∃ a vs n, v = .ref a /\ K a = some (aT vs n) /\ ak K ds vs := by simpa only [bJ] using h
theorem gZ (h : bJ K (.tup ds) v) : ∃ a vs n, v = .ref a /\ K a = some (vE vs n) /\ ak K ds vs := by simpa only [bJ] using h
theorem d6 {i : Int} {t : Tok} : bJ K (.int i) (.int i t) := by simp only [bJ]; exact ⟨t, rfl⟩
theorem iu {t : Tok} : bJ K (.str l) (.str (S l) t) := by simp only [bJ]; exact ⟨t, rfl⟩
theorem iN {b : Bool} : bJ K (.bool b) (.bool b) := by simp only [bJ]
theorem tP : bJ K .none .none := by simp only [bJ]
theorem lW {i : Int} {t tk : Tok} (hi : eV K s.heap) : dS K s (.int i) (.int i t) { s with toks := tk } := .flat hi d6 (Kp.tok _ _)
theorem dj.ofInt {op : Operator} {g : Int -> Int -> Option Int} (h : ∀ (A : Around) (s : Shared) (a b c : Int) (t u : Tok) (Q : Value -> Shared -> Prop), dg 0 A -> g a b = some c -> (∀ tk tk', Q (.int c tk) { s with toks := tk' }) ->
 wpAny C.M A (binaryOp op (.int a t) (.int b u)) Q dq s) : dj C (binaryOp op) (kt g) := by
 intro A K s u v x y d hA hi hu hv hg
 (refine fh (lX hg) fun a b c q0 q1 e q2 => ?_; subst q0 q1 q2)
 (refine Ex (aZ hu) fun t q0 => ?_; subst q0)
 (refine Ex (aZ hv) fun t' q0 => ?_; subst q0)
 exact h A s a b c t t' _ hA e fun _ _ => lW hi
noncomputable def GS (a b : Int) : Option Int := some (a - b)
noncomputable def GQ (a b : Int) : Option Int := if b ≠ 0 /\ b.natAbs < 1073741824 then some (a.fdiv b) else none
noncomputable def zX (a b : Int) : Option Int := if b ≠ 0 then some (a.fmod b) else none
noncomputable def zU (a b : Int) : Option Int := some (Builtin.bitAnd a b)
noncomputable def PP (a b : Int) : Option Int := some (Builtin.bitOr a b)
noncomputable def GT (a b : Int) : Option Int := some (Builtin.bitXor a b)
noncomputable def qQ (a b : Int) : Option Int := if 0 ≤ b /\ b ≤ 1000000 /\ a.natAbs < 2 ^ 64 then some (a * 2 ^ b.toNat) else none
noncomputable def zY (a b : Int) : Option Int := if 0 ≤ b then some (a.fdiv (2 ^ b.toNat)) else none
noncomputable def GR (a b : Int) : Option Int := if 0 ≤ b /\ b ≤ 1000 /\ a.natAbs < 2 ^ 64 then some (a ^ b.toNat) else none
theorem fE : dj C (binaryOp .Sub) (kt GS) := .ofInt fun A s a b c t u Q _ e h => by
 cases e; exact sub_int (h _ _)
theorem im : dj C (binaryOp .FloorDiv) (kt GQ) := .ofInt fun A s a b c t u Q _ e h => by
 unfold GQ at e
 split at e
 . rename_i hb; (replace e := siE e; subst e)
   exact floordiv_int hb.1 (h _ _) (.inl (PyProof.noPylong_small hb.2))
 . exact nS e
theorem bX : dj C (binaryOp .Mod) (kt zX) := .ofInt fun A s a b c t u Q _ e h => by
 unfold zX at e
 split at e
 . rename_i hb; (replace e := siE e; subst e)
   exact mod_int' hb (h _ _)
 . exact nS e
theorem dZ : dj C (binaryOp .BitAnd) (kt zU) := .ofInt fun A s a b c t u Q _ e h => by
 cases e; exact and_int (h _ _)
theorem uM : dj C (binaryOp .BitOr) (kt PP) := .ofInt fun A s a b c t u Q _ e h => by
 cases e; exact or_int (h _ _)
theorem qz : dj C (binaryOp .LShift) (kt qQ) := .ofInt fun A s a b c t u Q _ e h => by
 unfold qQ at e
 split at e
 . rename_i hb; (replace e := siE e; subst e)
   exact lshift_int_small hb.1 hb.2.1 hb.2.2 (h _ _)
 . exact nS e
theorem j5 : dj C (binaryOp .RShift) (kt zY) := .ofInt fun A s a b c t u Q _ e h => by
 unfold zY at e
 split at e
 . rename_i hb; (replace e := siE e; subst e)
   exact rshift_int hb (h _ _)
 . exact nS e
theorem vQ : dj C (binaryOp .Pow) (kt GR) := .ofInt fun A s a b c t u Q _ e h => by
 unfold GR at e
 split at e
 . rename_i hb; (replace e := siE e; subst e)
   exact pow_int_small hb.1 (by lia) hb.2.2 (h _ _)
 . exact nS e
noncomputable def eW : D -> D -> Option D
 | .int a, .int b => some (.int (a + b))
 | .str x, .str y => if x.length + y.length ≤ 16777216 then some (.str (x ++ y)) else none
 | .list x, .list y => if x.length + y.length ≤ 16777216 then some (.list (x ++ y)) else none
 | _, _ => none
theorem GA {a b : Int} : eW (.int a) (.int b) = some (.int (a + b)) := rfl
theorem GC {x y : List Nat} : eW (.str x) (.str y) = if x.length + y.length ≤ 16777216 then some (.str (x ++ y)) else none := rfl
theorem GB {x y : List D} : eW (.list x) (.list y) = if x.length + y.length ≤ 16777216 then some (.list (x ++ y)) else none := rfl
theorem cn (hi : eV K h) {vs : List Value} (e : K a = some (aT vs k)) : h.IsList a vs.toArray := (kH _ (hi _ _ e) rfl k rfl)
theorem ll (hi : eV K h) {vs : List Value} (e : K a = some (vE vs k)) : h.IsTuple a vs.toArray := (kH _ (hi _ _ e) rfl k rfl)
theorem ny (x y : List Nat) : S x ++ S y = S (x ++ y) := by
 show Str.append _ _ = _
 simp [Str.append]
theorem dH {vs : List Value} {tk : Nat} (hi : eV K s.heap) (hr : ak K ds vs) :
 dS K s (.list ds) (.ref s.heap.objs.size) { s with heap := s.heap.push (aT vs 0), toks := tk } := by
 refine .new (o := aT vs 0) hi (bt _) (Heap.get?_push_size _ rfl) (.of fun b o e => Heap.get?_push_of_some _ e) ?_
 have hn : K s.heap.objs.size = none := by
  cases q : K s.heap.objs.size with
  | none => rfl
  | some o => have := hi _ _ q; rw [bt] at this; exact nS this
 simp only [bJ]
 exact (fD _ vs 0 rfl (by simp [bH]) (hr.mono (ed hn)))
theorem tO {vs : List Value} {tk : Nat} (hi : eV K s.heap) (hr : ak K ds vs) :
 dS K s (.tup ds) (.ref s.heap.objs.size) { s with heap := s.heap.push (vE vs 0), toks := tk } := by
 refine .new (o := vE vs 0) hi (bt _) (Heap.get?_push_size _ rfl) (.of fun b o e => Heap.get?_push_of_some _ e) ?_
 have hn : K s.heap.objs.size = none := by
  cases q : K s.heap.objs.size with
  | none => rfl
  | some o => have := hi _ _ q; rw [bt] at this; exact nS this
 simp only [bJ]
 exact (fD _ vs 0 rfl (by simp [bH]) (hr.mono (ed hn)))
theorem aO : sizeLine = 16777216 := by rw [sizeLine_eq]
theorem az : dj C (binaryOp .Add) eW := by
 intro A K s u v x y d hA hi hu hv hg
 cases x <;> cases y <;> (first | exact dK hg | (delta eW at hg; dsimp only at hg))
 . (replace hg := siE hg; subst hg)
   (refine Ex (aZ hu) fun t q0 => ?_; subst q0)
   (refine Ex (aZ hv) fun t' q0 => ?_; subst q0)
   exact add_int (lW hi)
 . rename_i l m
   split at hg
   . rename_i hsz; (replace hg := siE hg; subst hg)
     (refine Ex (cJ hu) fun t q0 => ?_; subst q0)
     (refine Ex (cJ hv) fun t' q0 => ?_; subst q0)
     refine add_str (fun t' tk => ?_) (by simp only [Str.length, List.size_toArray]; rw [aO]; exact hsz)
     rw [ny]
     exact .flat hi iu (Kp.tok _ _)
   . exact nS hg
 . rename_i l m
   split at hg
   . rename_i hsz; (replace hg := siE hg; subst hg)
     (refine bv (bu hu) fun a vs k q0 e r => ?_; subst q0)
     (refine bv (bu hv) fun a' vs' k' q0 e' r' => ?_; subst q0)
     have ho := hi _ _ e
     have ho' := hi _ _ e'
     refine concat_meets (bC _ ho rfl) (bC _ ho' rfl) noFill_list_add seq_list_add PySem.F.slot_list_add PySem.F.entry_list_add (PySem.F.args_list_add_2 _ _)
      (list_addW a a' vs.toArray vs'.toArray k k' none none #[] #[] (by simp only [List.size_toArray]; rw [r.length, r'.length, aO]; exact hsz)) (h9 ho ho' ?_)
     have e2 : vs.toArray ++ vs'.toArray = (vs ++ vs').toArray := by simp
     rw [e2]
     exact dH (tk := s.toks) hi (r.append r')
   . exact nS hg
noncomputable def fI {α : Type} (n : Nat) (l : List α) : List α := (List.replicate n l).flatten
def BO : D -> D -> Option D
 | .int a, .int b => if b.natAbs < 2 ^ 63 then some (.int (a * b)) else none
 | .str x, .int b => if 0 ≤ b /\ b ≤ 1000 /\ x.length ≤ 1000 then some (.str (fI b.toNat x)) else none
 | .list x, .int b => if 0 ≤ b /\ b ≤ 1000 /\ x.length ≤ 1000 then some (.list (fI b.toNat x)) else none
 | _, _ => none
theorem xl (n : Nat) (items : List Value) : (List.foldl (fun x1 x2 => x1 ++ x2) #[] (List.replicate n items.toArray)) = (fI n items).toArray := by
 have h : ∀ (n : Nat) (acc : List Value), List.foldl (fun x1 x2 => x1 ++ x2) acc.toArray (List.replicate n items.toArray) = (acc ++ fI n items).toArray := by
  intro n
  induction n with
  | zero => intro acc; simp [fI]
  | succ n ih =>
   intro acc
   rw [List.replicate_succ, List.foldl_cons]
   have : acc.toArray ++ items.toArray = (acc ++ items).toArray := by simp
   rw [this, ih]
   simp [fI, List.replicate_succ]
 simpa using h n []
theorem ak.flat {K : KM} {ds : List D} {vs : List Value} (r : ak K ds vs) : ∀ n, ak K (fI n ds) (fI n vs)
 | 0 => by simp [fI, ak]
 | n + 1 => by
  have := r.append (ak.flat r n)
  simpa [fI, List.replicate_succ] using this
theorem Mx (l : List Nat) (b : Int) (h0 : 0 ≤ b) : Txt.mul (S l) b = S (fI b.toNat l) := by
 unfold Txt.mul
 have h : ∀ (n : Nat) (acc : List Nat), List.foldl (fun (x1 x2 : Array Nat) => x1 ++ x2) acc.toArray (List.replicate n l.toArray) = (acc ++ fI n l).toArray := by
  intro n
  induction n with
  | zero => intro acc; simp [fI]
  | succ n ih =>
   intro acc
   rw [List.replicate_succ, List.foldl_cons]
   have : acc.toArray ++ l.toArray = (acc ++ l).toArray := by simp
   rw [this, ih]
   simp [fI, List.replicate_succ]
 split
 . have : b.toNat = 0 := by lia
   rw [this]; rfl
 . split
   . rename_i h1 h2
     simp only [Bool.or_eq_true, beq_iff_eq] at h2
     rcases h2 with h2 | h2
     . subst h2; simp [fI]
     . have : l = [] := by simpa [Str.length] using h2
       subst this; simp [fI]
   . have := h b.toNat []
     simp only [List.nil_append] at this
     show Str.mk (List.foldl _ _ _) = _
     rw [this]
theorem ec : dj C (binaryOp .Mult) BO := by
 intro A K s u v x y d hA hi hu hv hg
 cases x <;> cases y <;> (first | exact dK hg | (delta BO at hg; dsimp only at hg))
 . split at hg
   . rename_i hb; (replace hg := siE hg; subst hg)
     (refine Ex (aZ hu) fun t q0 => ?_; subst q0)
     (refine Ex (aZ hv) fun t' q0 => ?_; subst q0)
     exact mul_int (lW hi) (IntMulOk.of_right (PyProof.Rows.intBits_le (Nat.lt_trans hb (by decide))))
   . exact nS hg
 . split at hg
   . rename_i hb; (replace hg := siE hg; subst hg)
     (refine Ex (cJ hu) fun t q0 => ?_; subst q0)
     (refine Ex (aZ hv) fun t' q0 => ?_; subst q0)
     refine SB.mul (mulOk_of 1000 1000 hb.2.2 (Int.le_def.mpr hb.right.left) (by with_reducible exact Om.jG ‹_› (by decide)) (by decide) (by decide)) fun t k => ?_
     rw [Mx _ _ hb.1]
     exact .flat hi iu (Kp.tok _ _)
   . exact nS hg
 . split at hg
   . rename_i l x hb; (replace hg := siE hg; subst hg)
     (refine bv (bu hu) fun a vs k q0 e r => ?_; subst q0)
     (refine Ex (aZ hv) fun t' q0 => ?_; subst q0)
     have ho := hi _ _ e
     have df := r.length
     have hxn : x.toNat ≤ 1000 := by exact Int.toNat_le.mpr hb.right.left
     have hm : vs.length * x.toNat ≤ 1000 * 1000 := Nat.mul_le_mul (Om.a1 df hb.2.2 rfl) hxn
     refine wpAny_binaryOp_repeat_ref (T := "list") (U := "int") (by decide) (bC _ ho rfl) (fun s' => typeIs_int s' x _) noFill_list_mul F.fills_int_mul F.slot_int_rmul repeat_list F.slot_int_index.lookup
      (call_meets F.slot_int_rmul (typeIs_int s x _) F.entry_int_rmul (F.args_int_rmul_2 _ _) (int___rmul___int_list x _ a vs.toArray k)
       (oE ho rfl (bC _ ho rfl) (call_meets F.slot_list_mul (bC _ ho rfl) F.entry_list_mul (F.args_list_mul_2 _ _)
        (AutoListH.list___mul___list_int_3 a vs.toArray k x _ (by simp [Builtin.List.listFitsIndex]; lia) (by simp only [List.size_toArray]; lia) (by simp only [List.size_toArray, Builtin.List.listTooLong, sizeLine]; simp; lia))
        ⟨ho, ?_⟩)))
     have e2 : (List.foldl (fun x1 x2 => x1 ++ x2) #[] (List.replicate (if vs.toArray.isEmpty = true then 0 else x.toNat) vs.toArray)) = (fI x.toNat vs).toArray := by
      rw [xl]
      cases vs with
      | nil => simp [fI]
      | cons v vs => simp
     rw [e2]
     exact dH (tk := s.toks) hi (r.flat _)
   . exact nS hg
mutual
noncomputable def dw : D -> PyData
 | .none => .none
 | .bool b => .bool b
 | .int i => .int i
 | .str l => .str (S l)
 | .list xs => .list (g9 xs)
 | .tup xs => .tuple (g9 xs)
 | .val _ => .none
 | .opq _ => .none
noncomputable def g9 : List D -> List PyData
 | [] => []
 | d :: ds => dw d :: g9 ds
end
mutual
noncomputable def ig : D -> Bool
 | .list xs => mV xs
 | .tup xs => mV xs
 | .val _ => false
 | .opq _ => false
 | _ => true
noncomputable def mV : List D -> Bool
 | [] => true
 | d :: ds => ig d && mV ds
end
theorem pY : ∀ ds : List D, g9 ds = ds.map dw
 | [] => rfl
 | d :: ds => by rw [g9, pY ds]; rfl
def ro (d : D) : Bool := ig d && SeqAt.shaped (dw d)
theorem jC {d : D} (h : ro d = true) : ig d = true := by unfold ro at h; simp only [Bool.and_eq_true] at h; exact h.1
theorem gL {d : D} (h : ro d = true) : SeqAt.shaped (dw d) = true := by unfold ro at h; simp only [Bool.and_eq_true] at h; exact h.2
def uF (a b : D) : Bool := PyData.eqv (dw a) (dw b)
mutual
theorem bJ.reads {K : KM} {h : Heap} (hi : eV K h) : ∀ {d : D} {v : Value}, bJ K d v -> ig d = true -> ∃ as, Reads h v (dw d) as
 | .none, _, x, _ => by rw [iX x]; exact ⟨_, .none⟩
 | .bool _, _, x, _ => by rw [dW x]; exact ⟨_, .bool _⟩
 | .int _, _, x, _ => by (refine Ex (aZ x) fun t q0 => ?_; subst q0); exact ⟨_, .int _ _⟩
 | .str _, _, x, _ => by (refine Ex (cJ x) fun t q0 => ?_; subst q0); exact ⟨_, .str _ _⟩
 | .list _, _, x, hp => by
  (refine bv (bu x) fun a vs n q0 e r => ?_; subst q0)
  refine Ex (ak.reads hi r (by simpa only [ig] using hp)) fun as q => ?_
  exact ⟨_, .list (hi _ _ e) rfl rfl (by simpa using q)⟩
 | .tup _, _, x, hp => by
  (refine bv (gZ x) fun a vs n q0 e r => ?_; subst q0)
  refine Ex (ak.reads hi r (by simpa only [ig] using hp)) fun as q => ?_
  exact ⟨_, .tuple (hi _ _ e) rfl rfl (by simpa using q)⟩
 | .val _, _, _, hp => by simp [ig] at hp
 | .opq _, _, _, hp => by simp [ig] at hp
theorem ak.reads {K : KM} {h : Heap} (hi : eV K h) : ∀ {ds : List D} {vs : List Value}, ak K ds vs -> mV ds = true -> ∃ as, ReadsAll h vs (g9 ds) as
 | [], _, x, _ => by simp only [ak] at x; subst x; exact ⟨_, .nil⟩
 | _ :: _, _, x, hp => by
  simp only [mV, Bool.and_eq_true] at hp
  simp only [ak] at x; (refine bk x fun v r q0 p q => ?_; clear x; subst q0)
  refine Ex (bJ.reads hi p hp.1) fun as p => ?_
  refine Ex (ak.reads hi q hp.2) fun bs q => ?_
  exact ⟨_, .cons p q⟩
end
def oN (a b : D) : Option D := if ro a = true /\ ro b = true then some (.bool (uF a b)) else none
def Dj (a b : D) : Option D := if ro a = true /\ ro b = true then some (.bool (!uF a b)) else none
noncomputable def vc (g : Int -> Int -> Bool) : D -> D -> Option D
 | .int a, .int b => some (.bool (g a b))
 | _, _ => none
def dLt := vc fun a b => decide (a < b)
def dLe := vc fun a b => decide (a ≤ b)
def dGt := vc fun a b => decide (b < a)
def dGe := vc fun a b => decide (b ≤ a)
def KR (x c : D) : Option D := match c with
 | .list xs => if ro x = true /\ ro (.list xs) = true then some (.bool (xs.any fun y => uF y x)) else none
 | .tup xs => if ro x = true /\ ro (.tup xs) = true then some (.bool (xs.any fun y => uF y x)) else none
 | _ => none
def qI (x c : D) : Option D := match c with
 | .list xs => if ro x = true /\ ro (.list xs) = true then some (.bool (!xs.any fun y => uF y x)) else none
 | .tup xs => if ro x = true /\ ro (.tup xs) = true then some (.bool (!xs.any fun y => uF y x)) else none
 | _ => none
noncomputable def KS : D -> D -> Option D
 | .str [c], .str l => if l.length ≤ 1000 then some (.bool (l.contains c)) else none
 | _, _ => none
theorem de {b : Bool} (hi : eV K s.heap) (hk : Kp s s') : dS K s (.bool b) (.bool b) s' := .flat hi iN hk
theorem bK : dj C (compareOp .Eq) oN := by
 intro A K s u v x y d hA hi hu hv hg
 unfold oN at hg
 split at hg
 . rename_i hs; (replace hg := siE hg; subst hg)
   refine Ex (bJ.reads hi hu (jC hs.1)) fun as ra => ?_
   refine Ex (bJ.reads hi hv (jC hs.2)) fun bs rb => ?_
   exact eq_dataH ra rb (gL hs.1) (gL hs.2) (by have := hA.3; ((with_reducible refine Om.lm ‹_› ?_); simp +arith only)) (de hi (Kp.refl _))
 . exact nS hg
theorem j8 : dj C (compareOp .NotEq) Dj := by
 intro A K s u v x y d hA hi hu hv hg
 unfold Dj at hg
 split at hg
 . rename_i hs; (replace hg := siE hg; subst hg)
   refine Ex (bJ.reads hi hu (jC hs.1)) fun as ra => ?_
   refine Ex (bJ.reads hi hv (jC hs.2)) fun bs rb => ?_
   exact ne_dataH ra rb (gL hs.1) (gL hs.2) (by have := hA.3; ((with_reducible refine Om.lm ‹_› ?_); simp +arith only)) (de hi (Kp.refl _))
 . exact nS hg
theorem dj.ofCmp {op : CmpOp} {g : Int -> Int -> Bool} (h : ∀ (A : Around) (s : Shared) (a b : Int) (t u : Tok) (Q : Value -> Shared -> Prop), Q (.bool (g a b)) s ->
 wpAny C.M A (compareOp op (.int a t) (.int b u)) Q dq s) : dj C (compareOp op) (vc g) := by
 intro A K s u v x y d hA hi hu hv hg
 cases x <;> cases y <;> (first | exact dK hg | simp only [vc] at hg)
 (replace hg := siE hg; subst hg)
 (refine Ex (aZ hu) fun t q0 => ?_; subst q0)
 (refine Ex (aZ hv) fun t' q0 => ?_; subst q0)
 exact h A s _ _ t t' _ (de hi (Kp.refl _))
theorem cu : dj C (compareOp .Lt) dLt := .ofCmp fun _ _ _ _ _ _ _ h => lt_int h
theorem j7 : dj C (compareOp .LtE) dLe := .ofCmp fun _ _ _ _ _ _ _ h => le_int h
theorem qH : dj C (compareOp .Gt) dGt := .ofCmp fun _ _ _ _ _ _ _ h => gt_int h
theorem zc : dj C (compareOp .GtE) dGe := .ofCmp fun _ _ _ _ _ _ _ h => ge_int h
theorem jp {xs : List PyData} (h : SeqAt.shaped (.list xs) = true \/ SeqAt.shaped (.tuple xs) = true) : PyData.canLayAll0 xs = true := by
 rcases h with h | h <;> (have := SeqAt.canLay_of_shaped h; simpa [PyData.canLay0] using this)
theorem lH (xs : List D) (x : D) : ((g9 xs).any fun y => PyData.eqv y (dw x)) = xs.any fun y => uF y x := by
 rw [pY, List.any_map]; rfl
theorem Gx : dj C (compareOp .In) KR := by
 intro A K s u v x y d hA hi hu hv hg
 have Mh := hA.3
 cases y <;> (first | exact dK hg | (delta KR at hg; dsimp only at hg))
 . split at hg
   . rename_i hs; (replace hg := siE hg; subst hg)
     refine Ex (bJ.reads hi hu (jC hs.1)) fun as ra => ?_
     refine Ex (bJ.reads hi hv (jC hs.2)) fun bs rb => ?_
     rw [dw] at rb
     have h2 := gL hs.2; rw [dw] at h2
     exact SeqAt.in_list_reads rb ra (jp (.inl h2)) (SeqAt.canLay_of_shaped (gL hs.1)) (room_in_shaped (gL hs.1) (by ((with_reducible refine Om.lm ‹_› ?_); simp +arith only))) (by rw [lH]; exact de hi (Kp.refl _))
   . exact nS hg
 . split at hg
   . rename_i hs; (replace hg := siE hg; subst hg)
     refine Ex (bJ.reads hi hu (jC hs.1)) fun as ra => ?_
     refine Ex (bJ.reads hi hv (jC hs.2)) fun bs rb => ?_
     rw [dw] at rb
     have h2 := gL hs.2; rw [dw] at h2
     exact SeqAt.in_tuple_reads rb ra (jp (.inr h2)) (SeqAt.canLay_of_shaped (gL hs.1)) (room_in_shaped (gL hs.1) (by ((with_reducible refine Om.lm ‹_› ?_); simp +arith only))) (by rw [lH]; exact de hi (Kp.refl _))
   . exact nS hg
theorem x7 : dj C (compareOp .NotIn) qI := by
 intro A K s u v x y d hA hi hu hv hg
 have Mh := hA.3
 cases y <;> (first | exact dK hg | simp only [qI] at hg)
 . split at hg
   . rename_i hs; (replace hg := siE hg; subst hg)
     refine Ex (bJ.reads hi hu (jC hs.1)) fun as ra => ?_
     refine Ex (bJ.reads hi hv (jC hs.2)) fun bs rb => ?_
     rw [dw] at rb
     have h2 := gL hs.2; rw [dw] at h2
     exact SeqAt.notIn_list_reads rb ra (jp (.inl h2)) (SeqAt.canLay_of_shaped (gL hs.1)) (room_in_shaped (gL hs.1) (by ((with_reducible refine Om.lm ‹_› ?_); simp +arith only))) (by rw [lH]; exact de hi (Kp.refl _))
   . exact nS hg
 . split at hg
   . rename_i hs; (replace hg := siE hg; subst hg)
     refine Ex (bJ.reads hi hu (jC hs.1)) fun as ra => ?_
     refine Ex (bJ.reads hi hv (jC hs.2)) fun bs rb => ?_
     rw [dw] at rb
     have h2 := gL hs.2; rw [dw] at h2
     exact SeqAt.notIn_tuple_reads rb ra (jp (.inr h2)) (SeqAt.canLay_of_shaped (gL hs.1)) (room_in_shaped (gL hs.1) (by ((with_reducible refine Om.lm ‹_› ?_); simp +arith only))) (by rw [lH]; exact de hi (Kp.refl _))
   . exact nS hg
noncomputable def eU : D -> Option Bool
 | .none => some false
 | .bool b => some b
 | .int i => some (i != 0)
 | .str l => if l.length < 16777216 then some (!l.isEmpty) else none
 | .list xs => if xs.length < 16777216 then some (!xs.isEmpty) else none
 | _ => none
theorem jx {b : Bool} : eU (.bool b) = some b := rfl
theorem jz {xs : List D} : eU (.list xs) = if xs.length < 16777216 then some (!xs.isEmpty) else none := rfl
theorem jA : eU (.str l) = if l.length < 16777216 then some (!l.isEmpty) else none := rfl
theorem jy {i : Int} : eU (.int i) = some (i != 0) := rfl
theorem oC {d : D} {b : Bool} (hi : eV K s.heap) (hv : bJ K d v) (h : eU d = some b) :
 wpAny C.M A (truthy v) (fun r s' => r = b /\ Kp s s') dq s := by
 cases d <;> (first | exact dK h | (delta eU at h; dsimp only at h))
 . (replace h := siE h; subst h); rw [iX hv]; exact truthy_none ⟨rfl, Kp.refl _⟩
 . (replace h := siE h; subst h); rw [dW hv]; exact wpAny_truthy_bool ⟨rfl, Kp.refl _⟩
 . (replace h := siE h; subst h); (refine Ex (aZ hv) fun t q0 => ?_; subst q0); exact PyProof.Rows.truthy_int ⟨rfl, Kp.refl _⟩
 . rename_i l
   split at h
   . rename_i hl
     (replace h := siE h; subst h)
     (refine Ex (cJ hv) fun t q0 => ?_; subst q0)
     refine PySem.P.truthy_str (by simp only [Str.length, List.size_toArray]; exact Om.b3' hl rfl) ⟨?_, Kp.tok _ _⟩
     cases l with
     | nil => rfl
     | cons a l => simp [Str.length]; exact bi_ine.mp rfl
   . exact nS h
 . rename_i xs
   split at h
   . rename_i hl
     (replace h := siE h; subst h)
     (refine bv (bu hv) fun a vs k q0 e r => ?_; subst q0)
     have df := r.length
     refine wpAny_truthy_list (cn hi e) (by simp only [List.size_toArray]; exact Om.b2' df hl rfl) ⟨?_, Kp.tok _ _⟩
     cases xs with
     | nil => simp only [ak] at r; subst r; rfl
     | cons x xs => simp only [ak] at r; (refine nk r fun v r q0 _ => ?_; subst q0); rfl
   . exact nS h
theorem bj.val (h : ab C n sc e f)
 (he : autoParam (∀ env whole, isTrue e env whole = (do let v <- whole; standAt e.pos; holding [v] (truthy v))) aR) : bj C n sc e (fun ρ => (f ρ).bind eU) := by
 constructor
 intro A env K ρ s b hA hs F hf
 refine ax (obE hf) fun d e1 e2 => ?_
 refine wpAny_isTrue_value (wpAny_mono (h.run A env K ρ s d hA hs F e1) (fun v s₁ p => ?_) fun _ _ x => x) (he _ _)
 obtain ⟨⟨ap, av, aA, aB⟩, k₁⟩ := p
 exact wpAny_mono (oC aA aB e2) (fun r an q => ⟨q.1, k₁.trans q.2⟩) fun _ _ x => x
theorem ab.cmp {l r : Expr} {op : CmpOp} {g : D -> D -> Option D} (cR : ab C n sc l kE) (ca : ab C n sc r kF) (hg : dj C (compareOp op) g)
 (hm : autoParam (behindInMarks op r = false) aW) :
 ab C n sc (.Compare l [op] [r] pos) (fun ρ => b2 g (kE ρ) (kF ρ)) := by
 constructor
 intro A env K ρ s d hA he F hf
 refine bk (j4 hf) fun a b am ar hf => ?_
 refine wpAny_Compare1 (two cR ca hA he F am ar fun u v cI an bV bW b7 ru rv bE => ?_) hm
 exact wpAny_mono (hg A cI an u v a b d (hA.le (Nat.zero_le _)) bW ru rv hf) (fun r cX p => .after bV b7 p) fun _ _ x => x
noncomputable def jE : D -> Option Bool
 | .bool b => some b
 | _ => none
theorem nB {d : D} {b : Bool} (h : jE d = some b) : d = .bool b := by
 cases d <;> simp [jE] at h; subst h; rfl
def cB (g : D -> D -> Option D) (a b : D) : Option Bool := (g a b).bind jE
theorem bj.cmp {l r : Expr} {op : CmpOp} {g : D -> D -> Option D} (cR : ab C n sc l kE) (ca : ab C n sc r kF) (hg : dj C (compareOp op) g)
 (hm : autoParam (behindInMarks op r = false) aW) :
 bj C n sc (.Compare l [op] [r] pos) (fun ρ => b2 (cB g) (kE ρ) (kF ρ)) := by
 constructor
 intro A env K ρ s d hA he F hf
 refine bk (j4 hf) fun a b am ar hf => ?_
 refine ax (obE hf) fun c bO hf => ?_
 obtain rfl := nB hf
 refine wpAny_isTrue_Compare1 (two cR ca hA he F am ar fun u v cI an bV bW b7 ru rv bE => ?_) hm
 refine wpAny_mono (hg A cI an u v a b _ (hA.le (Nat.zero_le _)) bW ru rv bO) (fun r cX p => ?_) fun _ _ x => x
 obtain ⟨⟨dX, _, jW, mz⟩, dR⟩ := p
 rw [dW mz]
 exact wpAny_truthy_bool ⟨rfl, b7.trans dR⟩
def zb (a b : Option D) (c : Unit -> Option D) (g g' : D -> D -> Option D) : Option D :=
 a.bind fun a => b.bind fun b => (g a b).bind jE |>.bind fun t => if t then (c ()).bind fun c => g' b c else some (.bool false)
theorem ab.cmp2 {l r r' : Expr} {op op' : CmpOp} {LF : af -> Option D} {g g' : D -> D -> Option D} (cR : ab C n sc l kE) (ca : ab C n sc r kF) (dU : ab C n sc r' LF)
 (hg : dj C (compareOp op) g) (hg' : dj C (compareOp op') g') (hm : autoParam (lastMarks [op, op'] [r, r'] = false) aW) :
 ab C n sc (.Compare l [op, op'] [r, r'] pos) (fun ρ => zb (kE ρ) (kF ρ) (fun _ => LF ρ) g g') := by
 constructor
 intro A env K ρ s d hA he F hf
 unfold zb at hf
 refine ax (obE hf) fun a am hf => ?_
 refine ax (obE hf) fun b ar hf => ?_
 refine ax (obE hf) fun t bO hf => ?_
 refine ax (obE bO) fun c bO gz => ?_
 obtain rfl := nB gz
 refine Compare_chain (wpAny_mono (cR.run A env K ρ s a hA he F am) (fun u s₁ fc => ?_) fun _ _ x => x) hm
 obtain ⟨⟨ap, av, aA, aB⟩, k₁⟩ := fc
 have aq := F.keeps k₁.get av.1 aA
 refine chain_link (wpAny_mono (ca.run A env ap ρ s₁ b hA he aq ar) (fun v an ii => ?_) fun _ _ x => x)
 obtain ⟨⟨cI, bV, bW, ek⟩, b7⟩ := ii
 have bE := aq.keeps b7.get bV.1 bW
 refine wpAny_mono (hg A cI an u v a b _ (hA.le (Nat.zero_le _)) bW (aB.mono bV.1) ek bO) (fun w cX CB => ?_) fun _ _ x => x
 obtain ⟨⟨dX, dN, jW, mz⟩, dR⟩ := CB
 have ce := bE.keeps dR.get dN.1 jW
 rw [dW mz]
 have we := (av.trans k₁.get bV).trans (k₁.trans b7).get dN
 have ir := (k₁.trans b7).trans dR
 refine wpAny_truthy_bool ?_
 cases t with
 | false =>
  simp only [Bool.false_eq_true, if_false] at hf ⊢
  (replace hf := siE hf; subst hf)
  exact ⟨⟨dX, we, jW, iN⟩, ir⟩
 | true =>
  simp only [if_true] at hf ⊢
  refine ax (obE hf) fun c uZ hf => ?_
  refine chain_last (wpAny_mono (dU.run A env dX ρ cX c hA he ce uZ) (fun x cU p₄ => ?_) fun _ _ x => x)
  obtain ⟨⟨n5, mr, vg, vy⟩, eY⟩ := p₄
  refine wpAny_mono (hg' A n5 cU v x b c d (hA.le (Nat.zero_le _)) vg ((ek.mono dN.1).mono mr.1) vy hf) (fun y B8 p₅ => ?_) fun _ _ x => x
  exact .after (we.trans ir.get mr) (ir.trans eY) p₅
structure cQ (C : dd) (n : Nat) (sc : Scope) (pos : Pos) (op : BoolOp) (es : List Expr) (f : af -> Option D) : Prop where
 run : ∀ (A : Around) (env : Env) (K : KM) (ρ : af) (s : Shared) (d : D), dg n A -> env.scope = sc -> nq C env K ρ s.heap -> f ρ = some d ->
  wpAny C.M A (boolOp pos op (evalEach es env)) (dS K s d) dq s
theorem cQ.one {op : BoolOp} (h : ab C n sc e f) : cQ C n sc pos op [e] f := ⟨h.run⟩
theorem cQ.and (h : ab C n sc e f) (h' : cQ C n sc pos .And (e' :: es) f') :
 cQ C n sc pos .And (e :: e' :: es) (fun ρ => (f ρ).bind fun a => (eU a).bind fun t => if t then f' ρ else some a) := by
 constructor
 intro A env K ρ s d hA he F hf
 refine ax (obE hf) fun a am hf => ?_
 refine ax (obE hf) fun t ar hf => ?_
 show wpAny C.M A (do
  let v <- eval e env
  standAt pos
  let t <- holding [v] (truthy v)
  match BoolOp.And, t with
  | .And, false | .Or, true => pure v
  | _, _ => boolOp pos .And (evalEach (e' :: es) env)) _ _ s
 refine wpAny_bind (wpAny_mono (h.run A env K ρ s a hA he F am) (fun v s₁ fc => ?_) fun _ _ x => x)
 obtain ⟨⟨ap, av, aA, aB⟩, k₁⟩ := fc
 refine wpAny_bind (wpAny_standAt (wpAny_bind (wpAny_holding (wpAny_mono (oC aA aB ar) (fun b an ii => ?_) fun _ _ x => x))))
 (refine Ea ii fun q0 b7 => ?_; clear ii; subst q0)
 have bW : eV ap an.heap := fun a o e => b7.get _ _ (aA a o e)
 cases b with
 | false =>
  simp only [Bool.false_eq_true, if_false] at hf
  (replace hf := siE hf; subst hf)
  exact wpAny_pure ⟨⟨ap, av, bW, aB⟩, k₁.trans b7⟩
 | true =>
  simp only [if_true] at hf
  exact wpAny_mono (h'.run A env ap ρ an d hA he ((F.keeps k₁.get av.1 aA).keeps b7.get (kJ.refl _) bW) hf) (fun r cX p => .after (av) (k₁.trans b7) p) fun _ _ x => x
theorem cQ.or (h : ab C n sc e f) (h' : cQ C n sc pos .Or (e' :: es) f') :
 cQ C n sc pos .Or (e :: e' :: es) (fun ρ => (f ρ).bind fun a => (eU a).bind fun t => if t then some a else f' ρ) := by
 constructor
 intro A env K ρ s d hA he F hf
 refine ax (obE hf) fun a am hf => ?_
 refine ax (obE hf) fun t ar hf => ?_
 show wpAny C.M A (do
  let v <- eval e env
  standAt pos
  let t <- holding [v] (truthy v)
  match BoolOp.Or, t with
  | .And, false | .Or, true => pure v
  | _, _ => boolOp pos .Or (evalEach (e' :: es) env)) _ _ s
 refine wpAny_bind (wpAny_mono (h.run A env K ρ s a hA he F am) (fun v s₁ fc => ?_) fun _ _ x => x)
 obtain ⟨⟨ap, av, aA, aB⟩, k₁⟩ := fc
 refine wpAny_bind (wpAny_standAt (wpAny_bind (wpAny_holding (wpAny_mono (oC aA aB ar) (fun b an ii => ?_) fun _ _ x => x))))
 (refine Ea ii fun q0 b7 => ?_; clear ii; subst q0)
 have bW : eV ap an.heap := fun a o e => b7.get _ _ (aA a o e)
 cases b with
 | true =>
  simp only [if_true] at hf
  (replace hf := siE hf; subst hf)
  exact wpAny_pure ⟨⟨ap, av, bW, aB⟩, k₁.trans b7⟩
 | false =>
  simp only [Bool.false_eq_true, if_false] at hf
  exact wpAny_mono (h'.run A env ap ρ an d hA he ((F.keeps k₁.get av.1 aA).keeps b7.get (kJ.refl _) bW) hf) (fun r cX p => .after (av) (k₁.trans b7) p) fun _ _ x => x
theorem ab.boolOp {op : BoolOp} (h : cQ C n sc pos op es f) : ab C n sc (.BoolOp op es pos) f := ⟨h.run⟩
structure dz (C : dd) (n : Nat) (sc : Scope) (op : BoolOp) (es : List Expr) (f : af -> Option Bool) : Prop where
 run : ∀ (A : Around) (env : Env) (K : KM) (ρ : af) (s : Shared) (b : Bool), dg n A -> env.scope = sc -> nq C env K ρ s.heap -> f ρ = some b ->
  wpAny C.M A (allTrue op es env) (fun r s' => r = b /\ Kp s s') dq s
theorem dz.andNil : dz C n sc .And [] (fun _ => some true) := by
 constructor
 intro A env K ρ s b hA he F hf; (replace hf := siE hf; subst hf); exact wpAny_allTrue_And_nil ⟨rfl, Kp.refl _⟩
theorem dz.orNil : dz C n sc .Or [] (fun _ => some false) := by
 constructor
 intro A env K ρ s b hA he F hf; (replace hf := siE hf; subst hf); exact wpAny_allTrue_Or_nil ⟨rfl, Kp.refl _⟩
theorem dz.and {f f' : af -> Option Bool} (h : bj C n sc e f) (h' : dz C n sc .And es f') : dz C n sc .And (e :: es) (fun ρ => (f ρ).bind fun t => if t then f' ρ else some false) := by
 constructor
 intro A env K ρ s b hA he F hf
 refine ax (obE hf) fun t am hf => ?_
 refine wpAny_allTrue_And_cons (wpAny_mono (h.run A env K ρ s t hA he F am) (fun r s₁ fc => ?_) fun _ _ x => x)
 (refine Ea fc fun q0 k₁ => ?_; clear fc; subst q0)
 cases r with
 | false => simp only [Bool.false_eq_true, if_false] at hf ⊢; (replace hf := siE hf; subst hf); exact ⟨rfl, k₁⟩
 | true =>
  simp only [if_true] at hf ⊢
  exact wpAny_mono (h'.run A env K ρ s₁ b hA he (F.keeps k₁.get (kJ.refl _) fun a o e => k₁.get _ _ (F.inH a o e)) hf) (fun r an p => ⟨p.1, k₁.trans p.2⟩) fun _ _ x => x
theorem dz.or {f f' : af -> Option Bool} (h : bj C n sc e f) (h' : dz C n sc .Or es f') : dz C n sc .Or (e :: es) (fun ρ => (f ρ).bind fun t => if t then some true else f' ρ) := by
 constructor
 intro A env K ρ s b hA he F hf
 refine ax (obE hf) fun t am hf => ?_
 refine wpAny_allTrue_Or_cons (wpAny_mono (h.run A env K ρ s t hA he F am) (fun r s₁ fc => ?_) fun _ _ x => x)
 (refine Ea fc fun q0 k₁ => ?_; clear fc; subst q0)
 cases r with
 | true => simp only [if_true] at hf ⊢; (replace hf := siE hf; subst hf); exact ⟨rfl, k₁⟩
 | false =>
  simp only [Bool.false_eq_true, if_false] at hf ⊢
  exact wpAny_mono (h'.run A env K ρ s₁ b hA he (F.keeps k₁.get (kJ.refl _) fun a o e => k₁.get _ _ (F.inH a o e)) hf) (fun r an p => ⟨p.1, k₁.trans p.2⟩) fun _ _ x => x
theorem bj.boolOp {op : BoolOp} {f : af -> Option Bool} (h : dz C n sc op es f) : bj C n sc (.BoolOp op es pos) f := by
 constructor
 intro A env K ρ s b hA he F hf
 exact wpAny_isTrue_BoolOp (h.run A env K ρ s b hA he F hf)
theorem bj.not {f : af -> Option Bool} (h : bj C n sc e f) : bj C n sc (.UnaryOp .Not e pos) (fun ρ => (f ρ).map (!·)) := by
 constructor
 intro A env K ρ s b hA he F hf
 (refine ax (omE hf) fun t am q0 => ?_; subst q0)
 exact wpAny_isTrue_Not (wpAny_mono (h.run A env K ρ s t hA he F am) (fun r s₁ p => ⟨by rw [p.1], p.2⟩) fun _ _ x => x)
theorem ab.ifexp {t b o : Expr} {f : af -> Option Bool} (h : bj C n sc t f) (cR : ab C n sc b kE) (ca : ab C n sc o kF) :
 ab C n sc (.IfExp t b o pos) (fun ρ => (f ρ).bind fun t => if t then kE ρ else kF ρ) := by
 constructor
 intro A env K ρ s d hA he F hf
 refine ax (obE hf) fun t am hf => ?_
 refine wpAny_IfExp (wpAny_mono (h.run A env K ρ s t hA he F am) (fun r s₁ fc => ?_) fun _ _ x => x)
 (refine Ea fc fun q0 k₁ => ?_; clear fc; subst q0)
 have aq := F.keeps k₁.get (kJ.refl _) fun a o e => k₁.get _ _ (F.inH a o e)
 cases r with
 | true => simp only [if_true] at hf ⊢; exact wpAny_mono (cR.run A env K ρ s₁ d hA he aq hf) (fun r an p => .after (bw.refl _ _) k₁ p) fun _ _ x => x
 | false => simp only [Bool.false_eq_true, if_false] at hf ⊢; exact wpAny_mono (ca.run A env K ρ s₁ d hA he aq hf) (fun r an p => .after (bw.refl _ _) k₁ p) fun _ _ x => x
theorem ab.neg (h : ab C n sc e f) : ab C n sc (.UnaryOp .USub e pos) (fun ρ => (f ρ).bind fun d => match d with | .int i => some (.int (-i)) | _ => none) := by
 constructor
 intro A env K ρ s d hA he F hf
 refine ax (obE hf) fun a am hf => ?_
 cases a <;> simp only [reduceCtorEq] at hf
 (replace hf := siE hf; subst hf)
 refine wpAny_UnaryOp (wpAny_mono (h.run A env K ρ s _ hA he F am) (fun v s₁ fc => ?_) fun _ _ x => x)
 obtain ⟨⟨ap, av, aA, aB⟩, k₁⟩ := fc
 (refine Ex (aZ aB) fun t q0 => ?_; subst q0)
 exact PyProof.Rows.neg_int (.after av k₁ (lW aA))
structure aa (C : dd) (n : Nat) (sc : Scope) (pos : Pos) (es : List Expr) (f : af -> Option (List D)) : Prop where
 run : ∀ (A : Around) (env : Env) (K : KM) (ρ : af) (s : Shared) (ds : List D), dg n A -> env.scope = sc -> nq C env K ρ s.heap -> f ρ = some ds ->
  wpAny C.M A (spliced (backTo pos (starEach es env))) (fun vs s' => (∃ K', bw K s.heap K' /\ eV K' s'.heap /\ ak K' ds vs) /\ Kp s s') dq s
theorem aa.nil : aa C n sc pos [] (fun _ => some []) := by
 constructor
 intro A env K ρ s ds hA he F hf; (replace hf := siE hf; subst hf)
 exact wpAny_items_nil ⟨(cF K (bw.refl _ _) F.inH ak.nil), Kp.refl _⟩
theorem aa.cons {f' : af -> Option (List D)} (h : ab C n sc e f) (h' : aa C n sc pos es f')
 (hs : autoParam (∀ env, starEach (e :: es) env = (false, eval e env) :: starEach es env) aR) :
 aa C n sc pos (e :: es) (fun ρ => lc (f ρ) (f' ρ)) := by
 constructor
 intro A env K ρ s ds hA he F hf
 refine bk (j4 hf) fun a as am ar hf => ?_
 (replace hf := siE hf; subst hf)
 refine wpAny_items_cons (wpAny_mono (h.run A env K ρ s a hA he F am) (fun v s₁ fc => ?_) fun _ _ x => x) (hs env)
 obtain ⟨⟨ap, av, aA, aB⟩, k₁⟩ := fc
 refine wpAny_mono (h'.run A env ap ρ s₁ as hA he (F.keeps k₁.get av.1 aA) ar) (fun vs an ii => ?_) fun _ _ x => x
 (refine Ea ii fun q0 b7 => ?_; clear ii; obtain ⟨cI, bV, bW, ek⟩ := q0)
 exact ⟨(cF cI (av.trans k₁.get bV) bW (.cons (aB.mono bV.1) ek)), k₁.trans b7⟩
theorem ab.tuple {f : af -> Option (List D)} (h : aa C n sc pos es f) : ab C n sc (.Tuple es k pos) (fun ρ => (f ρ).bind od) := by
 constructor
 intro A env K ρ s d hA he F hf
 refine ax (obE hf) fun ds am hf => ?_
 unfold od at hf
 split at hf
 . rename_i hl
   (replace hf := siE hf; subst hf)
   refine wpAny_Tuple (wpAny_mono (h.run A env K ρ s ds hA he F am) (fun vs s₁ fc => ?_) fun _ _ x => x)
   (refine Ea fc fun q0 k₁ => ?_; clear fc; obtain ⟨ap, av, aA, aB⟩ := q0)
   have := aB.length
   exact ⟨by rw [aO]; with_reducible exact Om.eN ‹_› (OfNat.ofNat _) ‹_› rfl, .after av k₁ (tO (tk := s₁.toks) aA aB)⟩
 . exact nS hf
theorem ab.list {f : af -> Option (List D)} (h : aa C n sc pos es f) : ab C n sc (.List es pos) (fun ρ => (f ρ).bind uG) := by
 constructor
 intro A env K ρ s d hA he F hf
 refine ax (obE hf) fun ds am hf => ?_
 unfold uG at hf
 split at hf
 . rename_i hl
   (replace hf := siE hf; subst hf)
   refine wpAny_List (wpAny_mono (h.run A env K ρ s ds hA he F am) (fun vs s₁ fc => ?_) fun _ _ x => x)
   (refine Ea fc fun q0 k₁ => ?_; clear fc; obtain ⟨ap, av, aA, aB⟩ := q0)
   have := aB.length
   exact ⟨by rw [aO]; with_reducible exact Om.eN ‹_› (OfNat.ofNat _) ‹_› rfl, .after av k₁ (dH (tk := s₁.toks) aA aB)⟩
 . exact nS hf
noncomputable def ve : D -> Bool
 | .val _ => false
 | .opq _ => false
 | _ => true
noncomputable def Hc : D -> Bool
 | .none => true
 | _ => false
noncomputable def AT : Value -> Option Addr
 | .ref a => some a
 | _ => none
theorem pM (h : AT v = some a) : v = .ref a := by
 cases v with
 | ref b => rw [siE h]
 | _ => exact dK h
def PN : D -> D -> Option D
 | a, .none => if ve a = true then some (.bool (Hc a)) else none
 | .bool a, .bool b => some (.bool (a == b))
 | .val u, .val v => (AT u).bind fun a => if AT v = some a then some (.bool true) else none
 | _, _ => none
theorem KU {a b : Bool} : PN (.bool a) (.bool b) = some (.bool (a == b)) := rfl
def zu : D -> D -> Option D
 | a, .none => if ve a = true then some (.bool (!Hc a)) else none
 | .bool a, .bool b => some (.bool (!(a == b)))
 | _, _ => none
def sW (x c : D) : Option D := match c with
 | .str _ => KS x c
 | _ => KR x c
noncomputable def wY (n dflt : Nat) : Option Int -> Nat
 | none => dflt
 | some i => (max 0 (min (if i < 0 then i + (n : Int) else i) (n : Int))).toNat
def slc {α : Type} (lo hi : Option Int) (l : List α) : List α := (l.drop (wY l.length 0 lo)).take (wY l.length l.length hi - wY l.length 0 lo)
theorem sy (n dflt : Nat) (i : Int) : ((wY n dflt (some i) : Nat) : Int) = max 0 (min (if i < 0 then i + (n : Int) else i) (n : Int)) := by
 show (((max 0 (min (if i < 0 then i + (n : Int) else i) (n : Int))).toNat : Nat) : Int) = _
 exact Om.bdc _ _
theorem ng (m d n : Nat) : wY m d (some (n : Int)) = min n m := by
 show (max 0 (min (if (n : Int) < 0 then (n : Int) + (m : Int) else n) (m : Int))).toNat = min n m
 rw [if_neg (Int.not_lt.mpr (Int.natCast_nonneg n)), Om.nmin]
theorem Gv (n : Nat) : ∀ u, wY n n u ≤ n
 | none => Nat.le_refl _
 | some i => Int.ofNat_le.mp (by rw [sy]; exact Int.max_le.mpr ⟨Int.natCast_nonneg _, Int.min_le_right _ _⟩)
theorem lw (lo hi : Option Int) (n : Nat) : sliceBounds lo hi none n = (((wY n 0 lo : Nat) : Int), ((wY n n hi : Nat) : Int), 1) := by
 unfold sliceBounds
 simp only [Option.getD_none, show (1 : Int) > 0 by decide, if_true]
 cases lo <;> cases hi <;> simp only [sy] <;> rfl
theorem B2 (vs : List Value) (lo hi : Option Int) : slicePick vs.toArray lo hi none = (slc lo hi vs).toArray := by
 unfold slicePick slc
 rw [lw]
 simp only [sliceRange_one, pick_run, List.size_toArray]
theorem wx (l : List Nat) (lo hi : Option Int) : (Builtin.Str.strSliceIndices lo hi 1 l.length).filterMap (l.toArray[·]?) = slc lo hi l := by
 have e : Builtin.Str.strSliceIndices lo hi 1 l.length = sliceRange ((wY l.length 0 lo : Nat) : Int) ((wY l.length l.length hi : Nat) : Int) 1 := by
  have := lw lo hi l.length
  unfold sliceBounds at this
  simp only [Option.getD_none, Prod.mk.injEq] at this
  unfold Builtin.Str.strSliceIndices
  rw [<- this.1, <- this.2.1]
  rfl
 rw [e, sliceRange_one, pick_run]
 rfl
theorem ak.slc {vs : List Value} (r : ak K ds vs) (lo hi : Option Int) : ak K (Mine.slc lo hi ds) (Mine.slc lo hi vs) := by
 unfold Mine.slc
 rw [r.length]
 exact (r.drop _).take _
theorem B1 {α : Type} (lo hi : Option Int) (l : List α) (h : (slc lo hi l).length = l.length) : slc lo hi l = l :=
 ((List.take_sublist _ _).trans (List.drop_sublist _ _)).eq_of_length h
noncomputable def ef : D -> D -> Option D
 | .list xs, .int i => if 0 ≤ i /\ i < 2 ^ 62 then xs[i.toNat]? else none
 | .tup xs, .int i => if 0 ≤ i /\ i < 2 ^ 62 then xs[i.toNat]? else none
 | .str l, .int i => if 0 ≤ i /\ i < 2 ^ 62 then (l[i.toNat]?).map fun c => .str [c] else none
 | _, _ => none
def cg (lo hi : Option Int) : D -> Option D
 | .list xs => if xs.length ≤ 16777216 then some (.list (slc lo hi xs)) else none
 | .str l => if l.length ≤ 16777216 then some (.str (slc lo hi l)) else none
 | _ => none
noncomputable def yS : D -> Option Int
 | .int i => some i
 | _ => none
theorem jM {d : D} {i : Int} (h : yS d = some i) : d = .int i := by
 cases d <;> simp [yS] at h; subst h; rfl
theorem BN {x y d : D} (h : PN x y = some d) : (y = .none /\ ve x = true /\ D.bool (Hc x) = d) \/ (∃ a b, x = .bool a /\ y = .bool b /\ D.bool (a == b) = d) \/ ∃ a, x = .val (.ref a) /\ y = .val (.ref a) /\ D.bool true = d := by
 cases y with
 | none =>
  have h : (if ve x = true then some (D.bool (Hc x)) else none) = some d := by cases x <;> exact h
  split at h
  . rename_i c; exact .inl (h9 rfl c (siE h))
  . exact dK h
 | bool b => cases x with
  | bool a => exact .inr (.inl (d8 a b rfl rfl (siE h)))
  | _ => exact dK h
 | val v => cases x with
  | val u =>
   refine ax (obE h) fun a h1 h => ?_
   split at h
   . rename_i c; rw [pM h1, pM c]; exact .inr (.inr (cF a rfl rfl (siE h)))
   . exact dK h
  | _ => exact dK h
 | _ => cases x <;> exact dK h
theorem uT {x y d : D} (h : zu x y = some d) : (y = .none /\ ve x = true /\ D.bool (!Hc x) = d) \/ ∃ a b, x = .bool a /\ y = .bool b /\ D.bool (!(a == b)) = d := by
 cases y with
 | none =>
  have h : (if ve x = true then some (D.bool (!Hc x)) else none) = some d := by cases x <;> exact h
  split at h
  . rename_i c; exact .inl (h9 rfl c (siE h))
  . exact dK h
 | bool b => cases x with
  | bool a => exact .inr (d8 a b rfl rfl (siE h))
  | _ => exact dK h
 | _ => cases x <;> exact dK h
theorem wq {x : D} (hp : ve x = true) (hu : bJ K x u) : (u == Value.none) = Hc x := by
 cases x with
 | none => rw [iX hu]; rfl
 | bool b => rw [dW hu]; rfl
 | int i => (refine Ex (aZ hu) fun t q0 => ?_; subst q0); rfl
 | str l => (refine Ex (cJ hu) fun t q0 => ?_; subst q0); rfl
 | list l => (refine bv (bu hu) fun a vs k q0 e r => ?_; subst q0); rfl
 | tup l => (refine bv (gZ hu) fun a vs k q0 e r => ?_; subst q0); rfl
 | val v => exact Bool.noConfusion hp
 | opq p => exact Bool.noConfusion hp
theorem pR (a b : Bool) : (Value.bool a == Value.bool b) = (a == b) := by cases a <;> cases b <;> rfl
theorem nE : dj C (compareOp .Is) PN := by
 intro A K s u v x y d hA hi hu hv hg
 rcases BN hg with ⟨rfl, hp, rfl⟩ | ⟨a, b, rfl, rfl, rfl⟩ | ⟨a, rfl, rfl, rfl⟩
 . rw [iX hv]
   refine is_none ?_
   rw [wq hp hu]; exact de hi (Kp.refl _)
 . rw [dW hu, dW hv]
   refine wpAny_is_plain rfl ?_
   rw [pR]
   exact de hi (Kp.refl _)
 . simp only [bJ] at hu hv
   subst hu hv
   show wpAny C.M A (do return Value.bool (<- isSame (.ref a) (.ref a))) _ dq s
   have e : isSame (.ref a) (.ref a) = pure true := by unfold isSame; simp
   rw [e]
   exact wpAny_bind (wpAny_pure (wpAny_pure (de hi (Kp.refl _))))
theorem p9 : dj C (compareOp .IsNot) zu := by
 intro A K s u v x y d hA hi hu hv hg
 rcases uT hg with ⟨rfl, hp, rfl⟩ | ⟨a, b, rfl, rfl, rfl⟩
 . rw [iX hv]
   refine isNot_none ?_
   rw [wq hp hu]; exact de hi (Kp.refl _)
 . rw [dW hu, dW hv]
   refine wpAny_isNot_plain rfl ?_
   rw [pR]
   exact de hi (Kp.refl _)
theorem io : dj C (compareOp .In) sW := by
 intro A K s u v x y d hA hi hu hv hg
 cases y
 case str l =>
  (delta sW at hg; dsimp only at hg)
  cases x <;> (first | exact dK hg | skip)
  rename_i y
  match y, hg with
  | [c], hg =>
   (delta KS at hg; dsimp only at hg)
   split at hg
   . (replace hg := siE hg; subst hg)
     (refine Ex (cJ hu) fun t q0 => ?_; subst q0)
     (refine Ex (cJ hv) fun t' q0 => ?_; subst q0)
     refine PyProof.Rows.in_str ?_
     have := StrLaws.found_one (S l) c
     show dS K s _ (.bool (!(Builtin.Str.occurrences (S l) ⟨#[c]⟩ 0 (S l).length 1).isEmpty)) s
     rw [this]
     have e : decide (c ∈ (S l).cps.toList) = l.contains c := by simp
     rw [e]
     exact de hi (Kp.refl _)
   . exact nS hg
 all_goals exact Gx A K s u v x _ d hA hi hu hv hg
theorem xb {x y d : D} (h : ef x y = some d) : ∃ j, y = .int j /\ (0 ≤ j /\ j < 2 ^ 62) /\ ((∃ l c, x = .str l /\ l[j.toNat]? = some c /\ D.str [c] = d) \/ (∃ xs, x = .list xs /\ xs[j.toNat]? = some d) \/ ∃ xs, x = .tup xs /\ xs[j.toNat]? = some d) := by
 cases x with
 | str l => cases y with
  | int j =>
   have h : (if 0 ≤ j /\ j < 2 ^ 62 then (l[j.toNat]?).map fun c => D.str [c] else none) = some d := h
   split at h
   . rename_i q
     refine ax (omE h) fun c hc e => ?_
     exact (cF j rfl q (.inl (d8 l c rfl hc e)))
   . exact dK h
  | _ => exact dK h
 | list l => cases y with
  | int j =>
   have h : (if 0 ≤ j /\ j < 2 ^ 62 then l[j.toNat]? else none) = some d := h
   split at h
   . rename_i q; exact (cF j rfl q (.inr (.inl (bC l rfl h))))
   . exact dK h
  | _ => exact dK h
 | tup l => cases y with
  | int j =>
   have h : (if 0 ≤ j /\ j < 2 ^ 62 then l[j.toNat]? else none) = some d := h
   split at h
   . rename_i q; exact (cF j rfl q (.inr (.inr (bC l rfl h))))
   . exact dK h
  | _ => exact dK h
 | _ => exact dK h
theorem ab.item {i : Expr} (cR : ab C n sc e kE) (ca : ab C n sc i kF)
 (hs : autoParam (∀ o j, subscripted i false o j = operate [o, j] (getItem o j)) aR) :
 ab C n sc (.Subscript e i pos) (fun ρ => b2 ef (kE ρ) (kF ρ)) := by
 constructor
 intro A env K ρ s d hA he F hf
 refine bk (j4 hf) fun a b am ar hf => ?_
 refine Subscript_ (two cR ca hA he F am ar fun u v cI an bV bW b7 ru rv bE => ?_)
 (refine wS (xb hf) fun j q0 hj h => ?_; subst q0)
 (refine Ex (aZ rv) fun t' q0 => ?_; subst q0)
 clear hf
 rcases h with ⟨l, c, rfl, hc, rfl⟩ | ⟨xs, rfl, hf⟩ | ⟨xs, rfl, hf⟩
 . (refine Ex (cJ ru) fun t q0 => ?_; subst q0)
   refine tail_any (typeIs_str an _ t) PySem.F.slot_str_getitem.lookup (PySem.P.getItem_str (c := c) ?_ (StrLaws.at_nonneg hj.1 (by simpa using hc)) (.after bV b7 (.flat bW iu (Kp.tok _ _)))) (hs _ _)
   have h1 : ¬ j < -(2 ^ 63 : Int) := by exact Om.b4 hj.1
   have h2 : ¬ j ≥ (2 ^ 63 : Int) := by exact Om.b5 hj.2
   rw [decide_eq_false h1, decide_eq_false h2]; rfl
 . (refine bv (bu ru) fun a vs k q0 e r => ?_; subst q0)
   refine ax (r.get hf) fun x hx rx => ?_
   have hl := cn bW e
   exact tail_any hl.typeIs slot_list_getitem.lookup (wpAny_getItem_list hl hj.1 (by with_reducible exact Om.jL ‹_› (by decide)) (by simpa using hx) (.after bV b7 (.flat bW rx (Kp.refl _)))) (hs _ _)
 . (refine bv (gZ ru) fun a vs k q0 e r => ?_; subst q0)
   refine ax (r.get hf) fun x hx rx => ?_
   have hlt := (List.getElem?_eq_some_iff.mp hx).1
   exact item_tupleT (j := j.toNat) (kH _ (bW _ _ e) rfl k rfl) (by with_reducible exact Om.jG ‹_› (by decide)) (by with_reducible exact Om.jL ‹_› (by decide)) (StrLaws.seqIndex_nonneg hj.1 (by exact (Int.toNat_lt hj.left).mp hlt)) hx (.after bV b7 (.flat bW rx (Kp.refl _))) (hs _ _)
structure eA (C : dd) (n : Nat) (sc : Scope) (e : Option Expr) (f : af -> Option (Option Int)) : Prop where
 run : ∀ (A : Around) (env : Env) (K : KM) (ρ : af) (s : Shared) (i : Option Int), dg n A -> env.scope = sc -> nq C env K ρ s.heap -> f ρ = some i ->
  wpAny C.M A (evalPart e env) (fun v s' => (∃ t, v = partValue (i.map fun i => (i, t))) /\ Kp s s') dq s
theorem eA.none_ : eA C n sc none (fun _ => some none) := by
 constructor
 intro A env K ρ s i hA he F hf; (replace hf := siE hf; subst hf); rw [evalPart_none]; exact wpAny_pure ⟨⟨0, rfl⟩, Kp.refl _⟩
theorem eA.some_ (h : ab C n sc e f) : eA C n sc (some e) (fun ρ => ((f ρ).bind yS).map some) := by
 constructor
 intro A env K ρ s i hA he F hf
 (refine ax (omE hf) fun j am q0 => ?_; subst q0)
 refine ax (obE am) fun d am ar => ?_
 obtain rfl := jM ar
 rw [evalPart_some]
 refine wpAny_mono (h.run A env K ρ s _ hA he F am) (fun v s₁ p => ?_) fun _ _ x => x
 obtain ⟨⟨ap, av, aA, aB⟩, k₁⟩ := p
 exact ⟨aZ aB, k₁⟩
theorem ku (i : Option Int) (t : Tok) : IsPart (partValue (i.map fun i => (i, t))) i := by cases i <;> constructor
theorem xN (x : List Nat) (l u : Option Int) : (if ((Option.map (fun x => x.1) (none : Option (Int × Tok))).getD 1 == 1 && (Builtin.Str.strSliceIndices l u 1 x.length).length == (S x).length) = true then S x
 else (⟨((Builtin.Str.strSliceIndices l u 1 x.length).filterMap ((S x).cps[·]?)).toArray⟩ : Str)) = S (slc l u x) := by
 have e5 := wx x l u
 split
 . rename_i hc
   have hc : (Builtin.Str.strSliceIndices l u 1 x.length).length = x.length := by simpa [Str.length] using hc
   have e7 : (slc l u x).length = x.length := by
    rw [<- e5]
    have A8 : ∀ i ∈ Builtin.Str.strSliceIndices l u 1 x.length, i < x.length := by
     intro i hi
     have := lw l u x.length
     have e : Builtin.Str.strSliceIndices l u 1 x.length = sliceRange ((wY x.length 0 l : Nat) : Int) ((wY x.length x.length u : Nat) : Int) 1 := by
      unfold sliceBounds at this
      simp only [Option.getD_none, Prod.mk.injEq] at this
      unfold Builtin.Str.strSliceIndices
      rw [<- this.1, <- this.2.1]
      rfl
     rw [e, sliceRange_one] at hi
     simp only [List.mem_map, List.mem_range] at hi
     (refine ax hi fun j hj q0 => ?_; clear hi; subst q0)
     exact Nat.lt_of_lt_of_le (Nat.add_lt_of_lt_sub' hj) (Gv _ u)
    have : List.countP (fun a => (x.toArray[a]?).isSome) (Builtin.Str.strSliceIndices l u 1 x.length) = (Builtin.Str.strSliceIndices l u 1 x.length).length := by
     rw [List.countP_eq_length]
     intro i hi
     simp [A8 i hi]
    exact List.length_filterMap_eq_countP.trans (this.trans hc)
   rw [B1 _ _ _ e7]
 . show Str.mk _ = _
   congr 1
   congr 1
theorem ab.slice {lo hi : Option Expr} {fl fu : af -> Option (Option Int)} (h : ab C n sc e f) (hl : eA C n sc lo fl) (hu : eA C n sc hi fu) :
 ab C n sc (.Subscript e (.Slice lo hi none p) pos) (fun ρ => b2 (fun a p => cg p.1 p.2 a) (f ρ) (b2 (fun l u => some (l, u)) (fl ρ) (fu ρ))) := by
 constructor
 intro A env K ρ s d hA he F hf
 refine bk (j4 hf) fun a p am mq hf => ?_
 refine bk (j4 mq) fun l u ar bO q => ?_
 (replace q := siE q; subst q)
 refine Subscript_ (wpAny_mono (h.run A env K ρ s a hA he F am) (fun o s₁ fc => ?_) fun _ _ x => x)
 obtain ⟨⟨ap, av, aA, aB⟩, k₁⟩ := fc
 have aq := F.keeps k₁.get av.1 aA
 refine wpAny_Slice (wpAny_mono (hl.run A env ap ρ s₁ l hA he aq ar) (fun vl an ii => ?_) fun _ _ x => x)
 (refine Ea ii fun q0 b7 => ?_; clear ii; obtain ⟨tl, rfl⟩ := q0)
 have bE := aq.keeps b7.get (kJ.refl _) (fun a o q => b7.get _ _ (aA a o q))
 refine wpAny_mono (hu.run A env ap ρ an u hA he bE bO) (fun vu cX CB => ?_) fun _ _ x => x
 (refine Ea CB fun q0 dR => ?_; clear CB; obtain ⟨tu, rfl⟩ := q0)
 rw [evalPart_none]
 refine wpAny_pure ?_
 have ir := (k₁.trans b7).trans dR
 have jW : eV ap cX.heap := fun a o q => dR.get _ _ (b7.get _ _ (aA a o q))
 have kp : ∀ o', Kp cX { cX with heap := cX.heap.push o' } := fun o' => Kp.push _ _
 have ipush : ∀ o', eV ap (cX.heap.push o') := fun o' a o q => Heap.get?_push_of_some _ (jW a o q)
 cases a with
 | str x =>
  (delta cg at hf; dsimp only at hf)
  split at hf
  . rename_i hx
    (replace hf := siE hf; subst hf)
    (refine Ex (cJ aB) fun t q0 => ?_; subst q0)
    refine tail_any (ops := [.ref cX.heap.objs.size, .str (S x) t]) (typeIs_str _ _ t) PySem.F.slot_str_getitem.lookup (wpAny_getItem_str_slice (l := l.map fun i => (i, tl)) (u := u.map fun i => (i, tu)) (st := none)
     (cF _ (Heap.get?_push_size _ rfl) rfl rfl) rfl ?_) rfl
    have e4 : slicePicked (S x) (l.map fun i => (i, tl)) (u.map fun i => (i, tu)) none = Builtin.Str.strSliceIndices l u 1 x.length := by
     unfold slicePicked
     cases l <;> cases u <;> rfl
    have hle := sliceIndices_le l u x.length
    unfold sliceMade
    rw [e4]
    refine post_val_or_made (fun _ => ?_) fun t' k => ?_
    . simp only [Str.length]
      have := wx x l u
      rw [this]
      simp only [List.size_toArray]
      unfold slc
      rw [List.length_take, List.length_drop, aO]
      exact Om.minle (by assumption)
    . rw [xN x l u]
      exact .after av ir (.after (bw.refl _ _) (kp _) (.flat (ipush _) iu (Kp.tok _ _)))
  . exact nS hf
 | list xs =>
  (delta cg at hf; dsimp only at hf)
  split at hf
  . rename_i hx
    (replace hf := siE hf; subst hf)
    (refine bv (bu aB) fun a vs k q0 e r => ?_; subst q0)
    have df := r.length
    have hL := cn (ipush { cls := .type "slice", data := .fields #[partValue (l.map fun i => (i, tl)), partValue (u.map fun i => (i, tu)), .none] }) e
    refine tail_any (ops := [.ref cX.heap.objs.size, .ref a]) hL.typeIs slot_list_getitem.lookup (wpAny_getItem_list_slice hL (Heap.IsSliceOf.new ..) (ku l tl) (ku u tu) .none (by simp) ?_
     (by rw [aO]; simp only [List.size_toArray]; with_reducible exact Om.eN ‹_› (OfNat.ofNat _) ‹_› rfl)) rfl
    rw [B2]
    exact .after av ir (.after (bw.refl _ _) (kp _) (dH (tk := cX.toks) (ipush _) (r.slc l u)))
  . exact nS hf
 | _ => simp [cg] at hf
noncomputable def eD (O : List Str) (ρ : af) : af := fun x => if O.contains x then none else ρ x
noncomputable def ay (ow : List (Str × Addr)) : List Str := ow.map (·.1)
theorem wU {m m' : Str -> Option Value} (x : h.Ns a m) (y : h.Ns a m') : m = m' := by
 (refine fh x fun o es ep e1 e2 _ e3 => ?_; clear x)
 (refine fh y fun o' es' ep' f1 f2 _ f3 => ?_; clear y)
 rw [e1] at f1; (replace f1 := siE f1; subst f1)
 rw [e2] at f2; cases f2
 funext z
 rw [<- e3, f3]
structure bG (b : Str -> Bool) (C : dd) (P : KM) (env : Env) (ow : List (Str × Addr)) (K : KM) (ρ : af) (h : Heap) : Prop where
 fe : nq C env K (eD (ay ow) ρ) h
 inP : eV P h
 lK : K env.locals = none
 lP : P env.locals = none
 cel : ∀ x c, env.cells.lookup x = some c -> c ≠ env.locals /\ (b x = true -> K c = none /\ P c = none /\ ∃ v, h.IsCell c v)
 apart : ∀ x c y, b x = true -> env.cells.lookup x = some c -> env.cells.lookup y = some c -> y = x
 celAll : ∀ x, b x = true -> env.kindOf x = some .cell -> (env.cells.lookup x).isSome = true
 own : ∀ p ∈ ow, ∃ ds vs n, ρ p.1 = some (.list ds) /\ dQ env h p.1 (.ref p.2) /\ h.get? p.2 = some (aT vs n) /\ ak K ds vs /\ K p.2 = none /\ P p.2 = none /\ p.2 ≠ env.locals /\
  ∀ x c, env.cells.lookup x = some c -> p.2 ≠ c
 ownApart : ow.Pairwise fun x y => x.2 ≠ y.2
theorem bG.keeps {C : dd} (F : bG b C P env ow K ρ h) (hk : ∀ b o, h.get? b = some o -> h'.get? b = some o)
 (g : bw K h K') (hi : eV K' h') : bG b C P env ow K' ρ h' := by
 have old : ∀ a o, h.get? a = some o -> K a = none -> K' a = none := fun a o e n => by
  cases q : K' a with
  | none => rfl
  | some o' => rcases g.2 a o' q with r | r
               . rw [n] at r; exact nS r
               . rw [e] at r; exact sN r
 have oldL : K' env.locals = none := by
  refine hY F.fe.ns fun m o es ep e _ => ?_
  exact old _ o e F.lK
 refine ⟨F.fe.keeps hk g.1 hi, fun a o e => hk _ _ (F.inP a o e), oldL, F.lP, fun x c e => ⟨(F.cel x c e).1, fun hb => ?_⟩, F.apart, F.celAll, fun p hp => ?_, F.ownApart⟩
 . refine yz ((F.cel x c e).2 hb) fun k p v hv => ?_
   (refine ax hv fun o ho hd => ?_; clear hv)
   exact (rD (old _ o ho k) p v (bC o (hk _ _ ho) hd))
 . refine aJ (F.own p hp) fun ds vs n h1 h2 h3 h4 h5 h6 h7 h8 => ?_
   exact (bN ds vs n h1 (h2.keeps hk) (hk _ _ h3) (h4.mono g.1) (old _ _ h3 h5) h6 h7 h8)
theorem dQ.upd_local {m : Str -> Option Value} (z : dQ env h y v) (hyx : y ≠ x) (hn : h.Ns env.locals m) (hn' : h'.Ns env.locals (fun w => if w = x then some u else m w))
 (hs : Heap.SameBut env.locals h h') (hc : ∀ w c, env.cells.lookup w = some c -> c ≠ env.locals) : dQ env h' y v := by
 cases z with
 | loc m₁ hk M9 hv =>
  have := wU hn M9
  subst this
  exact .loc _ hk hn' (by rw [if_neg hyx]; exact hv)
 | cell c hk hl hv => exact .cell c hk hl (hv.sameBut hs (hc _ _ hl))
 | free c hk hl hv => exact .free c hk hl (hv.sameBut hs (hc _ _ hl))
theorem CE {d : D} (hx : O.contains x = false) : eD O (upd ρ x d) = upd (eD O ρ) x d := by
 funext y
 unfold eD upd
 by_cases h : y = x
 . subst h; simp only [hx, Bool.false_eq_true, if_false, if_true]
 . simp only [if_neg h]
noncomputable def vW (ρ : af) (x : Str) : af := fun y => if y = x then none else ρ y
theorem rj : eD O (vW ρ x) = vW (eD O ρ) x := by
 funext y
 unfold eD vW
 by_cases h : y = x
 . subst h; simp
 . simp only [if_neg h]
def gx (h h' : Heap) : Prop := ∀ a, h.get? a ≠ none -> h'.get? a ≠ none
theorem gx.of (k : ∀ b o, h.get? b = some o -> h'.get? b = some o) : gx h h' := fun a e => by
 cases q : h.get? a with
 | none => exact absurd q e
 | some o => rw [k a o q]; exact Option.some_ne_none _
theorem gx.trans {h'' : Heap} (x : gx h h') (y : gx h' h'') : gx h h'' := fun a e => y a (x a e)
theorem gx.none (x : gx h h') (e : h'.get? a = none) : h.get? a = none := by
 cases q : h.get? a with
 | none => rfl
 | some o => exact absurd e (x a (by rw [q]; exact Option.some_ne_none _))
theorem gx.refl (h : Heap) : gx h h := fun _ e => e
structure Sh (s s' : Shared) : Prop where
 same : ∃ h t, s' = { s with heap := h, toks := t }
 live : gx s.heap s'.heap
theorem Sh.refl (s : Shared) : Sh s s := ⟨(j2 s.heap s.toks rfl), .refl _⟩
theorem Sh.trans (x : Sh s s') (y : Sh s' s'') : Sh s s'' := by
 obtain ⟨⟨h, t, rfl⟩, l⟩ := x
 obtain ⟨⟨h', t', rfl⟩, l'⟩ := y
 exact ⟨(j2 h' t' rfl), l.trans l'⟩
theorem Sh.of (k : Kp s s') : Sh s s' := by
 have l := gx.of k.get
 obtain ⟨h, t, rfl, _⟩ := k
 exact ⟨(j2 h t rfl), l⟩
def Grw (K : KM) (h : Heap) (K' : KM) : Prop := kJ K K' /\ ∀ a o, K' a = some o -> K a = some o \/ h.get? a = none
theorem Grw.trans (x : bw K h K') (l : gx h h') (y : bw K' h' K'') : bw K h K'' :=
 ⟨x.1.trans y.1, fun a o e => (y.2 a o e).elim (x.2 a o) fun q => .inr (l.none q)⟩
theorem bG.store0 {Q : Unit -> Shared -> Prop} (F : bG b C P env ow K ρ s.heap)
 (hx : (ay ow).contains x = false) (hk : env.kindOf x = some .local \/ (b x = true /\ env.kindOf x = some .cell))
 (h : ∀ h' tk, bG b C P env ow K (vW ρ x) h' -> dQ env h' x v -> gx s.heap h' -> (∀ c o, c ≠ env.locals -> (∀ y, env.cells.lookup y ≠ some c) -> s.heap.get? c = some o -> h'.get? c = some o) -> Q () { s with heap := h', toks := tk }) :
 wpAny C.M A (storeName env x v) Q E s := by
 have hne : ∀ p ∈ ow, p.1 ≠ x := fun p hp e => by
  have : (ay ow).contains x = true := by
   rw [List.contains_iff_mem]; exact List.mem_map.mpr (bC p hp e)
  rw [hx] at this; cases this
 rcases hk with hl | ⟨hb, hl⟩
 . refine Ex F.fe.ns fun m hn => ?_
   refine wpAny_storeName_local hl hn (fun h' hn' hs => h h' _ ⟨⟨F.fe.fn, F.fe.gl, F.fe.bl, fun a o e => ?_, F.fe.base, ⟨_, hn'⟩, ?_, fun y e => let ⟨c, h1, o, h2⟩ := F.fe.caps y e; ⟨c, h1, o, (hs.2 c (F.cel _ _ h1).1).trans h2⟩, fun y c e => let ⟨o, h2⟩ := F.fe.cl y c e; ⟨o, (hs.2 c (F.cel _ _ e).1).trans h2⟩⟩, fun a o e => ?_, F.lK, F.lP, fun y c e => ⟨(F.cel y c e).1, fun hb => ?_⟩, F.apart, F.celAll, fun p hp => ?_, F.ownApart⟩ (.loc _ hl hn' (by simp)) ?_ ?_) (by rw [F.fe.fn]; rfl)
   . exact (hs.2 a (fun q => by subst q; rw [F.lK] at e; exact nS e)).trans (F.fe.inH a o e)
   . intro y d' e
     rw [rj] at e
     unfold vW at e
     by_cases hy : y = x
     . rw [if_pos hy] at e; exact nS e
     . rw [if_neg hy] at e
       refine ax (F.fe.vars y d' e) fun u p q => ?_
       exact (bC u (p.upd_local hy hn hn' hs fun w c e => (F.cel w c e).1) q)
   . exact (hs.2 a (fun q => by subst q; rw [F.lP] at e; exact nS e)).trans (F.inP a o e)
   . refine yz ((F.cel y c e).2 hb) fun k p u hu => ?_
     exact (rD k p u (hu.sameBut hs (F.cel y c e).1))
   . refine aJ (F.own p hp) fun ds vs n h1 h2 h3 h4 h5 h6 h7 h8 => ?_
     refine (bN ds vs n ?_ (h2.upd_local (hne p hp) hn hn' hs fun w c e => (F.cel w c e).1) ((hs.2 _ h7).trans h3) h4 h5 h6 h7 h8)
     unfold vW; rw [if_neg (hne p hp)]; exact h1
   . intro a e
     by_cases q : a = env.locals
     . subst q; (refine mF hn' fun o _ _ ho _ => ?_; clear hn'); rw [ho]; exact Option.some_ne_none _
     . rw [hs.2 a q]; exact e
   . intro c o hc _ e
     exact (hs.2 c hc).trans e
 . refine Ex (Option.isSome_iff_exists.mp (F.celAll x hb hl)) fun c hc => ?_
   refine Ea (F.cel x c hc) fun hcl hcb => ?_
   refine yz (hcb hb) fun cK cP v₀ Ml => ?_
   refine wpAny_storeName_cell F.fe.fn hl hc Ml fun h' hv' hs => h h' s.toks ⟨⟨F.fe.fn, F.fe.gl, F.fe.bl, fun a o e => ?_, F.fe.base, ?_, ?_, fun y e => let ⟨c', h1, o, h2⟩ := F.fe.caps y e; ⟨c', h1, (Classical.em (c' = c)).elim (fun q => let ⟨o', ho', _⟩ := hv'; ⟨o', q ▸ ho'⟩) fun q => ⟨o, (hs.2 c' q).trans h2⟩⟩, fun y c' e => let ⟨o, h2⟩ := F.fe.cl y c' e; (Classical.em (c' = c)).elim (fun q => let ⟨o', ho', _⟩ := hv'; ⟨o', q ▸ ho'⟩) fun q => ⟨o, (hs.2 c' q).trans h2⟩⟩, fun a o e => ?_, F.lK, F.lP, fun y c' e => ⟨(F.cel y c' e).1, fun hb' => ?_⟩, F.apart, F.celAll, fun p hp => ?_, F.ownApart⟩ (.cell c hl hc hv') ?_ ?_
   . exact (hs.2 a (fun q => by subst q; rw [cK] at e; exact nS e)).trans (F.fe.inH a o e)
   . refine Ex F.fe.ns fun m hn => ?_
     exact ⟨m, hn.sameBut hs hcl.symm⟩
   . intro y d' e
     rw [rj] at e
     unfold vW at e
     by_cases hy : y = x
     . rw [if_pos hy] at e; exact nS e
     . rw [if_neg hy] at e
       refine ax (F.fe.vars y d' e) fun u p q => ?_
       refine (bC u ?_ q)
       have ne : ∀ c', env.cells.lookup y = some c' -> c' ≠ c := fun c' e' q => hy (F.apart x c y hb hc (q ▸ e'))
       cases p with
       | loc m a1 a2 a3 => exact .loc m a1 (a2.sameBut hs hcl.symm) a3
       | cell c' a1 a2 a3 => exact .cell c' a1 a2 (a3.sameBut hs (ne _ a2))
       | free c' a1 a2 a3 => exact .free c' a1 a2 (a3.sameBut hs (ne _ a2))
   . exact (hs.2 a (fun q => by subst q; rw [cP] at e; exact nS e)).trans (F.inP a o e)
   . refine yz ((F.cel y c' e).2 hb') fun k p u hu => ?_
     by_cases q : c' = c
     . subst q; exact (rD k p _ hv')
     . exact (rD k p u (hu.sameBut hs q))
   . refine aJ (F.own p hp) fun ds vs n h1 h2 h3 h4 h5 h6 h7 h8 => ?_
     have hpc : p.2 ≠ c := h8 x c hc
     refine (bN ds vs n ?_ ?_ ((hs.2 _ hpc).trans h3) h4 h5 h6 h7 h8)
     . unfold vW; rw [if_neg (hne p hp)]; exact h1
     . have ne : ∀ c', env.cells.lookup p.1 = some c' -> c' ≠ c := fun c' e' q => hne p hp (F.apart x c p.1 hb hc (q ▸ e'))
       cases h2 with
       | loc m a1 a2 a3 => exact .loc m a1 (a2.sameBut hs hcl.symm) a3
       | cell c' a1 a2 a3 => exact .cell c' a1 a2 (a3.sameBut hs (ne _ a2))
       | free c' a1 a2 a3 => exact .free c' a1 a2 (a3.sameBut hs (ne _ a2))
   . intro a e
     by_cases q : a = c
     . subst q; (refine ax hv' fun o ho _ => ?_; clear hv'); rw [ho]; exact Option.some_ne_none _
     . rw [hs.2 a q]; exact e
   . intro c' o _ hc' e
     exact (hs.2 c' (fun q => hc' x (q ▸ hc))).trans e
theorem bG.bindX {d : D} (F : bG b C P env ow K (vW ρ x) h) (hx : (ay ow).contains x = false) (hv : dQ env h x v) (hr : bJ K d v) :
 bG b C P env ow K (upd ρ x d) h := by
 refine ⟨⟨F.fe.fn, F.fe.gl, F.fe.bl, F.fe.inH, F.fe.base, F.fe.ns, fun y d' e => ?_, F.fe.caps, F.fe.cl⟩, F.inP, F.lK, F.lP, F.cel, F.apart, F.celAll, fun p hp => ?_, F.ownApart⟩
 . rw [CE hx] at e
   unfold upd at e
   by_cases hy : y = x
   . subst hy; rw [if_pos rfl] at e; (replace e := siE e; subst e); exact (bC v hv hr)
   . rw [if_neg hy] at e
     exact F.fe.vars y d' (by rw [rj]; unfold vW; rw [if_neg hy]; exact e)
 . refine mF (F.own p hp) fun ds vs n h1 r => ?_
   refine (yM ds vs n ?_ r)
   unfold vW at h1; unfold upd
   by_cases hy : p.1 = x
   . rw [if_pos hy] at h1; exact nS h1
   . rw [if_neg hy] at h1 ⊢; exact h1
theorem bG.store {d : D} {Q : Unit -> Shared -> Prop} (F : bG b C P env ow K ρ s.heap) (hv : bJ K d v)
 (hx : (ay ow).contains x = false) (hk : env.kindOf x = some .local \/ (b x = true /\ env.kindOf x = some .cell))
 (h : ∀ h' tk, bG b C P env ow K (upd ρ x d) h' -> gx s.heap h' -> (∀ c o, c ≠ env.locals -> (∀ y, env.cells.lookup y ≠ some c) -> s.heap.get? c = some o -> h'.get? c = some o) -> Q () { s with heap := h', toks := tk }) :
 wpAny C.M A (storeName env x v) Q E s := F.store0 hx hk fun h' tk F' V l k => h h' tk (F'.bindX hx V hv) l k
inductive Fl where
 | next
 | brk
 | cont
 | ret (d : D)
noncomputable def FlOk (K : KM) : Fl -> Flow -> Prop
 | .next, f => f = .next
 | .brk, f => f = .brk
 | .cont, f => f = .cont
 | .ret d, f => ∃ v, f = .ret v /\ bJ K d v
noncomputable def Fl.isRet : Fl -> Bool
 | .ret _ => true
 | _ => false
noncomputable abbrev bf : Str -> Bool := fun _ => true
noncomputable def eI (b : Str -> Bool) (sc : Scope) (O : List Str) (x : Str) : Bool := !O.contains x && (sc.names.lookup x == some .local || (b x && sc.names.lookup x == some .cell))
theorem cq {O : List Str} (h : eI b env.scope O x = true) : O.contains x = false /\ (env.kindOf x = some .local \/ (b x = true /\ env.kindOf x = some .cell)) := by
 unfold eI at h
 simp only [Bool.and_eq_true, Bool.not_eq_true', Bool.or_eq_true, beq_iff_eq] at h
 exact h
structure fW (K P K' : KM) : Prop where
 le : kJ K K'
 new : ∀ a o, K' a = some o -> K a = some o \/ P a = none
theorem fW.refl (K P : KM) : fW K P K := ⟨kJ.refl K, fun _ _ e => .inl e⟩
theorem fW.trans (x : fW K P K') (y : fW K' P K'') : fW K P K'' := ⟨x.1.trans y.1, fun a o e => (y.2 a o e).elim (x.2 a o) .inr⟩
theorem eX (hp : eV P h) (q : h.get? a = none) : P a = none := by
 cases r : P a with
 | none => rfl
 | some o => rw [hp a o r] at q; exact sN q
theorem fW.of (g : bw K h K') (hp : eV P h) : fW K P K' := ⟨g.1, fun a o e => (g.2 a o e).imp id fun q => eX hp q⟩
def bh (s s' : Shared) : Prop := ∃ h t, s' = { s with heap := h, toks := t }
theorem bh.refl (s : Shared) : bh s s := (j2 s.heap s.toks rfl)
theorem bh.trans (x : bh s s') (y : bh s' s'') : bh s s'' := by
 (refine Br x fun h t q0 => ?_; clear x; subst q0); (refine Br y fun h' t' q0 => ?_; clear y; subst q0); exact (j2 h' t' rfl)
theorem bh.of (k : Kp s s') : bh s s' := by obtain ⟨h, t, rfl, _⟩ := k; exact (j2 h t rfl)
inductive Gn (C : dd) (P : KM) (env : Env) (O : List Str) (K : KM) (ρ' : af) (fl : Fl) (f : Flow) (h' : Heap) : Prop
 | mk (K' : KM) (ow' : List (Str × Addr)) (o : fl.isRet = false -> ay ow' = O) (g : fW K P K') (F : bG bf C P env ow' K' ρ' h') (l : FlOk K' fl f)
structure iK (C : dd) (P : KM) (env : Env) (O : List Str) (K : KM) (s : Shared) (ρ' : af) (fl : Fl) (f : Flow) (s' : Shared) : Prop where
 ex : Gn C P env O K ρ' fl f s'.heap
 same : bh s s'
structure au (C : dd) (n : Nat) (sc : Scope) (O O' : List Str) (st : Stmt) (g : af -> Option (Fl × af)) : Prop where
 run : ∀ (A : Around) (env : Env) (P : KM) (ow : List (Str × Addr)) (K : KM) (ρ : af) (s : Shared) (fl : Fl) (ρ' : af), dg n A -> env.scope = sc -> ay ow = O -> bG bf C P env ow K ρ s.heap -> g ρ = some (fl, ρ') ->
  wpAny C.M A (exec st env) (iK C P env O' K s ρ' fl) dq s
structure ae (C : dd) (n : Nat) (sc : Scope) (O O' : List Str) (ss : List Stmt) (g : af -> Option (Fl × af)) : Prop where
 run : ∀ (A : Around) (env : Env) (P : KM) (ow : List (Str × Addr)) (K : KM) (ρ : af) (s : Shared) (fl : Fl) (ρ' : af), dg n A -> env.scope = sc -> ay ow = O -> bG bf C P env ow K ρ s.heap -> g ρ = some (fl, ρ') ->
  wpAny C.M A (execs ss env) (iK C P env O' K s ρ' fl) dq s
noncomputable def seqF (r : Option (Fl × af)) (k : af -> Option (Fl × af)) : Option (Fl × af) :=
 match r with
 | none => none
 | some (.next, ρ) => k ρ
 | some (.brk, ρ) => some (.brk, ρ)
 | some (.cont, ρ) => some (.cont, ρ)
 | some (.ret d, ρ) => some (.ret d, ρ)
noncomputable def seqT (r : Option (Fl × af)) (k : af -> Option (Fl × af)) : Option (Fl × af) :=
 match r with
 | some (.next, ρ) => k ρ
 | some (.ret d, ρ) => some (.ret d, ρ)
 | _ => none
theorem iK.after {ap : KM} {an : Shared} {fl : Fl} {f : Flow} (g : fW K P ap) (sm : bh s s₁) (x : iK C P env O ap s₁ ρ' fl f an) : iK C P env O K s ρ' fl f an := by
 obtain ⟨⟨K', ow', h1, h2, h3, h4⟩, h5⟩ := x
 exact ⟨⟨K', ow', h1, g.trans h2, h3, h4⟩, sm.trans h5⟩
theorem ae.nil : ae C n sc O O [] (fun ρ => some (.next, ρ)) := by
 constructor
 intro A env P ow K ρ s fl ρ' hA he ho F hg
 (refine sP hg fun q0 q1 => ?_; clear hg; subst q0 q1)
 exact wpAny_execs_nil ⟨⟨K, ow, fun _ => ho, fW.refl _ _, F, rfl⟩, bh.refl _⟩
theorem ae.cons {st : Stmt} (h : au C n sc O O st g) (h' : ae C n sc O O ss g') : ae C n sc O O (st :: ss) (fun ρ => seqF (g ρ) g') := by
 constructor
 intro A env P ow K ρ s fl ρ' hA he ho F hg
 replace hg : seqF (g ρ) g' = some (fl, ρ') := hg
 unfold seqF at hg
 split at hg
 . exact nS hg
 . rename_i ρ₁ e
   refine wpAny_execs_cons (wpAny_mono (h.run A env P ow K ρ s _ _ hA he ho F e) (fun f s₁ p => ?_) fun _ _ x => x)
   obtain ⟨⟨ap, g7, gJ, av, aq, rfl⟩, dl⟩ := p
   exact wpAny_mono (h'.run A env P g7 ap ρ₁ s₁ fl ρ' hA he (gJ rfl) aq hg) (fun f an p => p.after av dl) fun _ _ x => x
 . rename_i ρ₁ e
   (refine sP hg fun q0 q1 => ?_; clear hg; subst q0 q1)
   refine wpAny_execs_cons (wpAny_mono (h.run A env P ow K ρ s _ _ hA he ho F e) (fun f s₁ p => ?_) fun _ _ x => x)
   obtain ⟨⟨ap, g7, gJ, av, aq, rfl⟩, dl⟩ := p
   exact ⟨⟨ap, g7, gJ, av, aq, rfl⟩, dl⟩
 . rename_i ρ₁ e
   (refine sP hg fun q0 q1 => ?_; clear hg; subst q0 q1)
   refine wpAny_execs_cons (wpAny_mono (h.run A env P ow K ρ s _ _ hA he ho F e) (fun f s₁ p => ?_) fun _ _ x => x)
   obtain ⟨⟨ap, g7, gJ, av, aq, rfl⟩, dl⟩ := p
   exact ⟨⟨ap, g7, gJ, av, aq, rfl⟩, dl⟩
 . rename_i d ρ₁ e
   (refine sP hg fun q0 q1 => ?_; clear hg; subst q0 q1)
   refine wpAny_execs_cons (wpAny_mono (h.run A env P ow K ρ s _ _ hA he ho F e) (fun f s₁ p => ?_) fun _ _ x => x)
   obtain ⟨⟨ap, g7, gJ, av, aq, v, rfl, r⟩, dl⟩ := p
   exact ⟨⟨ap, g7, fun q => (by cases q), av, aq, v, rfl, r⟩, dl⟩
theorem ae.top {st : Stmt} (h : au C n sc O O' st g) (h' : ae C n sc O' O'' ss g') : ae C n sc O O'' (st :: ss) (fun ρ => seqT (g ρ) g') := by
 constructor
 intro A env P ow K ρ s fl ρ' hA he ho F hg
 replace hg : seqT (g ρ) g' = some (fl, ρ') := hg
 unfold seqT at hg
 split at hg
 . rename_i ρ₁ e
   refine wpAny_execs_cons (wpAny_mono (h.run A env P ow K ρ s _ _ hA he ho F e) (fun f s₁ p => ?_) fun _ _ x => x)
   obtain ⟨⟨ap, g7, gJ, av, aq, rfl⟩, dl⟩ := p
   exact wpAny_mono (h'.run A env P g7 ap ρ₁ s₁ fl ρ' hA he (gJ rfl) aq hg) (fun f an p => p.after av dl) fun _ _ x => x
 . rename_i d ρ₁ e
   (refine sP hg fun q0 q1 => ?_; clear hg; subst q0 q1)
   refine wpAny_execs_cons (wpAny_mono (h.run A env P ow K ρ s _ _ hA he ho F e) (fun f s₁ p => ?_) fun _ _ x => x)
   obtain ⟨⟨ap, g7, gJ, av, aq, v, rfl, r⟩, dl⟩ := p
   exact ⟨⟨ap, g7, fun q => (by cases q), av, aq, v, rfl, r⟩, dl⟩
 . exact nS hg
theorem bb (ρ : af) : eD [] ρ = ρ := by funext x; simp [eD]
noncomputable def Ak (ow : List (Str × Addr)) (K : KM) (h : Heap) : KM := fun a => if a ∈ ow.map (·.2) then h.get? a else K a
theorem BW (F : bG b C P env ow K ρ h) : kJ K (Ak ow K h) := fun a o e => by
 unfold Ak
 rw [if_neg]
 . exact e
 . intro m
   (refine ax (List.mem_map.mp m) fun p hp q0 => ?_; subst q0)
   refine aJ (F.own p hp) fun ds vs k h1 h2 h3 h4 h5 h6 h7 h8 => ?_
   rw [h5] at e; exact nS e
theorem bG.known (F : bG b C P env ow K ρ h) : nq C env (Ak ow K h) ρ h := by
 have le := BW F
 refine ⟨F.fe.fn, F.fe.gl, F.fe.bl, fun a o e => ?_, fun a o e => le _ _ (F.fe.base a o e), F.fe.ns, fun x d e => ?_, F.fe.caps, F.fe.cl⟩
 . unfold Ak at e
   split at e
   . exact e
   . exact F.fe.inH a o e
 . cases hx : (ay ow).contains x with
   | false =>
    have e' : eD (ay ow) ρ x = some d := by unfold eD; rw [hx]; exact e
    refine ax (F.fe.vars x d e') fun v a1 a2 => ?_
    exact (bC v a1 (a2.mono le))
   | true =>
    have hm : x ∈ ay ow := by simpa using hx
    (refine ax (List.mem_map.mp hm) fun p hp q0 => ?_; subst q0)
    refine aJ (F.own p hp) fun ds vs k h1 h2 h3 h4 h5 h6 h7 h8 => ?_
    rw [e] at h1; cases h1
    refine (bC _ h2 ?_)
    simp only [bJ]
    refine (fD p.2 vs k rfl ?_ (h4.mono le))
    unfold Ak
    rw [if_pos (List.mem_map.mpr (bC p hp rfl))]
    exact h3
structure aM (C : dd) (n : Nat) (sc : Scope) (O : List Str) (e : Expr) (f : af -> Option D) : Prop where
 run : ∀ (A : Around) (env : Env) (P : KM) (ow : List (Str × Addr)) (K : KM) (ρ : af) (s : Shared) (d : D), dg n A -> env.scope = sc -> ay ow = O -> bG bf C P env ow K ρ s.heap -> f ρ = some d ->
  wpAny C.M A (eval e env) (fun v s₁ => ∃ ap, bw K s.heap ap /\ bG bf C P env ow ap ρ s₁.heap /\ bJ ap d v /\ Kp s s₁) dq s
structure dP (C : dd) (n : Nat) (sc : Scope) (O : List Str) (e : Expr) (f : af -> Option Bool) : Prop where
 run : ∀ (A : Around) (env : Env) (P : KM) (ow : List (Str × Addr)) (K : KM) (ρ : af) (s : Shared) (b : Bool), dg n A -> env.scope = sc -> ay ow = O -> bG bf C P env ow K ρ s.heap -> f ρ = some b ->
  wpAny C.M A (isTrue e env (eval e env)) (fun r s₁ => r = b /\ bG bf C P env ow K ρ s₁.heap /\ Kp s s₁) dq s
noncomputable def mO : D -> Option D
 | .none => some .none
 | .bool b => some (.bool b)
 | .int i => some (.int i)
 | .str l => some (.str l)
 | _ => none
theorem zL {d d' : D} (h : mO d = some d') (r : bJ K d v) : bJ K' d' v := by
 cases d <;> (first | exact dK h | simp only [mO] at h) <;> (replace h := siE h; subst h) <;> simp only [bJ] at r ⊢ <;> exact r
theorem aM.of (h : ab C n sc e f) : aM C n sc O e (fun ρ => f (eD O ρ)) := by
 constructor
 intro A env P ow K ρ s d hA he ho F hf
 have fe := F.fe
 rw [ho] at fe
 refine wpAny_mono (h.run A env K (eD O ρ) s d hA he fe hf) (fun v s₁ p => ?_) fun _ _ x => x
 obtain ⟨⟨ap, av, aA, aB⟩, k₁⟩ := p
 exact (jt ap av (F.keeps k₁.get av aA) aB k₁)
theorem aM.flat (h : ab C n sc e f) : aM C n sc O e (fun ρ => (f ρ).bind mO) := by
 constructor
 intro A env P ow K ρ s d hA he ho F hf
 refine ax (obE hf) fun d' am ar => ?_
 refine wpAny_mono (h.run A env _ ρ s d' hA he F.known am) (fun v s₁ p => ?_) fun _ _ x => x
 obtain ⟨⟨ap, av, aA, aB⟩, k₁⟩ := p
 exact (jt K (bw.refl _ _) (F.keeps k₁.get (bw.refl _ _) fun a o e => k₁.get _ _ (F.fe.inH a o e)) (zL ar aB) k₁)
theorem dP.of {f : af -> Option Bool} (h : bj C n sc e f) : dP C n sc O e f := by
 constructor
 intro A env P ow K ρ s b hA he ho F hf
 refine wpAny_mono (h.run A env _ ρ s b hA he F.known hf) (fun r s₁ p => ?_) fun _ _ x => x
 exact (h9 p.1 (F.keeps p.2.get (bw.refl _ _) fun a o e => p.2.get _ _ (F.fe.inH a o e)) p.2)
theorem au.assign (h : aM C n sc O e f) (hx : autoParam (eI bf sc O x = true) aK)
 (hs : autoParam (∀ env, env.scope = sc -> swapsWith e (some (.Name x px)) pos.line env = pure false) aR) :
 au C n sc O O (.Assign [.Name x px] e pos) (fun ρ => (f ρ).bind fun d => some (.next, upd ρ x d)) := by
 constructor
 intro A env P ow K ρ s fl ρ' hA he ho F hg
 refine ax (obE hg) fun d am hg => ?_
 (refine sP hg fun q0 q1 => ?_; clear hg; subst q0 q1)
 subst he
 refine Ea (cq hx) fun hx1 hx2 => ?_
 refine wpAny_Assign_Name (wpAny_mono (h.run A env P ow K ρ s d hA rfl ho F am) (fun v s₁ p => ?_) fun _ _ x => x) (hs env rfl)
 (refine gD p fun ap av aq aB k₁ => ?_; clear p)
 refine aq.store aB (by rw [ho]; exact hx1) hx2 fun h' tk F' l' _ => ?_
 exact ⟨⟨ap, ow, fun _ => ho, fW.of av F.inP, F', rfl⟩, (bh.of k₁).trans (j2 h' tk rfl)⟩
theorem au.ret (h : aM C n sc O e f) : au C n sc O O' (.Return (some e) pos) (fun ρ => (f ρ).bind fun d => some (.ret d, ρ)) := by
 constructor
 intro A env P ow K ρ s fl ρ' hA he ho F hg
 refine ax (obE hg) fun d am hg => ?_
 (refine sP hg fun q0 q1 => ?_; clear hg; subst q0 q1)
 refine wpAny_Return_some (wpAny_mono (h.run A env P ow K ρ s d hA he ho F am) (fun v s₁ p => ?_) fun _ _ x => x)
 (refine gD p fun ap av aq aB k₁ => ?_; clear p)
 exact ⟨⟨ap, ow, fun q => (by cases q), fW.of av F.inP, aq, v, rfl, aB⟩, bh.of k₁⟩
theorem au.brk : au C n sc O O (.Break pos) (fun ρ => some (.brk, ρ)) := by
 constructor
 intro A env P ow K ρ s fl ρ' hA he ho F hg
 (refine sP hg fun q0 q1 => ?_; clear hg; subst q0 q1)
 exact wpAny_Break ⟨⟨K, ow, fun _ => ho, fW.refl _ _, F, rfl⟩, bh.refl _⟩
theorem au.if_ {t : Expr} {b o : List Stmt} {f : af -> Option Bool} {av bV : af -> Option (Fl × af)} (h : dP C n sc O t f) (cR : ae C n sc O O b av) (ca : ae C n sc O O o bV) :
 au C n sc O O (.If t b o pos) (fun ρ => (f ρ).bind fun t => if t then av ρ else bV ρ) := by
 constructor
 intro A env P ow K ρ s fl ρ' hA he ho F hg
 refine ax (obE hg) fun t am hg => ?_
 refine wpAny_If (wpAny_mono (h.run A env P ow K ρ s t hA he ho F am) (fun r s₁ p => ?_) fun _ _ x => x)
 (refine n4 p fun q0 aq k₁ => ?_; clear p; subst q0)
 cases r with
 | true =>
  simp only [if_true] at hg ⊢
  exact wpAny_mono (cR.run A env P ow K ρ s₁ fl ρ' hA he ho aq hg) (fun f an p => p.after (fW.refl _ _) (bh.of k₁)) fun _ _ x => x
 | false =>
  simp only [Bool.false_eq_true, if_false] at hg ⊢
  exact wpAny_mono (ca.run A env P ow K ρ s₁ fl ρ' hA he ho aq hg) (fun f an p => p.after (fW.refl _ _) (bh.of k₁)) fun _ _ x => x
theorem au.augXor (h : ab C n sc e f) (hx : eI bf sc O x = true) (hc : (x == ("__classdict__" : Str)) = false) :
 au C n sc O O (.AugAssign (.Name x px) .BitXor e pos) (fun ρ => ((eD O ρ) x).bind fun a => (f (eD O ρ)).bind fun b => (kt GT a b).bind fun d => some (.next, upd ρ x d)) := by
 constructor
 intro A env P ow K ρ s fl ρ' hA he ho F hg
 refine ax (obE hg) fun a am hg => ?_
 refine ax (obE hg) fun b ar hg => ?_
 refine ax (obE hg) fun d bO hg => ?_
 (refine sP hg fun q0 q1 => ?_; clear hg; subst q0 q1)
 subst he
 refine Ea (cq hx) fun hx1 hx2 => ?_
 (refine fh (lX bO) fun i j c q0 q1 gz q2 => ?_; subst q0 q1 q2)
 cases gz
 have mK := am
 rw [<- ho] at mK
 refine ax (F.fe.vars x _ mK) fun u hu ru => ?_
 (refine Ex (aZ ru) fun t q0 => ?_; subst q0)
 refine wpAny_AugAssign_Name (ci F.fe.fn hu ?_ hc)
 refine wpAny_mono ((aM.of h).run A env P ow K ρ s _ hA rfl ho F ar) (fun v s₁ p => ?_) fun _ _ x => x
 (refine gD p fun ap av aq aB k₁ => ?_; clear p)
 (refine Ex (aZ aB) fun t' q0 => ?_; subst q0)
 refine ixor_int ?_
 refine (bG.store (s := { s₁ with toks := s₁.toks + 1 }) aq (d := .int (Builtin.bitXor i j)) d6 (by rw [ho]; exact hx1) hx2 fun h' tk F' l' _ => ?_)
 exact ⟨⟨ap, ow, fun _ => ho, fW.of av F.inP, F', rfl⟩, (bh.of k₁).trans (j2 h' tk rfl)⟩
noncomputable def rc : Expr -> Option Str
 | .Name x _ => some x
 | _ => none
def ey : List Expr -> Option (List Str)
 | [] => some []
 | e :: es => match rc e, ey es with
  | some x, some xs => some (x :: xs)
  | _, _ => none
def dI (ρ : af) : List Str -> List D -> Option af
 | [], [] => some ρ
 | x :: xs, d :: ds => dI (upd ρ x d) xs ds
 | _, _ => none
def iM (t : Expr) (d : D) (ρ : af) : Option af := match t with
 | .Name x _ => some (upd ρ x d)
 | .Tuple es _ _ => match ey es, d with
  | some xs, .tup ds => dI ρ xs ds
  | _, _ => none
 | _ => none
def kS (b : Str -> Bool) (sc : Scope) (O : List Str) (t : Expr) : Bool := match t with
 | .Name x _ => eI b sc O x
 | .Tuple es _ _ => match ey es with
  | some xs => xs.all (eI b sc O)
  | none => false
 | _ => false
def Rest (env : Env) (h h' : Heap) : Prop := ∀ a o, a ≠ env.locals -> (∀ x, env.cells.lookup x ≠ some a) -> h.get? a = some o -> h'.get? a = some o
theorem j3 {b : Str -> Bool} {P : KM} {env : Env} {ow : List (Str × Addr)} {K : KM} : ∀ {es : List Expr} {xs : List Str} {ds : List D} {vs : List Value} {ρ ρ' : af} {s : Shared} {Q : Unit -> Shared -> Prop},
 ey es = some xs -> xs.all (eI b env.scope (ay ow)) = true -> dI ρ xs ds = some ρ' -> ak K ds vs -> bG b C P env ow K ρ s.heap ->
 (∀ h' tk, bG b C P env ow K ρ' h' -> gx s.heap h' -> Rest env s.heap h' -> Q () { s with heap := h', toks := tk }) ->
 wpAny C.M A (assignInOrder ((assignEach es env).map (·.2)) vs) Q dq s
 | [], xs, ds, vs, ρ, ρ', s, Q, hn, ho, hu, hr, F, h => by
  simp only [ey, Option.some.injEq] at hn
  subst hn
  cases ds with
  | nil =>
   simp only [dI, Option.some.injEq] at hu; subst hu
   simp only [ak] at hr; subst hr
   exact wpAny_pure (h s.heap s.toks F (gx.refl _) fun _ _ _ _ e => e)
  | cons _ _ => exact dK hu
 | e :: es, xs, ds, vs, ρ, ρ', s, Q, hn, ho, hu, hr, F, h => by
  cases e <;> (first | exact dK hn | simp only [ey, rc] at hn)
  rename_i x px
  split at hn
  . rename_i x' xs' hx' kr
    (replace hx' := siE hx'; subst hx')
    (replace hn := siE hn; subst hn)
    cases ds with
    | nil => exact dK hu
    | cons d ds =>
     simp only [dI] at hu
     simp only [ak] at hr
     (refine bk hr fun v r q0 rv rr => ?_; clear hr; subst q0)
     simp only [List.all_cons, Bool.and_eq_true] at ho
     refine Ea (cq ho.1) fun h1 h2 => ?_
     show wpAny C.M A (do holding r (assign (.Name x px) env v); assignInOrder ((assignEach es env).map (·.2)) r) Q dq s
     refine wpAny_bind (wpAny_holding (wpAny_assign_Name (F.store rv h1 h2 fun h' tk F' l' k' => ?_)))
     refine j3 kr ho.2 hu rr F' fun h'' tk' F'' l'' k'' => ?_
     exact h h'' tk' F'' (l'.trans l'') fun a o p q e => k'' a o p q (k' a o p q e)
  . exact nS hn
structure lF (C : dd) (A : Around) (K : KM) (t : Expr) (I : Addr) (wr : List Addr) (ds : List D) (St : Nat -> Heap -> Prop) : Prop where
 self : ∀ i (s : Shared) (Q : Value -> Shared -> Prop), St i s.heap -> Q (.ref I) s -> wpAny C.M A (pyIter (.ref I)) Q dq s
 frame : ∀ i h h', St i h -> eV K h -> eV K h' -> (∀ b ∈ wr, ∀ o, h.get? b = some o -> h'.get? b = some o) -> St i h'
 alive : ∀ i h, St i h -> ∀ a ∈ wr, h.get? a ≠ none
 done : ∀ (s : Shared) (Q : Option Value -> Shared -> Prop), St ds.length s.heap -> (∀ h' tk, (∀ b o, b ∉ wr -> s.heap.get? b = some o -> h'.get? b = some o) -> Q none { s with heap := h', toks := tk }) -> wpAny C.M A (pyNext (.ref I)) Q dq s
 turn : ∀ (i : Nat) (d : D) (b : Str -> Bool) (P : KM) (env : Env) (ow : List (Str × Addr)) (K' : KM) (ρ ρ' : af) (s : Shared) (Q : Unit -> Shared -> Prop), ds[i]? = some d -> kJ K K' -> St i s.heap -> bG b C P env ow K' ρ s.heap ->
  (∀ a ∈ wr, a ≠ env.locals /\ (∀ x, env.cells.lookup x ≠ some a) /\ P a = none /\ K' a = none /\ ∀ p ∈ ow, p.2 ≠ a) -> kS b env.scope (ay ow) t = true -> iM t d ρ = some ρ' ->
  (∀ h' tk, St (i + 1) h' -> bG b C P env ow K' ρ' h' -> gx s.heap h' -> (∀ a o, a ∉ wr -> a ≠ env.locals -> (∀ x, env.cells.lookup x ≠ some a) -> s.heap.get? a = some o -> h'.get? a = some o) -> Q () { s with heap := h', toks := tk }) ->
  wpAny C.M A (pyNext (.ref I)) (fun r s₁ => ∃ v, r = some v /\ wpAny C.M A (letOwnedTupleGo t (.ref I) v) (fun _ an => wpAny C.M A (assign t env v) Q dq an) dq s₁) dq s
theorem bG.off (F : bG b C P env ow K ρ h)
 (hw : ∀ a ∈ wr, a ≠ env.locals /\ (∀ x, env.cells.lookup x ≠ some a) /\ P a = none /\ K a = none /\ ∀ p ∈ ow, p.2 ≠ a) (hk : ∀ b o, b ∉ wr -> h.get? b = some o -> h'.get? b = some o) : bG b C P env ow K ρ h' := by
 have hL : env.locals ∉ wr := fun m => (hw _ m).1 rfl
 have hc : ∀ x c, env.cells.lookup x = some c -> c ∉ wr := fun x c e m => (hw _ m).2.1 x e
 have hK : ∀ a o, K a = some o -> a ∉ wr := fun a o e m => by have := (hw _ m).2.2.2.1; rw [e] at this; exact sN this
 have hP : ∀ a o, P a = some o -> a ∉ wr := fun a o e m => by have := (hw _ m).2.2.1; rw [e] at this; exact sN this
 have hv : ∀ {y v}, dQ env h y v -> dQ env h' y v := by
  intro y v z
  cases z with
  | loc m a1 a2 a3 => exact .loc m a1 (a2.at' fun o e => hk _ o hL e) a3
  | cell c a1 a2 a3 => (refine ax a3 fun o ho hd => ?_; clear a3); exact .cell c a1 a2 (bC o (hk _ o (hc _ _ a2) ho) hd)
  | free c a1 a2 a3 => (refine ax a3 fun o ho hd => ?_; clear a3); exact .free c a1 a2 (bC o (hk _ o (hc _ _ a2) ho) hd)
 refine ⟨⟨F.fe.fn, F.fe.gl, F.fe.bl, fun a o e => hk _ _ (hK a o e) (F.fe.inH a o e), F.fe.base, ?_, fun x d e => ?_, fun x e => let ⟨c, h1, o, h2⟩ := F.fe.caps x e; ⟨c, h1, o, hk _ _ (hc _ _ h1) h2⟩, fun x c e => let ⟨o, h2⟩ := F.fe.cl x c e; ⟨o, hk _ _ (hc _ _ e) h2⟩⟩, fun a o e => hk _ _ (hP a o e) (F.inP a o e), F.lK, F.lP, fun x c e => ⟨(F.cel x c e).1, fun q => ?_⟩, F.apart, F.celAll, fun p hp => ?_, F.ownApart⟩
 . refine Ex F.fe.ns fun m hn => ?_; exact ⟨m, hn.at' fun o e => hk _ o hL e⟩
 . refine ax (F.fe.vars x d e) fun v a1 a2 => ?_; exact (bC v (hv a1) a2)
 . refine qg ((F.cel x c e).2 q) fun k p v o ho hd => ?_; exact (qk k p v o (hk _ o (hc x c e) ho) hd)
 . refine aJ (F.own p hp) fun ds vs n h1 h2 h3 h4 h5 h6 h7 h8 => ?_
   exact (bN ds vs n h1 (hv h2) (hk _ _ (fun m => (hw _ m).2.2.2.2 p hp rfl) h3) h4 h5 h6 h7 h8)
theorem vk (x : Str) (px : Pos) (it v : Value) : letOwnedTupleGo (.Name x px) it v = pure () := rfl
theorem lF.name {Pv : Nat -> Value -> Prop} {St : Nat -> Heap -> Prop} (W : Walks C.prog C.w A I fp wr n Pv St) (hn : n = ds.length)
 (hfp : ∀ b ∈ fp, b ∉ wr -> ∀ h, eV K h -> ∀ o, h.get? b = some o -> K b = some o) (hP : ∀ i v, Pv i v -> ∃ d, ds[i]? = some d /\ bJ K d v) (hal : ∀ i h, St i h -> ∀ a ∈ wr, h.get? a ≠ none) (hoff : ∀ a ∈ wr, K a = none) :
 lF C A K (.Name x px) I wr ds St where
 self := fun i s Q st hQ => W.self i s Q dq st hQ
 frame := fun i h h' st k k' hw => W.frame i h h' st fun b hb o e => by
  by_cases hm : b ∈ wr
  . exact hw b hm o e
  . exact k' b o (hfp b hb hm h k o e)
 alive := hal
 done := fun s Q st hQ => W.done s Q dq (hn ▸ st) hQ
 turn := fun i d b P env ow K' ρ ρ' s Q hd hK st F hw ht hb hQ => by
  have hi : i < n := by rw [hn]; exact (List.getElem?_eq_some_iff.mp hd).1
  refine W.item i s _ _ hi st fun v cR tk hv O1 k₁ => (bC v rfl ?_)
  rw [vk]
  refine wpAny_pure ?_
  refine ax (hP i v hv) fun d' e rv => ?_
  rw [hd] at e; (replace e := siE e; subst e)
  have aq := F.off hw k₁
  (delta kS at ht; dsimp only at ht)
  replace hb : upd _ _ _ = _ := siE hb
  subst hb
  refine Ea (cq ht) fun h1 h2 => ?_
  refine wpAny_assign_Name (bG.store (s := { s with heap := cR, toks := tk }) aq (rv.mono hK) h1 h2 fun h' tk' F' l' k' => ?_)
  have hkw : ∀ b ∈ wr, ∀ o, cR.get? b = some o -> h'.get? b = some o := fun a ha o e => k' a o (hw a ha).1 (hw a ha).2.1 e
  have st' : St (i + 1) h' := W.frame (i + 1) cR h' O1 fun b hb o e => by
   by_cases hm : b ∈ wr
   . exact hkw b hm o e
   . have kb := hfp b hb hm cR (fun a o e => aq.fe.inH a o (hK a o e)) o e
     exact F'.fe.inH b o (hK _ _ kb)
  refine hQ h' tk' st' F' (fun a e => ?_) fun a o ha hL hc e => k' a o hL hc (k₁ a o ha e)
  by_cases hm : a ∈ wr
  . exact hal _ _ st' a hm
  . cases q : s.heap.get? a with
    | none => exact absurd q e
    | some o => exact l' a (by rw [k₁ a o hm q]; exact Option.some_ne_none _)
theorem lF.names {Pt : Nat -> Array Value -> Prop} {St : Nat -> Heap -> Prop} {Mid : Nat -> Addr -> Heap -> Prop} 
 (W : WalksU C.prog C.w A I fp wr n Pt St Mid) (hn : n = ds.length) (hh : A.handled = none)
 (hfp : ∀ b ∈ fp, b ∉ wr -> ∀ h, eV K h -> ∀ o, h.get? b = some o -> K b = some o) (hP : ∀ i dx, Pt i dx -> ∃ es, ds[i]? = some (.tup es) /\ ak K es dx.toList) (hal : ∀ i h, St i h -> ∀ a ∈ wr, h.get? a ≠ none)
 (hoff : ∀ a ∈ wr, K a = none) : lF C A K (.Tuple es k pt) I wr ds St where
 self := fun i s Q st hQ => W.self i s Q dq st hQ
 frame := fun i h h' st k k' hw => W.frame i h h' st fun b hb o e => by
  by_cases hm : b ∈ wr
  . exact hw b hm o e
  . exact k' b o (hfp b hb hm h k o e)
 alive := hal
 done := fun s Q st hQ => W.done s Q dq (hn ▸ st) hQ
 turn := fun i d b P env ow K' ρ ρ' s Q hd hK st F hw ht hb hQ => by
  have hi : i < n := by rw [hn]; exact (List.getElem?_eq_some_iff.mp hd).1
  refine W.item i s _ _ hi st fun T dx cR tk hv hT hm k₁ => (bC _ rfl ?_)
  refine ax (hP i dx hv) fun es' e rv => ?_
  rw [hd] at e; cases e
  refine W.go es k pt i T _ _ _ hm fun ca O2 b7 => ?_
  have hTw : T ∉ wr := W.apart i T _ hm
  have bE := (F.off hw k₁).off hw b7
  have LL : ca.IsTuple T dx := by (refine ax hT fun o ho r => ?_; clear hT); exact (bC o (b7 T o hTw ho) r)
  (delta kS at ht; dsimp only at ht)
  (delta iM at hb; dsimp only at hb)
  split at hb
  . rename_i xs ds' kr hds
    cases hds
    rw [kr] at ht
    simp only at ht
    have df : ∀ {es : List Expr} {xs : List Str}, ey es = some xs -> es.length = xs.length /\ (assignEach es env).length = es.length /\ (assignEach es env).findIdx? (·.1) = none := by
     intro es
     induction es with
     | nil => intro xs h; simp only [ey, Option.some.injEq] at h; subst h; exact (h9 rfl rfl rfl)
     | cons e es ih =>
      intro xs h
      cases e <;> (first | exact dK h | simp only [ey, rc] at h)
      split at h
      . rename_i x' xs' hx' hxs'
        (replace h := siE h; subst h)
        refine n4 (ih hxs') fun a1 a2 a3 => ?_
        refine (h9 (by simp [a1]) ?_ ?_)
        . show (_ :: assignEach es env).length = _; simp [a2]
        . show (((false, _) : Bool × (Value -> Sem Unit)) :: assignEach es env).findIdx? (·.1) = none
          rw [List.findIdx?_cons]
          simp only [Bool.false_eq_true, if_false]
          rw [a3]; rfl
      . exact nS h
    have hul : ∀ {xs : List Str} {ds : List D} {ρ ρ' : af}, dI ρ xs ds = some ρ' -> xs.length = ds.length := by
     intro xs
     induction xs with
     | nil => intro ds ρ ρ' h; cases ds with
      | nil => rfl
      | cons _ _ => exact dK h
     | cons x xs ih => intro ds ρ ρ' h; cases ds with
      | nil => exact dK h
      | cons d ds => simp only [dI] at h; simp [ih h]
    refine n4 (df kr) fun l1 l2 l3 => ?_
    have l4 := hul hb
    have l5 := rv.length
    refine wpAny_assign_Tuple hh LL (by rw [l2, l1, l4, <- l5]; simp) l3 fun dU iR => ?_
    have dR : ∀ b o, ca.get? b = some o -> dU.get? b = some o := fun b o e => iR b o (fun q => by subst q; exact absurd (Heap.lt_size e) (Nat.lt_irrefl _)) e
    have ce := bE.keeps dR (bw.refl _ _) fun a o e => dR _ _ (bE.fe.inH a o e)
    refine j3 kr ht hb (rv.mono hK) ce fun h' tk' F' l' k' => ?_
    have hkw : ∀ b ∈ wr, ∀ o, ca.get? b = some o -> h'.get? b = some o := fun a ha o e => k' a o (hw a ha).1 (hw a ha).2.1 (dR a o e)
    have st' : St (i + 1) h' := W.frame (i + 1) ca h' O2 fun b hb o e => by
     by_cases hm : b ∈ wr
     . exact hkw b hm o e
     . have kb := hfp b hb hm ca (fun a o e => bE.fe.inH a o (hK a o e)) o e
       exact F'.fe.inH b o (hK _ _ kb)
    refine hQ h' tk' st' F' (fun a e => ?_) fun a o ha hL hc e => k' a o hL hc (dR a o (b7 a o ha (k₁ a o ha e)))
    by_cases hm : a ∈ wr
    . exact hal _ _ st' a hm
    . cases q : s.heap.get? a with
      | none => exact absurd q e
      | some o => exact l' a (by rw [dR a o (b7 a o hm (k₁ a o hm q))]; exact Option.some_ne_none _)
  . exact nS hb
noncomputable def fG (cells : List (Str × Addr)) : List (Str × NameKind) -> List (Str × Addr) -> List (Str × Addr)
 | [], acc => acc
 | (n, k) :: r, acc => if k == .free then fG cells r ((n, (cells.lookup n).getD 0) :: acc) else fG cells r acc
theorem mj {env : Env} (f : Str × NameKind -> List (Str × Addr) -> Sem (ForInStep (List (Str × Addr))))
 (hf : ∀ n k r, f (n, k) r = if k == .free then (do let a <- cellOf env n; pure (.yield ((n, a) :: r))) else pure (.yield r)) :
 ∀ (names : List (Str × NameKind)) (acc : List (Str × Addr)), (∀ p ∈ names, p.2 = .free -> (env.cells.lookup p.1).isSome = true) -> forIn names acc f = pure (fG env.cells names acc)
 | [], acc, _ => rfl
 | (n, k) :: r, acc, h => by
  rw [List.forIn_cons, hf]
  unfold fG
  split
  . rename_i hk
    refine Ex (Option.isSome_iff_exists.mp (h (n, k) List.mem_cons_self (by simpa using hk))) fun c hc => ?_
    have : cellOf env n = pure c := by unfold cellOf; rw [hc]
    rw [this, hc]
    exact mj f hf r _ fun p hp => h p (List.mem_cons_of_mem _ hp)
  . exact mj f hf r _ fun p hp => h p (List.mem_cons_of_mem _ hp)
theorem oM (h : ∀ p ∈ scope.names, p.2 = .free -> (env.cells.lookup p.1).isSome = true) : closureFor scope env = pure (fG env.cells scope.names []) := by
 have := mj (env := env) (fun (x : Str × NameKind) r => do if x.2 == .free then (do let a <- cellOf env x.1; pure (.yield ((x.1, a) :: r))) else pure (.yield r)) (fun _ _ _ => rfl) scope.names [] h
 unfold closureFor
 show (forIn scope.names [] _ >>= fun cs => pure cs) = _
 refine Eq.trans ?_ this
 show _ = forIn scope.names [] _
 have e : ∀ (m : Sem (List (Str × Addr))), (m >>= fun cs => pure cs) = m := fun m => bind_pure m
 rw [e]
theorem mi {cells : List (Str × Addr)} : ∀ {names : List (Str × NameKind)} {acc : List (Str × Addr)} {x : Str} {c : Addr}, (x, c) ∈ fG cells names acc -> (x, c) ∈ acc \/ ((x, .free) ∈ names /\ c = (cells.lookup x).getD 0)
 | [], _, _, _, h => .inl h
 | (n, k) :: r, acc, x, c, h => by
  unfold fG at h
  split at h
  . rename_i hk
    have hk : k = .free := by simpa using hk
    subst hk
    rcases mi h with h | ⟨h1, h2⟩
    . rcases List.mem_cons.mp h with e | h
      . cases e; exact .inr ⟨List.mem_cons_self, rfl⟩
      . exact .inl h
    . exact .inr ⟨List.mem_cons_of_mem _ h1, h2⟩
  . rcases mi h with h | ⟨h1, h2⟩
    . exact .inl h
    . exact .inr ⟨List.mem_cons_of_mem _ h1, h2⟩
theorem mh {cells : List (Str × Addr)} : ∀ {names : List (Str × NameKind)} {acc : List (Str × Addr)} {p : Str × Addr}, p ∈ acc -> p ∈ fG cells names acc
 | [], _, _, h => h
 | (n, k) :: r, acc, p, h => by
  unfold fG
  split
  . exact mh (List.mem_cons_of_mem _ h)
  . exact mh h
theorem p8 {cells : List (Str × Addr)} : ∀ {names : List (Str × NameKind)} {acc : List (Str × Addr)} {x : Str}, (x, NameKind.free) ∈ names -> (x, (cells.lookup x).getD 0) ∈ fG cells names acc
 | (n, k) :: r, acc, x, h => by
  unfold fG
  rcases List.mem_cons.mp h with e | h
  . cases e; exact mh List.mem_cons_self
  . split <;> exact p8 h
theorem da {α : Type} : ∀ {l : List (Str × α)} {n : Str} {c : α}, (n, c) ∈ l -> ∃ c', l.lookup n = some c'
 | (k, v) :: r, n, c, h => by
  rw [List.lookup_cons]
  cases hb : n == k with
  | true => exact ⟨v, rfl⟩
  | false =>
   rcases List.mem_cons.mp h with e | h
   . cases e; simp at hb
   . exact da h
theorem cb : ∀ (names : List (Str × NameKind)) (n : Nat) (acc : List (Str × Addr)), cellsFrom n names acc = cellsFrom n names [] ++ acc
 | [], _, _ => rfl
 | (x, k) :: r, n, acc => by
  unfold cellsFrom
  split
  . rw [cb r (n + 1) ((x, n) :: acc), cb r (n + 1) [(x, n)], List.append_assoc]; rfl
  . exact cb r n acc
theorem gm : ∀ {names : List (Str × NameKind)} {n : Nat} {x : Str} {c : Addr}, (x, c) ∈ cellsFrom n names [] -> (x, NameKind.cell) ∈ names
 | (y, k) :: r, n, x, c, h => by
  unfold cellsFrom at h
  split at h
  . rename_i hk
    have hk : k = .cell := by simpa using hk
    rw [cb] at h
    rcases List.mem_append.mp h with h | h
    . exact List.mem_cons_of_mem _ (gm h)
    . simp at h; (refine Ea h fun q0 _ => ?_; clear h; subst q0); rw [hk]; exact List.mem_cons_self
  . exact List.mem_cons_of_mem _ (gm h)
theorem d9 : ∀ {names : List (Str × NameKind)} {n : Nat} {x : Str}, (x, NameKind.cell) ∈ names -> ∃ c, (x, c) ∈ cellsFrom n names []
 | (y, k) :: r, n, x, h => by
  unfold cellsFrom
  rcases List.mem_cons.mp h with e | h
  . cases e
    rw [show (NameKind.cell == NameKind.cell) = true from rfl, if_pos rfl, cb]
    exact ⟨n, List.mem_append_right _ (by simp)⟩
  . split
    . rw [cb]
      refine Ex (d9 (n := n + 1) h) fun c hc => ?_
      exact ⟨c, List.mem_append_left _ hc⟩
    . exact d9 h
noncomputable def jo (scope sc : Scope) : Scope :=
 { scope with names := scope.names.map fun (n, k) => if (k == .free && sc.kind == .function && sc.names.lookup n == some .cell) then (n, .cell) else (n, k) }
theorem mY (scope sc : Scope) (x : Str) : (jo scope sc).names.lookup x = (scope.names.lookup x).map fun k => if (k == .free && sc.kind == .function && sc.names.lookup x == some .cell) then NameKind.cell else k := by
 unfold jo
 dsimp only
 induction scope.names with
 | nil => rfl
 | cons p r ih =>
  obtain ⟨n, k⟩ := p
  simp only [List.map_cons]
  by_cases hc : (k == NameKind.free && sc.kind == ScopeKind.function && sc.names.lookup n == some NameKind.cell) = true
  . rw [if_pos hc]
    simp only [List.lookup_cons]
    cases hx : x == n with
    | true =>
     have hxn : x = n := by simpa using hx
     subst hxn
     simp only [Option.map_some]
     rw [if_pos hc]
    | false => exact ih
  . rw [if_neg hc]
    simp only [List.lookup_cons]
    cases hx : x == n with
    | true =>
     have hxn : x = n := by simpa using hx
     subst hxn
     simp only [Option.map_some]
     rw [if_neg hc]
    | false => exact ih
noncomputable def ml (scope sc : Scope) : Bool := scope.names.all fun p => scope.names.lookup p.1 == some p.2 && (p.2 != .free || sc.names.lookup p.1 == some .cell || sc.names.lookup p.1 == some .free)
theorem iO (h : ml scope sc = true) {p : Str × NameKind} (hp : p ∈ scope.names) : scope.names.lookup p.1 = some p.2 := by
 have := List.all_eq_true.mp h p hp
 simp only [Bool.and_eq_true, beq_iff_eq] at this
 exact this.1
theorem fx (h : ml scope sc = true) (hp : (x, NameKind.free) ∈ scope.names) : sc.names.lookup x = some .cell \/ sc.names.lookup x = some .free := by
 have := List.all_eq_true.mp h (x, .free) hp
 simp only [Bool.and_eq_true, Bool.or_eq_true, beq_iff_eq, bne_self_eq_false, Bool.false_eq_true, false_or] at this
 exact this.2
noncomputable def qG (scope : Scope) (ρ : af) : af := fun x => if scope.names.lookup x == some .free then ρ x else none
noncomputable def oU (scope : Scope) : Str -> Bool := fun x => scope.names.lookup x == some .cell
structure gq (P K : KM) (env : Env) (dA : Addr) (ds : List D) (h : Heap) : Prop where
 ex : ∃ vs n, h.get? dA = some (aT vs n) /\ ak K ds vs
 kD : K dA = none
 pD : P dA = none
 loc : dA ≠ env.locals
 cel : ∀ x, env.cells.lookup x ≠ some dA
theorem tN {globals : Addr} {cl : List (Str × Addr)} {qual : Str} {Q : Env -> Shared -> Prop}
 (hQ : Q (newEnv scope s.heap.objs.size globals (cellsFrom (s.heap.objs.size + 1) scope.names cl) qual none .none (some env) builtinsNs)
  { s with heap := pushCells (s.heap.push { cls := .type "dict", data := .dict #[] }) scope.names }) :
 wpAny C.M A (newFunctionEnv scope globals cl [] qual none .none (some env)) Q E s := by
 simp only [newFunctionEnv, Option.isSome_some, if_true]
 refine wpAny_bind (wpAny_alloc ?_)
 refine wpAny_bind (wpAny_layCells _ (fun name kind cells => by cases hkc : kind == NameKind.cell <;> simp [hkc]) _ _ _ _ ?_)
 rw [show ({ s with heap := s.heap.push { cls := .type "dict", data := .dict #[] } } : Shared).heap.objs.size = s.heap.objs.size + 1 from Heap.size_push ..]
 exact wpAny_pure hQ
theorem x8 {RR : Value -> Env -> Shared -> Prop} (F : nq C env K ρ s.heap) (M6 : scope.kind = .function) (ck : ml scope env.scope = true)
 (h : ∀ cenv s' dA, cenv.scope = jo scope env.scope -> bG (oU scope) C (fun a => s.heap.get? a) cenv [] K (qG scope ρ) s'.heap -> gq (fun a => s.heap.get? a) K cenv dA [] s'.heap -> Kp s s' ->
  s.heap.get? cenv.locals = none -> (∀ x c, cenv.cells.lookup x = some c -> s.heap.get? c = none \/ ∃ y, (env.kindOf y = some .cell \/ env.kindOf y = some .free) /\ env.cells.lookup y = some c) -> RR (.ref dA) cenv s') :
 wpAny C.M A (newList []) (fun acc cX => wpAny C.M A (newFunctionEnv scope env.globals (fG env.cells scope.names []) [] env.qual none .none (some env)) (fun cenv cU => RR acc { cenv with scope := relabel scope env } cU) E cX) E s := by
 refine wpAny_newObj_type (tN ?_)
 dsimp only
 generalize hH2 : s.heap.push { cls := .type "list", dict := none, data := .seq ([] : List Value).toArray } = H2
 have h2 : H2.get? s.heap.objs.size = some (aT [] 0) := hH2 ▸ Heap.get?_push_size _ rfl
 have old2 : ∀ b o, s.heap.get? b = some o -> H2.get? b = some o := fun b o e => hH2 ▸ Heap.get?_push_of_some _ e
 have hL : H2.objs.size = s.heap.objs.size + 1 := by rw [<- hH2, Heap.size_push]
 generalize hH3 : H2.push { cls := .type "dict", data := .dict #[] } = H3
 have h3 : H3.Ns H2.objs.size (fun _ => none) := hH3 ▸ Heap.Ns.new H2 (.type "dict")
 have old3 : ∀ b o, H2.get? b = some o -> H3.get? b = some o := fun b o e => hH3 ▸ Heap.get?_push_of_some _ e
 have hL3 : H3.objs.size = H2.objs.size + 1 := by rw [<- hH3, Heap.size_push]
 have ok := cellsFrom_ok scope.names H3 (H2.objs.size + 1) [] ⟨fun _ _ hm => (nomatch hm), List.Pairwise.nil⟩ (by rw [hL3]; exact Nat.le_refl _)
 rw [hL3] at ok
 have old4 := pushCells_keeps scope.names H3
 generalize pushCells H3 scope.names = H4 at ok old4
 have fresh : ∀ a, s.heap.objs.size ≤ a -> s.heap.get? a = none := fun a ha => by
  cases e : s.heap.get? a with
  | none => rfl
  | some o' => exact absurd (Heap.lt_size e) (Nat.not_lt.mpr ha)
 have old : ∀ b o, s.heap.get? b = some o -> H4.get? b = some o := fun b o e => old4 _ _ (old3 _ _ (old2 _ _ e))
 have Kfresh : ∀ a, s.heap.objs.size ≤ a -> K a = none := fun a ha => by
  cases e : K a with
  | none => rfl
  | some o' => have := F.inH _ _ e; rw [fresh a ha] at this; exact nS this
 have caps : ∀ p ∈ scope.names, p.2 = .free -> (env.cells.lookup p.1).isSome = true := fun p hp hf => by
  obtain ⟨x, k⟩ := p
  cases hf
  refine ax (F.caps x (fx ck hp)) fun c e _ => ?_
  show (env.cells.lookup x).isSome = true
  rw [e]; rfl
 have capLt : ∀ x c, (fG env.cells scope.names []).lookup x = some c -> (x, NameKind.free) ∈ scope.names /\ env.cells.lookup x = some c := fun x c e => by
  rcases mi (mem_of_lookup e) with m | ⟨m, q⟩
  . cases m
  . refine ⟨m, ?_⟩
    refine Ex (Option.isSome_iff_exists.mp (caps _ m rfl)) fun c' hc' => ?_
    rw [q]
    rw [hc']; rfl
 have lk : ∀ x c, (cellsFrom (H2.objs.size + 1) scope.names (fG env.cells scope.names [])).lookup x = some c ->
  ((x, c) ∈ cellsFrom (H2.objs.size + 1) scope.names [] /\ (x, NameKind.cell) ∈ scope.names) \/ ((x, NameKind.free) ∈ scope.names /\ env.cells.lookup x = some c) := fun x c e => by
  rw [cb, List.lookup_append] at e
  cases q : (cellsFrom (H2.objs.size + 1) scope.names []).lookup x with
  | some c' => rw [q] at e; simp at e; subst e; exact .inl ⟨mem_of_lookup q, gm (mem_of_lookup q)⟩
  | none => rw [q] at e; simp at e; exact .inr (capLt x c e)
 have lkFree : ∀ x c, (x, NameKind.free) ∈ scope.names -> env.cells.lookup x = some c -> (cellsFrom (H2.objs.size + 1) scope.names (fG env.cells scope.names [])).lookup x = some c := fun x c m e => by
  rw [cb, List.lookup_append]
  have : (cellsFrom (H2.objs.size + 1) scope.names []).lookup x = none := by
   cases q : (cellsFrom (H2.objs.size + 1) scope.names []).lookup x with
   | none => rfl
   | some c' =>
    have m' := gm (mem_of_lookup q)
    have e1 := iO ck m
    have e2 := iO ck m'
    rw [e1] at e2; cases e2
  rw [this]
  refine Ex (da (p8 (cells := env.cells) (acc := []) m)) fun c' hc' => ?_
  rw [hc']
  have := (capLt x c' hc').2
  rw [e] at this; (replace this := siE this; subst this); rfl
 have oldCell : ∀ x c, env.cells.lookup x = some c -> (x, NameKind.free) ∈ scope.names -> @LT.lt Nat _ c s.heap.objs.size := fun x c e m => by
  refine Bw (F.caps x (fx ck m)) fun c' e' o ho => ?_
  rw [e] at e'; (replace e' := siE e'; subst e')
  exact Heap.lt_size ho
 have big : ∀ x c, (x, c) ∈ cellsFrom (H2.objs.size + 1) scope.names [] -> @LE.le Nat _ (H2.objs.size + 1) c := fun x c m => (ok.empty x c m).2
 have kd : ∀ x, (jo scope env.scope).names.lookup x = some .cell \/ (jo scope env.scope).names.lookup x = some .free -> (x, NameKind.cell) ∈ scope.names \/ (x, NameKind.free) ∈ scope.names := fun x e => by
  rw [mY] at e
  cases q : scope.names.lookup x with
  | none => rw [q] at e; simp at e
  | some k =>
   cases k with
   | cell => exact .inl (mem_of_lookup q)
   | free => exact .inr (mem_of_lookup q)
   | _ => rw [q] at e; simp at e
 refine h _ _ s.heap.objs.size rfl ⟨⟨M6, F.gl, F.bl, fun a o e => old _ _ (F.inH a o e), F.base, ⟨_, h3.keeps old4⟩, fun x d e => ?_, fun x e => ?_, fun x c e => ?_⟩, fun a o e => old a o e, Kfresh _ (by rw [hL]; exact Nat.le_succ _), fresh _ (by rw [hL]; exact Nat.le_succ _),
  fun x c e => ?_, fun x c y hb e1 e2 => ?_, fun x hb e => ?_, fun p hp => (nomatch hp), List.Pairwise.nil⟩ ⟨(kA ([]) 0 (old4 _ _ (old3 _ _ h2)) ak.nil), Kfresh _ (Nat.le_refl _), fresh _ (Nat.le_refl _), ?_, fun x e => ?_⟩ (Kp.of old) (fresh _ (by rw [hL]; exact Nat.le_succ _)) (fun x c e => ?_)
 . unfold eD at e
   simp only [ay, List.map_nil, List.contains_nil, Bool.false_eq_true, if_false] at e
   unfold qG at e
   split at e
   . rename_i hf
     have hf : scope.names.lookup x = some .free := by simpa using hf
     have hm := mem_of_lookup hf
     refine ax (F.vars x d e) fun v a1 a2 => ?_
     refine (bC v ?_ a2)
     have hko := fx ck hm
     have hkr : (jo scope env.scope).names.lookup x = some .cell \/ (jo scope env.scope).names.lookup x = some .free := by
      rw [mY, hf]
      simp only [Option.map_some]
      split
      . exact .inl rfl
      . exact .inr rfl
     have go : ∀ c, env.cells.lookup x = some c -> s.heap.IsCell c (some v) -> dQ { newEnv scope H2.objs.size env.globals (cellsFrom (H2.objs.size + 1) scope.names (fG env.cells scope.names [])) env.qual none .none (some env) builtinsNs with scope := relabel scope env } H4 x v := fun c hc hv => by
      have hl := lkFree x c hm hc
      rcases hkr with hk | hk
      . exact .cell c hk hl (hv.keeps old)
      . exact .free c hk hl (hv.keeps old)
     cases a1 with
     | loc m b1 b2 b3 =>
      exfalso
      have b1 : env.scope.names.lookup x = some .local := b1
      rw [b1] at hko
      rcases hko with q | q <;> cases q
     | cell c b1 b2 b3 => exact go c b2 b3
     | free c b1 b2 b3 => exact go c b2 b3
   . exact nS e
 . rcases kd x e with m | m
   . refine Ex (d9 (n := H2.objs.size + 1) m) fun c hc => ?_
     refine Ex (da hc) fun c' hc' => ?_
     refine ax ((ok.empty x c' (mem_of_lookup hc')).1) fun o ho _ => ?_
     refine (yL c' ?_ o ho)
     show (cellsFrom (H2.objs.size + 1) scope.names (fG env.cells scope.names [])).lookup x = some c'
     rw [cb, List.lookup_append, hc']; rfl
   . refine Bw (F.caps x (fx ck m)) fun c hc o ho => ?_
     exact (yL c (lkFree x c m hc) o (old _ _ ho))
 . rcases lk x c e with ⟨m1, m2⟩ | ⟨m1, m2⟩
   . refine ax ((ok.empty x c m1).1) fun o ho _ => ?_
     exact ⟨o, ho⟩
   . refine Ex (F.cl x c m2) fun o ho => ?_
     exact ⟨o, old _ _ ho⟩
 . rcases lk x c e with ⟨m1, m2⟩ | ⟨m1, m2⟩
   . have hb := big x c m1
     refine ⟨fun q => ?_, fun _ => (rD (Kfresh _ (Om.c1 hL hb)) (fresh _ (Om.c1 hL hb)) _ ((ok.empty x c m1).1))⟩
     have q : @Eq Nat c H2.objs.size := q
     exact Om.c2 hb q
   . have hb := oldCell x c m2 m1
     refine ⟨fun q => ?_, fun hb' => ?_⟩
     . have q : @Eq Nat c H2.objs.size := q
       exact Om.c3 hL hb q
     . unfold oU at hb'
       have e1 := iO ck m1
       have e1 : scope.names.lookup x = some .free := e1
       rw [e1] at hb'
       simp at hb'
 . unfold oU at hb
   have hb : scope.names.lookup x = some .cell := by simpa using hb
   have m1 : (x, c) ∈ cellsFrom (H2.objs.size + 1) scope.names [] := by
    rcases lk x c e1 with ⟨m1, _⟩ | ⟨m1, _⟩
    . exact m1
    . have := iO ck m1
      have this : scope.names.lookup x = some .free := this
      rw [hb] at this; cases this
   rcases lk y c e2 with ⟨m2, _⟩ | ⟨m2, m3⟩
   . exact name_of_addr ok.apart m2 m1
   . have h1 := big x c m1
     have h2 := oldCell y c m3 m2
     exact (Om.c4 hL h1 h2).elim
 . unfold oU at hb
   have hb : scope.names.lookup x = some .cell := by simpa using hb
   refine Ex (d9 (n := H2.objs.size + 1) (mem_of_lookup hb)) fun c hc => ?_
   refine Ex (da hc) fun c' hc' => ?_
   show ((cellsFrom (H2.objs.size + 1) scope.names (fG env.cells scope.names [])).lookup x).isSome = true
   rw [cb, List.lookup_append, hc']; rfl
 . intro q
   have q : @Eq Nat s.heap.objs.size H2.objs.size := q
   exact Om.c5 hL q
 . have q := e
   rcases lk x _ q with ⟨m1, _⟩ | ⟨m1, m2⟩
   . have := big x _ m1; exact Om.c6 hL this
   . have := oldCell x _ m2 m1; exact Nat.lt_irrefl _ this
 . rcases lk x c e with ⟨m1, m2⟩ | ⟨m1, m2⟩
   . exact .inl (fresh _ (by have := big x c m1; exact Om.c1 hL this))
   . exact .inr (bC x (fx ck m1) m2)
end
section
open PySem PySem.Calls PyProof.Rows
def dh : Expr -> List Str
 | .Name x _ => [x]
 | .Tuple es _ _ => (ey es).getD []
 | _ => []
def Sub (aV ρ : af) : Prop := ∀ x d, aV x = some d -> ρ x = some d
theorem Sub.refl (ρ : af) : Sub ρ ρ := fun _ _ e => e
theorem wN {d : D} (h : Sub aV ρ) (hx : aV x = none) : Sub aV (upd ρ x d) := fun y e q => by
 unfold upd
 by_cases hy : y = x
 . subst hy; rw [hx] at q; exact nS q
 . rw [if_neg hy]; exact h y e q
theorem uy {aV : af} : ∀ {xs : List Str} {ds : List D} {ρ ρ' : af}, dI ρ xs ds = some ρ' -> Sub aV ρ -> (∀ x ∈ xs, aV x = none) -> Sub aV ρ'
 | [], [], _, _, h, hs, _ => by simp only [dI, Option.some.injEq] at h; subst h; exact hs
 | [], _ :: _, _, _, h, _, _ => by exact dK h
 | _ :: _, [], _, _, h, _, _ => by exact dK h
 | x :: xs, d :: ds, ρ, ρ', h, hs, hx => uy (xs := xs) (ds := ds) (by simpa only [dI] using h) (wN hs (hx x List.mem_cons_self)) fun y hy => hx y (List.mem_cons_of_mem _ hy)
theorem wX {t : Expr} {d : D} (h : iM t d ρ = some ρ') (hs : Sub aV ρ) (hx : ∀ x ∈ dh t, aV x = none) : Sub aV ρ' := by
 cases t <;> (first | exact dK h | (delta iM at h; dsimp only at h))
 . (replace h := siE h; subst h)
   exact wN hs (hx _ (by simp [dh]))
 . split at h
   . rename_i xs ds e1
     exact uy h hs fun x hm => hx x (by simp only [dh, e1, Option.getD_some]; exact hm)
   . exact nS h
theorem eh {M : Model} {α : Type} {m : Sem α} {Q Q' : α -> Shared -> Prop} (h : wpAny M A m Q dq s) (hQ : ∀ v s', Q v s' -> Q' v s') : wpAny M A m Q' E s :=
 wpAny_mono h hQ fun _ _ x => False.elim x
section
variable {T : List Str}
theorem bG.weaken (F : bG b C P env [] K ρ h) (hs : Sub aV ρ) : bG b C P env [] K aV h :=
 ⟨⟨F.fe.fn, F.fe.gl, F.fe.bl, F.fe.inH, F.fe.base, F.fe.ns, fun x d e => F.fe.vars x d (by
  have r : ∀ ρ : af, eD (ay []) ρ = ρ := bb
  rw [r] at e ⊢; exact hs x d e), F.fe.caps, F.fe.cl⟩, F.inP, F.lK, F.lP, F.cel, F.apart, F.celAll, fun p hp => (nomatch hp), F.ownApart⟩
theorem bG.lessP (F : bG b C P env ow K ρ h) (hs : ∀ a o, P' a = some o -> P a = some o) : bG b C P' env ow K ρ h := by
 have nn : ∀ a, P a = none -> P' a = none := fun a e => by
  cases q : P' a with
  | none => rfl
  | some o => rw [hs a o q] at e; exact sN e
 refine ⟨F.fe, fun a o e => F.inP a o (hs a o e), F.lK, nn _ F.lP, fun x c e => ⟨(F.cel x c e).1, fun hb => ?_⟩, F.apart, F.celAll, fun p hp => ?_, F.ownApart⟩
 . refine n4 ((F.cel x c e).2 hb) fun k p v => ?_; exact (h9 k (nn _ p) v)
 . refine aJ (F.own p hp) fun ds vs n h1 h2 h3 h4 h5 h6 h7 h8 => ?_; exact (bN ds vs n h1 h2 h3 h4 h5 (nn _ h6) h7 h8)
noncomputable def fR (P : KM) (wr : List Addr) (h : Heap) : KM := fun a => if a ∈ wr then h.get? a else P a
theorem bG.moreP (F : bG b C P env [] K ρ h) (hw : ∀ a ∈ wr, a ≠ env.locals /\ (∀ x, env.cells.lookup x ≠ some a)) : bG b C (fR P wr h) env [] K ρ h := by
 refine ⟨F.fe, fun a o e => ?_, F.lK, ?_, fun x c e => ⟨(F.cel x c e).1, fun hb => ?_⟩, F.apart, F.celAll, fun p hp => (nomatch hp), F.ownApart⟩
 . unfold fR at e; split at e
   . exact e
   . exact F.inP a o e
 . unfold fR; rw [if_neg fun m => (hw _ m).1 rfl]; exact F.lP
 . refine n4 ((F.cel x c e).2 hb) fun k p v => ?_
   refine (h9 k ?_ v)
   unfold fR; rw [if_neg fun m => (hw _ m).2 x e]; exact p
theorem gq.keeps {zs : List D} (x : gq P K env dA zs h) (hk : ∀ o, h.get? dA = some o -> h'.get? dA = some o) (g : bw K h K') : gq P K' env dA zs h' := by
 obtain ⟨⟨vs, n, e, r⟩, h1, h2, h3, h4⟩ := x
 refine ⟨(kA vs n (hk _ e) (r.mono g.1)), ?_, h2, h3, h4⟩
 cases q : K' dA with
 | none => rfl
 | some o =>
  rcases g.2 _ _ q with r | r
  . rw [h1] at r; exact nS r
  . rw [e] at r; exact sN r
theorem gq.chP {zs : List D} (x : gq P K env dA zs h) (hp : P' dA = none) : gq P' K env dA zs h := ⟨x.ex, x.kD, hp, x.loc, x.cel⟩
structure b9 (C : dd) (n : Nat) (sc : Scope) (ifs : List Expr) (f : af -> Option Bool) : Prop where
 run : ∀ (A : Around) (env : Env) (K : KM) (ρ : af) (s : Shared) (t : Bool), dg n A -> env.scope = sc -> nq C env K ρ s.heap -> f ρ = some t ->
  wpAny C.M A (forIn ifs true fun c r => if r = true then do let ok <- isTrue c env (eval c env); pure (ForInStep.yield ok) else pure (ForInStep.yield r)) (fun r s' => r = t /\ Kp s s') dq s
theorem b9.nil : b9 C n sc [] (fun _ => some true) := by
 constructor
 intro A env K ρ s t _ _ _ hf; (replace hf := siE hf; subst hf); exact wpAny_tests_nil ⟨rfl, Kp.refl _⟩
theorem b9.one {f : af -> Option Bool} (h : bj C n sc e f) : b9 C n sc [e] f := by
 constructor
 intro A env K ρ s t hA he F hf
 exact wpAny_tests_one (h.run A env K ρ s t hA he F hf)
def lB (C : dd) (n : Nat) (b : Str -> Bool) (sc : Scope) (T : List Str) (em : Addr -> Env -> Sem Unit) (g : af -> Option (List D)) : Prop :=
 ∀ (A : Around) (env : Env) (P K : KM) (ρ aV : af) (s : Shared) (dA : Addr) (zs ds : List D), dg n A -> env.scope = sc -> bG b C P env [] K ρ s.heap -> gq P K env dA zs s.heap -> Sub aV ρ -> (∀ x ∈ T, aV x = none) ->
  g ρ = some ds -> zs.length + ds.length ≤ sizeLine ->
  wpAny C.M A (em dA env) (fun _ s' => ∃ K', bw K s.heap K' /\ bG b C P env [] K' aV s'.heap /\ gq P K' env dA (zs ++ ds) s'.heap /\ Sh s s') dq s
def ip (t : Expr) (test : af -> Option Bool) (g : af -> Option (List D)) (aV : af) : List D -> Option (List D)
 | [] => some []
 | d :: ds => (iM t d aV).bind fun ρ => (test ρ).bind fun b => (if b then g ρ else some []).bind fun x => (ip t test g aV ds).map (x ++ ·)
theorem lB.elt (h : ab C n sc e f) : lB C n b sc T (fun dA env => do let _ <- call (.builtin "list.append") [.ref dA, <- eval e env]) (fun ρ => (f ρ).map ([·])) := by
 intro A env P K ρ aV s dA zs ds hA he F ha hs hT hg hsz
 (refine ax (omE hg) fun d am q0 => ?_; subst q0)
 have fe := F.fe
 rw [show ay ([] : List (Str × Addr)) = [] from rfl, bb] at fe
 refine wpAny_bind (wpAny_mono (h.run A env K ρ s d hA he fe am) (fun v s₁ p => ?_) fun _ _ x => x)
 obtain ⟨⟨ap, av, aA, aB⟩, k₁⟩ := p
 have aq := F.keeps k₁.get av aA
 have LU := ha.keeps (fun o e => k₁.get _ _ e) av
 obtain ⟨⟨vs, m, ar, ek⟩, h1, h2, h3, h4⟩ := LU
 refine wpAny_bind (wpAny_list_append_plain (items := vs.toArray) ⟨m, ar⟩ (fun h' hl' hs' => wpAny_pure ?_) (by have := ek.length; simp only [List.size_toArray]; simp only [List.length_cons, List.length_nil] at hsz; lia))
 have k' : ∀ c o, c ∉ [dA] -> s₁.heap.get? c = some o -> h'.get? c = some o := fun c o hc e => (hs'.2 c (by simpa using hc)).trans e
 refine (jt ap av (((aq.off (wr := [dA]) (fun a ha => ?_) k').weaken hs)) ⟨?_, h1, h2, h3, h4⟩ ?_)
 . have : a = dA := by simpa using ha
   subst this
   exact (jJ h3 h4 h2 h1 (fun p hp => (nomatch hp)))
 . (refine Ex hl' fun m' bO => ?_; clear hl')
   exact (kA (vs ++ [v]) m' (by rw [bO]; simp [aT]) (ek.append (ak.one aB)))
 . refine Sh.trans (Sh.of k₁) ⟨(j2 h' s₁.toks rfl), fun a e => ?_⟩
   by_cases q : a = dA
   . subst q; (refine Ex hl' fun m' bO => ?_; clear hl'); show h'.get? a ≠ none; rw [bO]; exact Option.some_ne_none _
   . show h'.get? a ≠ none; rw [hs'.2 a q]; exact e
inductive Iv (b : Str -> Bool) (C : dd) (P : KM) (env : Env) (dA : Addr) (ap : KM) (aV : af) (mC : Shared) (St : Nat -> Heap -> Prop) (rest : Nat -> List D -> Prop) (n : Nat) (all : List D) (k : Nat) (s : Shared) : Prop
 | mk (i : Nat) (K : KM) (zs out : List D) (hk : k = n + 1 - i) (hi : i ≤ n) (gK : bw ap mC.heap K) (F : bG b C P env [] K aV s.heap) (ha : gq P K env dA zs s.heap) (st : St i s.heap) (sh : Sh mC s) (hr : rest i out) (hzs : zs ++ out = all)
theorem pe {A : Around} {R : Result -> Shared -> Prop} {c : Code} {t : Expr} {ipos : Pos} {ifs : List Expr} {em : Addr -> Env -> Sem Unit} {env : Env} {I dA : Addr} {wr : List Addr} {St : Nat -> Heap -> Prop} {rF : KM} {ds : List D}
 {test : af -> Option Bool} {g : af -> Option (List D)} (hq : c.quiet = true) (hu : A.under c = A)
 (GY : C.M.den c = (do
  standAt ipos
  match <- pyNext (.ref I) with
  | none => pure (PySem.Fin.done .next)
  | some v =>
   letOwnedTupleGo t (.ref I) v
   assign t env v
   let ok <- forIn ifs true fun c r => if r = true then do let ok <- isTrue c env (eval c env); pure (ForInStep.yield ok) else pure (ForInStep.yield r)
   if ok = true then (do em dA env; again c) else again c).onRaise (fun x => do noteFrame x env; theTreesLotGoes x))
 (FD : lF C A rF t I wr ds St) (qT : b9 C n sc ifs test) (hem : lB C n b sc T em g) (hA : dg n A) (he : env.scope = sc) (ht : kS b sc [] t = true) (htT : ∀ x ∈ dh t, x ∈ T)
 {P : KM} {aV : af} (hT : ∀ x ∈ T, aV x = none) {qd mx : List D} {ap : KM} {mC : Shared} (hf : ip t test g aV ds = some mx) (hsz : qd.length + mx.length ≤ sizeLine)
 (tr : kJ rF ap) (Gf : bG b C P env [] ap aV mC.heap) (LS : gq P ap env dA qd mC.heap) (DP : St 0 mC.heap)
 (Mn : ∀ a ∈ wr, a ≠ env.locals /\ (∀ x, env.cells.lookup x ≠ some a) /\ P a = none /\ ap a = none /\ a ≠ dA)
 (hR : ∀ s' K', bw ap mC.heap K' -> bG b C P env [] K' aV s'.heap -> gq P K' env dA (qd ++ mx) s'.heap -> (∃ h t, s' = { mC with heap := h, toks := t }) -> (∀ a, mC.heap.get? a ≠ none -> a ∉ wr -> s'.heap.get? a ≠ none) -> R (.ok .next) s') : codeAny C.M A c R mC := by
 refine codeAny_loop hq (Iv b C P env dA ap aV mC St (fun i out => ip t test g aV (ds.drop i) = some out) ds.length (qd ++ mx))
  ?_ (ds.length + 1) ⟨0, ap, qd, mx, rfl, Nat.zero_le _, bw.refl _ _, Gf, LS, DP, Sh.refl _, hf, rfl⟩
 rintro k s ⟨i, K, zs, out, rfl, hi, gK, F, ha, st, sh, ld, hzs⟩
 rw [GY, hu]
 have fe := F.fe
 have hw : ∀ a ∈ wr, a ≠ env.locals /\ (∀ x, env.cells.lookup x ≠ some a) /\ P a = none /\ K a = none /\ a ≠ dA := fun a ha => by
  refine vG (Mn a ha) fun h1 h2 h3 h4 h5 => ?_
  refine (jJ h1 h2 h3 ?_ h5)
  cases q : K a with
  | none => rfl
  | some o =>
   rcases gK.2 a o q with r | r
   . rw [h4] at r; exact nS r
   . exact absurd r (FD.alive 0 _ DP a ha)
 refine wpAny_noted (wpAny_bind (wpAny_standAt (wpAny_bind ?_)))
 by_cases hlt : i < ds.length
 . have hd : ds[i]? = some ds[i] := List.getElem?_eq_getElem hlt
   have tt : ds.drop i = ds[i] :: ds.drop (i + 1) := List.drop_eq_getElem_cons hlt
   rw [tt] at ld
   simp only [ip] at ld
   refine ax (obE ld) fun ρ₁ e1 ld => ?_
   refine ax (obE ld) fun tb e2 ld => ?_
   refine ax (obE ld) fun xs e3 ld => ?_
   (refine ax (omE ld) fun rest e4 q0 => ?_; subst q0)
   have Du : Sub aV ρ₁ := wX e1 (Sub.refl _) fun x hx => hT x (htT x hx)
   refine eh (FD.turn i ds[i] b P env [] K aV ρ₁ s (fun _ an => ∃ h' tk, an = { s with heap := h', toks := tk } /\ St (i + 1) h' /\ bG b C P env [] K ρ₁ h' /\ gx s.heap h' /\
    (∀ a o, a ∉ wr -> a ≠ env.locals -> (∀ x, env.cells.lookup x ≠ some a) -> s.heap.get? a = some o -> h'.get? a = some o)) hd (tr.trans gK.1) st F
    (fun a ha => (jJ ((hw a ha).1) ((hw a ha).2.1) ((hw a ha).2.2.1) ((hw a ha).2.2.2.1) (fun p hp => (nomatch hp)))) (he ▸ ht) e1 fun h' tk st' F' l' k' => ⟨h', tk, rfl, st', F', l', k'⟩) (fun r s₁ cR => ?_)
   obtain ⟨v, rfl, cR⟩ := cR
   refine wpAny_bind (eh cR (fun _ an ca => wpAny_bind (eh ca (fun _ cX dU => ?_))))
   (refine Bx dU fun h' tk q0 st' F' l' k' => ?_; clear dU; subst q0)
   have ha' : gq P K env dA zs h' := ha.keeps (fun o e => k' _ o (fun m => (hw _ m).2.2.2.2 rfl) ha.loc ha.cel e) (bw.refl _ _)
   have fe' := F'.fe
   rw [show ay ([] : List (Str × Addr)) = [] from rfl, bb] at fe'
   refine wpAny_bind (eh (qT.run A env K ρ₁ { s with heap := h', toks := tk } tb hA he fe' e2) (fun ok cU ib => ?_))
   (refine Ea ib fun q0 eY => ?_; clear ib; subst q0)
   have gw := F'.keeps eY.get (bw.refl K _) fun a o e => eY.get _ _ (fe'.inH a o e)
   have mQ := ha'.keeps (fun o e => eY.get _ _ e) (bw.refl K _)
   have ul : St (i + 1) cU.heap := FD.frame _ _ _ st' (fun a o e => fe'.inH a o ((tr.trans gK.1) a o e)) (fun a o e => eY.get _ _ (fe'.inH a o ((tr.trans gK.1) a o e))) fun a _ o e => eY.get _ _ e
   have B0 : Sh s cU := Sh.trans (s' := { s with heap := h', toks := tk }) ⟨(j2 h' tk rfl), l'⟩ (Sh.of eY)
   cases ok with
   | false =>
    simp only [Bool.false_eq_true, if_false] at e3 ⊢
    (replace e3 := siE e3; subst e3)
    exact wpAny_pure ⟨rfl, _, by with_reducible exact Om.tn ‹_›, i + 1, K, zs, rest, rfl, hlt, gK, gw.weaken Du, mQ, ul, sh.trans B0, e4, by simpa using hzs⟩
   | true =>
    simp only [if_true] at e3 ⊢
    have df : zs.length + xs.length ≤ sizeLine := by
     have : (zs ++ (xs ++ rest)).length = (qd ++ mx).length := by rw [hzs]
     simp only [List.length_append] at this
     lia
    have yI := gw.moreP (wr := wr) fun a ha => ⟨(hw a ha).1, (hw a ha).2.1⟩
    have v1 : gq (fR P wr cU.heap) K env dA zs cU.heap := mQ.chP (by unfold fR; rw [if_neg fun m => (hw _ m).2.2.2.2 rfl]; exact mQ.pD)
    refine wpAny_bind (eh (hem A env (fR P wr cU.heap) K ρ₁ aV cU dA zs xs hA he yI v1 Du hT e3 df) (fun _ B8 n7 => wpAny_pure ⟨rfl, ?_⟩))
    (refine gD n7 fun nw GW jD LW NU => ?_; clear n7)
    have LI : bw ap mC.heap nw := Grw.trans gK (sh.trans B0).live GW
    refine ⟨_, by with_reducible exact Om.tn ‹_›, i + 1, nw, zs ++ xs, rest, rfl, hlt, LI, ?_, LW.chP ha.pD, ?_, (sh.trans B0).trans NU, e4, by simpa using hzs⟩
    . refine jD.lessP fun a o e => ?_
      unfold fR
      rw [if_neg fun m => by have := (hw a m).2.2.1; rw [e] at this; exact sN this]
      exact e
    . have LC := jD.fe
      refine FD.frame _ _ _ ul (fun a o e => gw.fe.inH a o ((tr.trans gK.1) a o e)) (fun a o e => LC.inH a o (GW.1 _ _ ((tr.trans gK.1) a o e))) fun a hm o e => jD.inP a o ?_
      unfold fR
      rw [if_pos hm]; exact e
 . have hin : i = ds.length := by with_reducible exact Om.nf ‹_› ‹_›
   subst hin
   refine eh (FD.done s (fun r s' => r = none /\ ∃ h' tk, s' = { s with heap := h', toks := tk } /\ ∀ b o, b ∉ wr -> s.heap.get? b = some o -> h'.get? b = some o) st fun h' tk k' => (yK rfl h' tk rfl k')) (fun r s' hr => ?_)
   (refine rB hr fun q0 h' tk q1 k' => ?_; clear hr; subst q0 q1)
   refine wpAny_pure ?_
   simp only [List.drop_length, ip, Option.some.injEq] at ld
   subst ld
   rw [List.append_nil] at hzs
   subst hzs
   refine hR _ K gK (F.off (fun a ha => (jJ ((hw a ha).1) ((hw a ha).2.1) ((hw a ha).2.2.1) ((hw a ha).2.2.2.1) (fun p hp => (nomatch hp)))) k') (ha.keeps (fun o e => k' _ o (fun m => (hw _ m).2.2.2.2 rfl) e) (bw.refl _ _)) ?_ fun a e hm => ?_
   . obtain ⟨⟨cR, kG, rfl⟩, _⟩ := sh; exact (j2 h' tk rfl)
   . have := sh.live a e
     cases q : s.heap.get? a with
     | none => exact absurd q this
     | some o => show h'.get? a ≠ none; rw [k' a o hm q]; exact Option.some_ne_none _
end
end
section
open PySem PySem.Calls PyProof.Rows
def aw (C : dd) (x : Str) (v : Value) : Prop := C.mg x = some v \/ (C.mg x = none /\ C.mb x = some v)
structure bg (C : dd) (f : Value) : Prop where
 step : ∀ {A : Around} {E : Value -> Shared -> Prop} {s : Shared} {env : Env} {pos : Pos} {e : Expr} {rest : List Expr} {Q : Value -> Shared -> Prop},
  wpAny C.M A (spliced (backTo pos (starEach (e :: rest) env))) (fun vs s₁ => (∀ b o, C.h₀.get? b = some o -> s₁.heap.get? b = some o) /\ wpAny C.M A (call f vs) Q E s₁) E s ->
  starEach (e :: rest) env = (false, eval e env) :: starEach rest env -> (backTo pos (starEach rest env)).any (·.1) = false ->
  wpAny C.M A (callWith pos f [] (backTo pos (starEach (e :: rest) env)) []) Q E s
theorem bg.builtin {C : dd} (id : String) : bg C (.builtin id) := ⟨fun h he hp => callWith_builtin1 (wpAny_mono h (fun _ _ x => x.2) fun _ _ x => x) he hp⟩
theorem bg.type {C : dd} (T : String) : bg C (.type T) := ⟨fun {A E s env pos e rest Q} h he hp => by
 rw [he] at h ⊢
 exact PySem.callWith_type (by show (false || (backTo pos (starEach rest env)).any (·.1)) = false; rw [hp]; rfl) (evalArgs_plain (wpAny_mono h (fun _ _ x => x.2) fun _ _ x => x))⟩
theorem bg.func {C : dd} {f : Addr} (ho : C.h₀.get? f = some o) (hd : o.data = .func fd) : bg C (.ref f) :=
 ⟨fun h he _ => callWith_def hd (wpAny_mono h (fun _ _ x => ⟨x.1 _ _ ho, x.2⟩) fun _ _ x => x) he⟩
def ga (C : dd) (n : Nat) (f : Value) (G : List D -> Option D) : Prop :=
 ∀ (A : Around) (K : KM) (s : Shared) (ds : List D) (vs : List Value) (d : D), dg n A -> eV K s.heap -> (∀ a o, C.h₀.get? a = some o -> K a = some o) -> ak K ds vs -> G ds = some d ->
  wpAny C.M A (call f vs) (dS K s d) dq s
section
variable {T : List Str}
theorem bx {Q : Value -> Shared -> Prop} (ok : C.Ok) (F : nq C env K ρ s.heap)
 (hk : env.scope.names.lookup x = some .globalImplicit) (hg : aw C x v) (hd : (x == ("__debug__" : Str)) = false) (h : Q v s) : wpAny C.M A (eval (.Name x p) env) Q E s := by
 refine Name_function_global F.fn hk ?_ hd
 have hG : s.heap.Ns env.globals C.mg := by rw [F.gl]; exact ok.g.keeps F.h₀
 have hB : s.heap.Ns env.builtins C.mb := by rw [F.bl]; exact ok.b.keeps F.h₀
 rcases hg with e | ⟨e1, e2⟩
 . exact loadGlobal_global hG e h
 . exact loadGlobal_builtin hG e1 hB e2 h
theorem hM {f : Value} {Q : Value -> Shared -> Prop} (ok : C.Ok)
 (hk : sc.names.lookup x = some .globalImplicit) (hg : aw C x f) (hw : bg C f) (h : aa C n sc pos (e :: rest) fl) (hA : dg n A) (he : env.scope = sc) (F : nq C env K ρ s.heap) (hf : fl ρ = some ds)
 (h1 : ∀ env, starEach (e :: rest) env = (false, eval e env) :: starEach rest env) (h2 : ∀ env, (backTo pos (starEach rest env)).any (·.1) = false) (hd : (x == ("__debug__" : Str)) = false)
 (hQ : ∀ vs ap s₁, bw K s.heap ap -> eV ap s₁.heap -> ak ap ds vs -> Kp s s₁ -> nq C env ap ρ s₁.heap -> wpAny C.M A (call f vs) Q dq s₁) : wpAny C.M A (eval (.Call (.Name x p) (e :: rest) [] pos) env) Q dq s := by
 refine Call_ (bx ok F (he ▸ hk) hg hd (hw.step (wpAny_mono (h.run A env K ρ s ds hA he F hf) (fun vs s₁ q => ?_) fun _ _ x => x) (h1 env) (h2 env)))
 (refine Ea q fun q0 k₁ => ?_; clear q; obtain ⟨ap, av, aA, aB⟩ := q0)
 have aq := F.keeps k₁.get av.1 aA
 exact ⟨aq.h₀, hQ vs ap s₁ av aA aB k₁ aq⟩
theorem ab.call {f : Value} {G : List D -> Option D} (ok : C.Ok) (hg : aw C x f) (hw : bg C f) (hc : ga C n f G)
 (h : aa C n sc pos (e :: rest) fl) (hk : autoParam (sc.names.lookup x = some .globalImplicit) aK)
 (h1 : autoParam (∀ env, starEach (e :: rest) env = (false, eval e env) :: starEach rest env) aR) (h2 : autoParam (∀ env, (backTo pos (starEach rest env)).any (·.1) = false) aR) (hd : autoParam ((x == ("__debug__" : Str)) = false) aD) :
 ab C n sc (.Call (.Name x p) (e :: rest) [] pos) (fun ρ => (fl ρ).bind G) := by
 constructor
 intro A env K ρ s d hA he F hf
 refine ax (obE hf) fun ds am ar => ?_
 refine hM ok hk hg hw h hA he F am h1 h2 hd fun vs ap s₁ av aA aB k₁ aq => ?_
 exact wpAny_mono (hc A ap s₁ ds vs d hA aA aq.base aB ar) (fun v an p => .after av k₁ p) fun _ _ x => x
theorem uz {prog : Program} {n : Nat} {P : Nat -> Value -> Prop} {St : Nat -> Heap -> Prop} (W : Walks prog w A I fp wr n P St) : Walks prog w A I fp wr n (fun i v => i < n /\ P i v) St where
 sub := W.sub
 frame := W.frame
 item := fun i s Q E hi st hQ => W.item i s Q E hi st fun v h' tk hP => hQ v h' tk ⟨hi, hP⟩
 done := W.done
 self := W.self
def Gj (C : dd) (A : Around) (t : Expr) (K : KM) (s : Shared) (ds : List D) (it : Value) (an : Shared) : Prop :=
 ∃ K' I wr St, it = .ref I /\ lF C A K' t I wr ds St /\ St 0 an.heap /\ bw K s.heap K' /\ eV K' an.heap /\ Kp s an /\ ∀ a ∈ wr, s.heap.get? a = none /\ K' a = none
structure bc (C : dd) (n : Nat) (sc : Scope) (iter t : Expr) (f : af -> Option (List D)) : Prop where
 run : ∀ (A : Around) (env : Env) (K : KM) (ρ : af) (s : Shared) (ds : List D), dg n A -> env.scope = sc -> nq C env K ρ s.heap -> f ρ = some ds ->
  wpAny C.M A (eval iter env) (fun xv s₁ => wpAny C.M A (pyIter xv) (fun it an => Gj C A t K s ds it an) dq s₁) dq s
noncomputable def eO : D -> Option (List D)
 | .list xs => some xs
 | .tup xs => some xs
 | .str l => some (l.map fun c => .str [c])
 | _ => none
noncomputable def isTup : D -> Bool
 | .tup _ => true
 | _ => false
def me : D -> Option (List D)
 | .list xs => if xs.all isTup then some xs else none
 | _ => none
theorem aX (hi : eV K h) (e : h.get? a = none) : K a = none := by
 cases q : K a with
 | none => rfl
 | some o => rw [hi _ _ q] at e; exact sN e
theorem bc.name {iter : Expr} (h : ab C n sc iter f) : bc C n sc iter (.Name x px) (fun ρ => (f ρ).bind eO) := by
 constructor
 intro A env K ρ s ds hA he F hf
 refine ax (obE hf) fun d am ar => ?_
 refine wpAny_mono (h.run A env K ρ s d hA he F am) (fun v s₁ p => ?_) fun _ _ x => x
 obtain ⟨⟨ap, av, aA, aB⟩, k₁⟩ := p
 have hsz := bt s₁.heap
 have hfr : s.heap.get? s₁.heap.objs.size = none := fN k₁.get hsz
 have push : ∀ o' b o, s₁.heap.get? b = some o -> (s₁.heap.push o').get? b = some o := fun _ _ _ e => Heap.get?_push_of_some _ e
 cases d <;> (first | exact dK ar | (delta eO at ar; dsimp only at ar))
 . rename_i l
   (replace ar := siE ar; subst ar)
   (refine Ex (cJ aB) fun t q0 => ?_; subst q0)
   cases ha : (S l).cps.all (· < 128)
   . refine wpAny_pyIter_wide ha ?_
     refine (dY ap _ _ _ rfl (lF.name (Walks.strWide hA.1 s₁.heap.objs.size (S l) t) (by simp) (fun b hb hb' => absurd hb hb') (fun i v hv => ?_) (fun i h st a ha => ?_) (fun a ha => ?_)) (cF _ (Heap.get?_push_size _ rfl) rfl rfl) av (fun a o e => push _ _ _ (aA a o e)) (k₁.trans (Kp.push _ _)) (fun a ha => ?_))
     . (refine nk hv fun c u hc q0 => ?_; clear hv; subst q0)
       have hc : l[i]? = some c := by simpa using hc
       exact (bC (.str [c]) (by simp [hc]) iu)
     . have ha : a = s₁.heap.objs.size := by simpa using ha
       subst ha; (refine ax st fun o ho _ => ?_; clear st); rw [ho]; exact Option.some_ne_none _
     . have ha : a = s₁.heap.objs.size := by simpa using ha
       subst ha; exact aX aA hsz
     . have ha : a = s₁.heap.objs.size := by simpa using ha
       subst ha; exact ⟨hfr, aX aA hsz⟩
   . refine wpAny_pyIter_ascii ha ?_
     refine (dY ap _ _ _ rfl (lF.name (Walks.strAscii hA.1 s₁.heap.objs.size (S l) t) (by simp) (fun b hb hb' => absurd hb hb') (fun i v hv => ?_) (fun i h st a ha => ?_) (fun a ha => ?_)) (cF _ (Heap.get?_push_size _ rfl) rfl rfl) av (fun a o e => push _ _ _ (aA a o e)) (k₁.trans (Kp.push _ _)) (fun a ha => ?_))
     . (refine nk hv fun c u hc q0 => ?_; clear hv; subst q0)
       have hc : l[i]? = some c := by simpa using hc
       exact (bC (.str [c]) (by simp [hc]) iu)
     . have ha : a = s₁.heap.objs.size := by simpa using ha
       subst ha; (refine ax st fun o ho _ => ?_; clear st); rw [ho]; exact Option.some_ne_none _
     . have ha : a = s₁.heap.objs.size := by simpa using ha
       subst ha; exact aX aA hsz
     . have ha : a = s₁.heap.objs.size := by simpa using ha
       subst ha; exact ⟨hfr, aX aA hsz⟩
 . rename_i xs
   (replace ar := siE ar; subst ar)
   (refine bv (bu aB) fun a vs k q0 e r => ?_; subst q0)
   have hl := cn aA e
   have hne : a ≠ s₁.heap.objs.size := fun q => by rw [q] at e; have := aA _ _ e; rw [hsz] at this; exact nS this
   refine wpAny_pyIter_list hl ?_
   refine (dY ap _ _ _ rfl (lF.name (Walks.list hA.1 s₁.heap.objs.size a hne vs.toArray) (by simp [r.length]) (fun b hb hb' h hi o ho => ?_) (fun i v hv => ?_) (fun i h st a ha => ?_) (fun a ha => ?_)) (⟨(cF _ (Heap.get?_push_size _ rfl) rfl rfl), hl.at fun o e => push _ _ _ e⟩) av (fun a o e => push _ _ _ (aA a o e)) (k₁.trans (Kp.push _ _)) (fun a ha => ?_))
   . have hb : b = s₁.heap.objs.size \/ b = a := by simpa using hb
     rcases hb with rfl | rfl
     . exact absurd (by simp) hb'
     . have := hi _ _ e; rw [this] at ho; (replace ho := siE ho; subst ho); exact e
   . refine ax (r.get' (i := i) (v := v) (by simpa using hv)) fun d e1 e2 => ?_
     exact (bC d e1 e2)
   . have ha : a = s₁.heap.objs.size := by simpa using ha
     subst ha; (refine Ea st fun q0 _ => ?_; clear st; obtain ⟨o, ho, _⟩ := q0); rw [ho]; exact Option.some_ne_none _
   . have ha : a = s₁.heap.objs.size := by simpa using ha
     subst ha; exact aX aA hsz
   . have ha : a = s₁.heap.objs.size := by simpa using ha
     subst ha; exact ⟨hfr, aX aA hsz⟩
 . rename_i xs
   (replace ar := siE ar; subst ar)
   (refine bv (gZ aB) fun a vs k q0 e r => ?_; subst q0)
   have hl := ll aA e
   have hne : a ≠ s₁.heap.objs.size := fun q => by rw [q] at e; have := aA _ _ e; rw [hsz] at this; exact nS this
   refine wpAny_pyIter_tuple hl ?_
   refine (dY ap _ _ _ rfl (lF.name (Walks.tuple hA.1 s₁.heap.objs.size a hne vs.toArray) (by simp [r.length]) (fun b hb hb' h hi o ho => ?_) (fun i v hv => ?_) (fun i h st a ha => ?_) (fun a ha => ?_)) (⟨(cF _ (Heap.get?_push_size _ rfl) rfl rfl), hl.at fun o e => push _ _ _ e⟩) av (fun a o e => push _ _ _ (aA a o e)) (k₁.trans (Kp.push _ _)) (fun a ha => ?_))
   . have hb : b = s₁.heap.objs.size \/ b = a := by simpa using hb
     rcases hb with rfl | rfl
     . exact absurd (by simp) hb'
     . have := hi _ _ e; rw [this] at ho; (replace ho := siE ho; subst ho); exact e
   . refine ax (r.get' (i := i) (v := v) (by simpa using hv)) fun d e1 e2 => ?_
     exact (bC d e1 e2)
   . have ha : a = s₁.heap.objs.size := by simpa using ha
     subst ha; (refine Ea st fun q0 _ => ?_; clear st; obtain ⟨o, ho, _⟩ := q0); rw [ho]; exact Option.some_ne_none _
   . have ha : a = s₁.heap.objs.size := by simpa using ha
     subst ha; exact aX aA hsz
   . have ha : a = s₁.heap.objs.size := by simpa using ha
     subst ha; exact ⟨hfr, aX aA hsz⟩
theorem tups : ∀ {ds : List D} {vs : List Value}, ds.all isTup = true -> ak K ds vs -> ∃ Ts : Nat -> Addr, ∃ dx : Nat -> List Value, ∃ ns : Nat -> Nat, ∃ ess : Nat -> List D,
 ∀ j, j < vs.length -> vs[j]? = some (.ref (Ts j)) /\ K (Ts j) = some (vE (dx j) (ns j)) /\ ds[j]? = some (.tup (ess j)) /\ ak K (ess j) (dx j) := by
 intro ds vs ha r
 have : ∀ j : Nat, ∃ T : Addr, ∃ val : List Value, ∃ n : Nat, ∃ es : List D, j < vs.length -> vs[j]? = some (.ref T) /\ K T = some (vE val n) /\ ds[j]? = some (.tup es) /\ ak K es val := by
  intro j
  by_cases hj : j < vs.length
  . have hv : vs[j]? = some vs[j] := List.getElem?_eq_getElem hj
    refine ax (r.get' hv) fun d e1 e2 => ?_
    have hm : d ∈ ds := by refine Ex (List.getElem?_eq_some_iff.mp e1) fun h q => ?_; rw [<- q]; exact List.getElem_mem h
    have ht := List.all_eq_true.mp ha d hm
    cases d <;> simp only [isTup, Bool.false_eq_true] at ht
    rename_i es
    refine bv (gZ e2) fun a val k hva e rr => ?_
    exact (vJ a val k es (fun _ => (oE (by rw [hv, hva]) e e1 rr)))
  . exact (vJ 0 ([]) 0 ([]) (fun h => absurd h hj))
 exact (vJ (fun j => (this j).choose) (fun j => (this j).choose_spec.choose) (fun j => (this j).choose_spec.choose_spec.choose) (fun j => (this j).choose_spec.choose_spec.choose_spec.choose) (fun j hj => (this j).choose_spec.choose_spec.choose_spec.choose_spec hj))
theorem bc.names {iter : Expr} (h : ab C n sc iter f) : bc C n sc iter (.Tuple es k pt) (fun ρ => (f ρ).bind me) := by
 constructor
 intro A env K ρ s ds hA he F hf
 refine ax (obE hf) fun d am ar => ?_
 refine wpAny_mono (h.run A env K ρ s d hA he F am) (fun v s₁ p => ?_) fun _ _ x => x
 obtain ⟨⟨ap, av, aA, aB⟩, k₁⟩ := p
 have hsz := bt s₁.heap
 have hfr : s.heap.get? s₁.heap.objs.size = none := fN k₁.get hsz
 have push : ∀ o' b o, s₁.heap.get? b = some o -> (s₁.heap.push o').get? b = some o := fun _ _ _ e => Heap.get?_push_of_some _ e
 cases d <;> (first | exact dK ar | (delta me at ar; dsimp only at ar))
 split at ar
 . rename_i xs A8
   (replace ar := siE ar; subst ar)
   (refine bv (bu aB) fun a vs k q0 e r => ?_; subst q0)
   have hl := cn aA e
   have hne : ∀ b o, ap b = some o -> b ≠ s₁.heap.objs.size := fun b o e q => by rw [q] at e; have := aA _ _ e; rw [hsz] at this; exact nS this
   refine yE (tups A8 r) fun Ts dx ns ess ht => ?_
   refine wpAny_pyIter_list hl ?_
   refine (dY ap _ _ _ rfl (lF.names (WalksU.listOfTuples hA.1 s₁.heap.objs.size a (hne _ _ e) vs.toArray Ts (fun j => (dx j).toArray) (fun j hj => by simpa using (ht j (by simpa using hj)).1)
    (fun j hj => hne _ _ (ht j (by simpa using hj)).2.1)).bound (by simp [r.length]) hA.1 (fun b hb hb' h hi o ho => ?_) (fun i w hw => ?_) (fun i h st a ha => ?_) (fun a ha => ?_)) ((h9 (cF _ (Heap.get?_push_size _ rfl) rfl rfl) (hl.at fun o e => push _ _ _ e) (fun j hj => (kH _ (push _ _ _ (aA _ _ (ht j (by simpa using hj)).2.1)) rfl _ rfl)))) av (fun a o e => push _ _ _ (aA a o e)) (k₁.trans (Kp.push _ _)) (fun a ha => ?_))
   . rcases List.mem_cons.mp hb with rfl | hb
     . exact absurd (by simp) hb'
     . rcases List.mem_cons.mp hb with rfl | hb
       . have := hi _ _ e; rw [this] at ho; (replace ho := siE ho; subst ho); exact e
       . (refine ax (List.mem_map.mp hb) fun j hj q0 => ?_; subst q0)
         have hj : j < vs.length := by simpa using hj
         have e' := (ht j hj).2.1
         have := hi _ _ e'; rw [this] at ho; (replace ho := siE ho; subst ho); exact e'
   . (refine Ea hw fun hi q0 => ?_; clear hw; subst q0)
     have := ht i (by simpa using hi)
     exact (bC (ess i) this.2.2.1 this.2.2.2)
   . have ha : a = s₁.heap.objs.size := by simpa using ha
     subst ha; (refine Ea st fun q0 _ => ?_; clear st; obtain ⟨o, ho, _⟩ := q0); rw [ho]; exact Option.some_ne_none _
   . have ha : a = s₁.heap.objs.size := by simpa using ha
     subst ha; exact aX aA hsz
   . have ha : a = s₁.heap.objs.size := by simpa using ha
     subst ha; exact ⟨hfr, aX aA hsz⟩
 . exact nS ar
noncomputable def ix : List D -> Option (List D)
 | [.int b] => if 0 ≤ b /\ b < 16777216 then some ((List.range b.toNat).map fun (i : Nat) => .int i) else none
 | [.int a, .int b] => if -(2 ^ 62) ≤ a /\ a ≤ b /\ b < 2 ^ 62 /\ b - a < 16777216 then some ((List.range (b - a).toNat).map fun (i : Nat) => .int (a + i)) else none
 | _ => none
theorem uU (h : ix ds = some out) : (∃ b, ds = [.int b] /\ (0 ≤ b /\ b < 16777216) /\ ((List.range b.toNat).map fun (i : Nat) => .int i) = out) \/
 ∃ a b, ds = [.int a, .int b] /\ (-(2 ^ 62) ≤ a /\ a ≤ b /\ b < 2 ^ 62 /\ b - a < 16777216) /\ ((List.range (b - a).toNat).map fun (i : Nat) => .int (a + i)) = out := by
 cases ds with
 | nil => exact dK h
 | cons x r => cases r with
  | nil => 
   cases x <;> first | exact dK h | skip
   rename_i b
   have h : (if 0 ≤ b /\ b < 16777216 then some ((List.range b.toNat).map fun (i : Nat) => D.int i) else none) = some out := h
   split at h
   . rename_i c; exact .inl (cF b rfl c (siE h))
   . exact dK h
  | cons y r => cases r with
   | nil =>
    cases x <;> first | exact dK h | skip
    cases y <;> first | exact dK h | skip
    rename_i a b
    have h : (if -(2 ^ 62) ≤ a /\ a ≤ b /\ b < 2 ^ 62 /\ b - a < 16777216 then some ((List.range (b - a).toNat).map fun (i : Nat) => D.int (a + i)) else none) = some out := h
    split at h
    . rename_i c; exact .inr (d8 a b rfl c (siE h))
    . exact dK h
   | cons z r => exact dK (show (none : Option (List D)) = some out from by cases x <;> first | exact h | (cases y <;> exact h))
theorem tZ {A : Around} {vs : List Value} {Q : Value -> Shared -> Prop} (r : ak K ds vs) (h : ix ds = some out)
 (hQ : ∀ (a b : Int) (t u v : Tok) tk, IsRange (s.heap.push { cls := .type "range", data := .fields #[.int a t, .int b u, .int 1 v] }) s.heap.objs.size a b 1 t u v -> Builtin.Range.small a b 1 = true -> Builtin.Range.rangeSize a b 1 = (out.length : Int) -> out.length < 16777216 ->
  (∀ i : Nat, i < out.length -> out[i]? = some (.int (a + i))) -> Q (.ref s.heap.objs.size) { s with heap := s.heap.push { cls := .type "range", data := .fields #[.int a t, .int b u, .int 1 v] }, toks := tk }) :
 wpAny C.M A (call (.type "range") vs) Q dq s := by
 rcases uU h with ⟨b, rfl, hb, rfl⟩ | ⟨a, b, rfl, hb, rfl⟩
 . clear h
   . skip
     simp only [ak] at r
     (refine bk r fun v r' q0 rv q1 => ?_; clear r; subst q0 q1)
     (refine Ex (aZ rv) fun t q0 => ?_; subst q0)
     refine call_range_1 (hQ 0 b _ _ _ _ (IsRange.new ..) (small_one (by decide) (by decide) (by with_reducible exact Om.jG ‹_› (by decide)) (by with_reducible exact Om.jL ‹_› (by decide))) ?_ (by simp; with_reducible exact Om.jL ‹_› (by decide)) fun i hi => ?_)
     . rw [rangeSize_one]; simp only [List.length_map, List.length_range]; split <;> lia
     . simp only [List.length_map, List.length_range] at hi
       simp [hi]
 . clear h
   . skip
     simp only [ak] at r
     (refine k8 r fun v r' q0 rv v' r'' q1 rv' q2 => ?_; clear r; subst q0 q1 q2)
     (refine Ex (aZ rv) fun t q0 => ?_; subst q0)
     (refine Ex (aZ rv') fun t' q0 => ?_; subst q0)
     refine call_range_2 (hQ a b _ _ _ _ (IsRange.new ..) (small_one (Int.le_of_sub_one_lt hb.left) (Int.lt_of_le_of_lt hb.right.left hb.right.right.left) (Int.le_trans hb.left hb.right.left) (Int.lt_of_add_one_le hb.right.right.left)) ?_ (by simp; exact Int.lt_of_add_one_le hb.right.right.right) fun i hi => ?_)
     . rw [rangeSize_one]; simp only [List.length_map, List.length_range]; split <;> lia
     . simp only [List.length_map, List.length_range] at hi
       simp [hi]
theorem bc.range (ok : C.Ok) (hg : aw C x (.type "range")) (h : aa C n sc pos (e :: rest) fl) (hk : autoParam (sc.names.lookup x = some .globalImplicit) aK)
 (h1 : autoParam (∀ env, starEach (e :: rest) env = (false, eval e env) :: starEach rest env) aR) (h2 : autoParam (∀ env, (backTo pos (starEach rest env)).any (·.1) = false) aR) (hd : autoParam ((x == ("__debug__" : Str)) = false) aD) :
 bc C n sc (.Call (.Name x p) (e :: rest) [] pos) (.Name y px) (fun ρ => (fl ρ).bind ix) := by
 constructor
 intro A env K ρ s ds hA he F hf
 refine ax (obE hf) fun as am ar => ?_
 refine hM ok hk hg (.type "range") h hA he F am h1 h2 hd fun vs ap s₁ av aA aB k₁ aq => ?_
 refine tZ aB ar fun a b t u v tk hr hs hn hlt hi => ?_
 refine wpAny_pyIter_range hr hs ?_
 generalize hh : s₁.heap.push { cls := .type "range", data := .fields #[.int a t, .int b u, .int 1 v] } = H at hr ⊢
 have b7 : ∀ b o, s₁.heap.get? b = some o -> H.get? b = some o := fun b o e => hh ▸ Heap.get?_push_of_some _ e
 have hsz := bt H
 have hfr : s₁.heap.get? H.objs.size = none := fN b7 hsz
 have push : ∀ o' b o, H.get? b = some o -> (H.push o').get? b = some o := fun _ _ _ e => Heap.get?_push_of_some _ e
 rw [hn]
 refine (dY ap _ _ _ rfl (lF.name (uz (Walks.range hA.1 H.objs.size a 1 ds.length)) rfl (fun b hb hb' => absurd hb hb') (fun i v hv => ?_) (fun i h st a ha => ?_) (fun a ha => ?_)) ?_ av (fun a o e => push _ _ _ (b7 _ _ (aA a o e))) (k₁.trans (.of fun b o e => push _ _ _ (b7 _ _ e))) (fun a ha => ?_))
 . obtain ⟨hlt, t, rfl⟩ := hv
   refine (bC _ (hi i hlt) ?_)
   rw [Int.mul_one]
   exact d6
 . have ha : a = H.objs.size := by simpa using ha
   subst ha
   have st : h.get? H.objs.size = some _ := st
   rw [st]; exact Option.some_ne_none _
 . have ha : a = H.objs.size := by simpa using ha
   subst ha; exact aX aA hfr
 . show IsRangeIter _ _ _ _ _
   have : a + ((0 : Nat) : Int) * 1 = a := by lia
   rw [this]
   have : (ds.length : Int) - ((0 : Nat) : Int) = ds.length := by lia
   rw [this]
   exact Heap.get?_push_size _ rfl
 . have ha : a = H.objs.size := by simpa using ha
   subst ha; exact ⟨fN k₁.get hfr, aX aA hfr⟩
noncomputable def mH : List D -> Option (List D)
 | [.list xs] => some (xs.zipIdx.map fun p => .tup [.int p.2, p.1])
 | _ => none
theorem xa (h : mH ds = some out) : ∃ xs, ds = [.list xs] /\ (xs.zipIdx.map fun p => .tup [.int p.2, p.1]) = out := by
 (refine ax (jn rfl (fun a _ _ => by cases a <;> rfl) h) fun x q0 h => ?_; subst q0)
 cases x <;> first | exact dK h | exact (bC _ rfl (siE h))
theorem bc.enum (ok : C.Ok) (hg : aw C x (.type "enumerate")) (h : aa C n sc pos (e :: rest) fl)
 (hk : sc.names.lookup x = some .globalImplicit)
 (h1 : autoParam (∀ env, starEach (e :: rest) env = (false, eval e env) :: starEach rest env) aR) (h2 : autoParam (∀ env, (backTo pos (starEach rest env)).any (·.1) = false) aR) (hd : autoParam ((x == ("__debug__" : Str)) = false) aD) :
 bc C n sc (.Call (.Name x p) (e :: rest) [] pos) (.Tuple es k pt) (fun ρ => (fl ρ).bind mH) := by
 constructor
 intro A env K ρ s ds hA he F hf
 refine ax (obE hf) fun as am ar => ?_
 refine hM ok hk hg (.type "enumerate") h hA he F am h1 h2 hd fun vs ap s₁ av aA aB k₁ aq => ?_
 (refine ax (xa ar) fun xs q0 q1 => ?_; subst q0 q1)
 . clear ar
   simp only [ak] at aB
   (refine bk aB fun v r' q0 rv q1 => ?_; clear aB; subst q0 q1)
   (refine bv (bu rv) fun l vs m q0 e r => ?_; subst q0)
   have hl := cn aA e
   have hlt : l < s₁.heap.objs.size := Heap.lt_size (aA _ _ e)
   have fresh : ∀ a, s₁.heap.objs.size ≤ a -> s₁.heap.get? a = none := fun a ha => by
    cases e : s₁.heap.get? a with
    | none => rfl
    | some o' => exact absurd (Heap.lt_size e) (Nat.not_lt.mpr ha)
   refine call_enumerate_list hl fun H he' hit hsz hkp => ?_
   refine wpAny_pyIter_enum he' ?_
   have hw : ∀ a ∈ [s₁.heap.objs.size + 1, s₁.heap.objs.size], s₁.heap.get? a = none := fun a ha => by
    have ha : a = s₁.heap.objs.size + 1 \/ a = s₁.heap.objs.size := by simpa using ha
    rcases ha with rfl | rfl
    . exact fresh _ (Nat.le_succ _)
    . exact fresh _ (Nat.le_refl _)
   refine (dY ap _ _ _ rfl (lF.names (WalksT.enumerate hA.1 (s₁.heap.objs.size + 1) s₁.heap.objs.size l (Nat.ne_of_gt (Nat.lt_succ_self _)) (Nat.ne_of_lt (Nat.lt_succ_of_lt hlt)) (Nat.ne_of_lt hlt) vs.toArray).toU.bound
    (by simp [r.length]) hA.1 (fun b hb hb' h hi o ho => ?_) (fun i w hw => ?_) (fun i h st a ha => ?_) (fun a ha => aX aA (hw a ha))) ((h9 ⟨_, he'⟩ hit (hl.at fun o e => hkp _ _ e))) av (fun a o e => hkp _ _ (aA a o e)) (k₁.trans (.of hkp)) (fun a ha => ⟨fN k₁.get (hw a ha), aX aA (hw a ha)⟩))
   . have hb : b = s₁.heap.objs.size + 1 \/ b = s₁.heap.objs.size \/ b = l := by simpa using hb
     rcases hb with rfl | rfl | rfl
     . exact absurd (by simp) hb'
     . exact absurd (by simp) hb'
     . have := hi _ _ e; rw [this] at ho; (replace ho := siE ho; subst ho); exact e
   . (refine rB hw fun hi t y hy q0 => ?_; clear hw; subst q0)
     have hy : vs[i]? = some y := by simpa using hy
     refine ax (r.get' hy) fun d e1 e2 => ?_
     exact (bC ([.int i, d]) (by simp [e1]) (.cons d6 (ak.one e2)))
   . have ha : a = s₁.heap.objs.size + 1 \/ a = s₁.heap.objs.size := by simpa using ha
     (refine n4 st fun q0 q1 _ => ?_; clear st; obtain ⟨old, h1⟩ := q0; obtain ⟨o, h2, _⟩ := q1)
     rcases ha with rfl | rfl
     . rw [h1]; exact Option.some_ne_none _
     . rw [h2]; exact Option.some_ne_none _
noncomputable def sZ : List D -> Option (List D)
 | [.list xs, .list ys] => some ((xs.zip ys).map fun p => .tup [p.1, p.2])
 | _ => none
theorem zy (h : sZ ds = some out) : ∃ xs ys, ds = [.list xs, .list ys] /\ ((xs.zip ys).map fun p => .tup [p.1, p.2]) = out := by
 (refine nk (rA rfl (fun a => by cases a <;> rfl) (fun a b _ _ => by cases a <;> first | rfl | (cases b <;> rfl)) h) fun x y q0 h => ?_; subst q0)
 cases x <;> first | exact dK h | (cases y <;> first | exact dK h | exact (kA _ _ rfl (siE h)))
theorem bc.zip (ok : C.Ok) (hg : aw C x (.type "zip")) (h : aa C n sc pos (e :: rest) fl)
 (hk : autoParam (sc.names.lookup x = some .globalImplicit) aK)
 (h1 : autoParam (∀ env, starEach (e :: rest) env = (false, eval e env) :: starEach rest env) aR) (h2 : autoParam (∀ env, (backTo pos (starEach rest env)).any (·.1) = false) aR) (hd : autoParam ((x == ("__debug__" : Str)) = false) aD) :
 bc C n sc (.Call (.Name x p) (e :: rest) [] pos) (.Tuple es k pt) (fun ρ => (fl ρ).bind sZ) := by
 constructor
 intro A env K ρ s ds hA he F hf
 refine ax (obE hf) fun as am ar => ?_
 refine hM ok hk hg (.type "zip") h hA he F am h1 h2 hd fun vs ap s₁ av aA aB k₁ aq => ?_
 (refine nk (zy ar) fun xs ys q0 q1 => ?_; subst q0 q1)
 . clear ar
   simp only [ak] at aB
   (refine k8 aB fun v r' q0 rv v' r'' q1 rv' q2 => ?_; clear aB; subst q0 q1 q2)
   (refine bv (bu rv) fun l vs m q0 e r => ?_; subst q0)
   (refine bv (bu rv') fun l' vs' m' q0 e' r' => ?_; subst q0)
   have hl := cn aA e
   have hl' := cn aA e'
   have hlt : l < s₁.heap.objs.size := Heap.lt_size (aA _ _ e)
   have hlt' : l' < s₁.heap.objs.size := Heap.lt_size (aA _ _ e')
   generalize hN : s₁.heap.objs.size = N at hlt hlt'
   have fresh : ∀ a, N ≤ a -> s₁.heap.get? a = none := fun a ha => by
    cases e : s₁.heap.get? a with
    | none => rfl
    | some o' => exact absurd (Heap.lt_size e) (Nat.not_lt.mpr (hN ▸ ha))
   refine call_zip_2 hl hl' fun H hz hTI hTO hi1 hi2 hsz hkp => ?_
   rw [hN] at hz hTI hTO hi1 hi2 ⊢
   refine wpAny_pyIter_zip hz ?_
   have hTn : ap (N + 2) = none := aX aA (fresh _ (by simp +arith only))
   have hw : ∀ a ∈ [N + 4, N + 3, N, N + 1], s₁.heap.get? a = none /\ a ≠ N + 2 := fun a ha => by
    have ha : a = N + 4 \/ a = N + 3 \/ a = N \/ a = N + 1 := by simpa using ha
    rcases ha with rfl | rfl | rfl | rfl <;> exact ⟨fresh _ (by simp +arith only), by lia⟩
   have hw' : ∀ a ∈ [N + 4, N + 3, N, N + 1], bH ap (N + 2) { cls := .type "tuple", data := .seq #[.ref N, .ref (N + 1)] } a = none := fun a ha => by
    unfold bH; rw [if_neg (hw a ha).2]; exact aX aA (hw a ha).1
   refine (dY (bH ap (N + 2) { cls := .type "tuple", data := .seq #[.ref N, .ref (N + 1)] }) _ _ _ rfl (lF.names (WalksT.zip2 hA.1 (N + 4) (N + 2) (N + 3) N (N + 1) l l' (zipApart_new hlt hlt') vs.toArray vs'.toArray).toU.bound
    (by simp [r.length, r'.length]) hA.1 (fun b hb hb' h hi o ho => ?_) (fun i w hw => ?_) (fun i h st a ha => ?_) (fun a ha => hw' a ha)) (⟨hz, hTI, (j2 _ _ hTO), hi1, hi2, hl.at fun o e => hkp _ _ e, hl'.at fun o e => hkp _ _ e⟩) (av.trans k₁.get (iV aA (fresh _ (by simp +arith only)))) (fun a o e => ?_) (k₁.trans (.of hkp)) (fun a ha => ⟨fN k₁.get (hw a ha).1, hw' a ha⟩))
   . have old : ∀ {c o'}, ap c = some o' -> c ≠ N + 2 := fun q q' => by rw [q', hTn] at q; exact nS q
     have hb : b = N + 4 \/ b = N + 2 \/ b = N + 3 \/ b = N \/ b = N + 1 \/ b = l \/ b = l' := by simpa using hb
     have lo : ∀ {c o'}, ap c = some o' -> h.get? c = some o -> bH ap (N + 2) { cls := .type "tuple", data := .seq #[.ref N, .ref (N + 1)] } c = some o := fun {c o'} q ho => by
      have : bH ap (N + 2) { cls := .type "tuple", data := .seq #[.ref N, .ref (N + 1)] } c = some o' := by unfold bH; rw [if_neg (old q)]; exact q
      have q' := hi _ _ this; rw [q'] at ho; (replace ho := siE ho; subst ho); exact this
     rcases hb with rfl | rfl | rfl | rfl | rfl | rfl | rfl
     . exact absurd (by simp) hb'
     . have this : bH ap (N + 2) { cls := .type "tuple", data := .seq #[.ref N, .ref (N + 1)] } (N + 2) = some { cls := .type "tuple", data := .seq #[.ref N, .ref (N + 1)] } := by unfold bH; rw [if_pos rfl]
       have q' := hi _ _ this; rw [q'] at ho; (replace ho := siE ho; subst ho); exact this
     . exact absurd (by simp) hb'
     . exact absurd (by simp) hb'
     . exact absurd (by simp) hb'
     . exact lo e ho
     . exact lo e' ho
   . (refine yA hw fun hi y y' hy hy' q0 => ?_; clear hw; subst q0)
     have hy : vs[i]? = some y := by simpa using hy
     have hy' : vs'[i]? = some y' := by simpa using hy'
     refine ax (r.get' hy) fun d e1 e2 => ?_
     refine ax (r'.get' hy') fun d' e1' e2' => ?_
     refine (bC ([d, d']) (by simp [List.getElem?_zip_eq_some, e1, e1']) (.cons (e2.mono (ed hTn)) (ak.one (e2'.mono (ed hTn)))))
   . have ha : a = N + 4 \/ a = N + 3 \/ a = N \/ a = N + 1 := by simpa using ha
     (refine yy st fun h1 _ q0 q1 q2 _ => ?_; clear st; obtain ⟨_, _, h2⟩ := q0; obtain ⟨o, h3, _⟩ := q1; obtain ⟨o', h4, _⟩ := q2)
     rcases ha with rfl | rfl | rfl | rfl
     . rw [h1]; exact Option.some_ne_none _
     . rw [h2]; exact Option.some_ne_none _
     . rw [h3]; exact Option.some_ne_none _
     . rw [h4]; exact Option.some_ne_none _
   . unfold bH at e
     split at e
     . rename_i q; subst q; (replace e := siE e; subst e); exact hTI
     . exact hkp _ _ (aA a o e)
end
noncomputable def Dl (elt : Expr) (dA : Addr) (env : Env) : Sem Unit := do let _ <- call (.builtin "list.append") [.ref dA, <- eval elt env]
noncomputable def tM (e : Expr) (i1 : Expr) (dA : Addr) (env : Env) : Sem Unit := do
 let x <- eval i1 env
 standAt i1.pos
 let x <- foldedSetIterable i1 env x
 let it <- holding [x] (pyIter x)
 let _ <- runOwn (.compStart e 1 it (.ref dA) env) env
theorem KW {elt t i : Expr} {ifs : List Expr} {scope : Scope} {pos : Pos} {I dA : Addr} {env : Env} : C.M.den (.compLoop (.ListComp elt [⟨t, i, ifs, 0⟩] scope pos) 0 (.ref I) (.ref dA) env) = (do
 standAt i.pos
 match <- pyNext (.ref I) with
 | none => pure (PySem.Fin.done .next)
 | some v =>
  letOwnedTupleGo t (.ref I) v
  assign t env v
  let ok <- forIn ifs true fun c r => if r = true then do let ok <- isTrue c env (eval c env); pure (ForInStep.yield ok) else pure (ForInStep.yield r)
  if ok = true then (do Dl elt dA env; again (.compLoop (.ListComp elt [⟨t, i, ifs, 0⟩] scope pos) 0 (.ref I) (.ref dA) env)) else again (.compLoop (.ListComp elt [⟨t, i, ifs, 0⟩] scope pos) 0 (.ref I) (.ref dA) env)).onRaise (fun x => do noteFrame x env; theTreesLotGoes x) := by rfl
theorem GE {elt t i t1 i1 : Expr} {ifs ifs1 : List Expr} {scope : Scope} {pos : Pos} {I dA : Addr} {env : Env} : C.M.den (.compLoop (.ListComp elt [⟨t, i, ifs, 0⟩, ⟨t1, i1, ifs1, 0⟩] scope pos) 0 (.ref I) (.ref dA) env) = (do
 standAt i.pos
 match <- pyNext (.ref I) with
 | none => pure (PySem.Fin.done .next)
 | some v =>
  letOwnedTupleGo t (.ref I) v
  assign t env v
  let ok <- forIn ifs true fun c r => if r = true then do let ok <- isTrue c env (eval c env); pure (ForInStep.yield ok) else pure (ForInStep.yield r)
  if ok = true then (do tM (.ListComp elt [⟨t, i, ifs, 0⟩, ⟨t1, i1, ifs1, 0⟩] scope pos) i1 dA env; again (.compLoop (.ListComp elt [⟨t, i, ifs, 0⟩, ⟨t1, i1, ifs1, 0⟩] scope pos) 0 (.ref I) (.ref dA) env))
  else again (.compLoop (.ListComp elt [⟨t, i, ifs, 0⟩, ⟨t1, i1, ifs1, 0⟩] scope pos) 0 (.ref I) (.ref dA) env)).onRaise (fun x => do noteFrame x env; theTreesLotGoes x) := by
 have e : ∀ c : Code, (do tM (.ListComp elt [⟨t, i, ifs, 0⟩, ⟨t1, i1, ifs1, 0⟩] scope pos) i1 dA env; again c) = (do
  let x <- eval i1 env
  standAt i1.pos
  let x <- foldedSetIterable i1 env x
  let it <- holding [x] (pyIter x)
  let _ <- runOwn (.compStart (.ListComp elt [⟨t, i, ifs, 0⟩, ⟨t1, i1, ifs1, 0⟩] scope pos) 1 it (.ref dA) env) env
  again c) := fun c => by
  unfold tM
  simp only [bind_assoc, pure_bind]
 simp only [e]
 rfl
theorem GF {elt t i t1 i1 : Expr} {ifs ifs1 : List Expr} {scope : Scope} {pos : Pos} {I dA : Addr} {env : Env} : C.M.den (.compLoop (.ListComp elt [⟨t, i, ifs, 0⟩, ⟨t1, i1, ifs1, 0⟩] scope pos) 1 (.ref I) (.ref dA) env) = (do
 standAt i1.pos
 match <- pyNext (.ref I) with
 | none => pure (PySem.Fin.done .next)
 | some v =>
  letOwnedTupleGo t1 (.ref I) v
  assign t1 env v
  let ok <- forIn ifs1 true fun c r => if r = true then do let ok <- isTrue c env (eval c env); pure (ForInStep.yield ok) else pure (ForInStep.yield r)
  if ok = true then (do Dl elt dA env; again (.compLoop (.ListComp elt [⟨t, i, ifs, 0⟩, ⟨t1, i1, ifs1, 0⟩] scope pos) 1 (.ref I) (.ref dA) env))
  else again (.compLoop (.ListComp elt [⟨t, i, ifs, 0⟩, ⟨t1, i1, ifs1, 0⟩] scope pos) 1 (.ref I) (.ref dA) env)).onRaise (fun x => do noteFrame x env; theTreesLotGoes x) := by rfl
theorem CK {R : Result -> Shared -> Prop} {elt t i t1 : Expr} {it acc : Value} 
 (h0 : codeAny C.M A (.compLoop (.ListComp elt [⟨t, i, ifs, 0⟩, ⟨t1, i1, ifs1, 0⟩] scope pos) 1 it acc env) R s)
 (h : wpAny C.M A (pyIter it) (fun it' s' => codeAny C.M A (.compLoop (.ListComp elt [⟨t, i, ifs, 0⟩, ⟨t1, i1, ifs1, 0⟩] scope pos) 1 it' acc env) R s') (notedBy C.M A env fun x s' => R (.error x) s') s) :
 codeAny C.M A (.compStart (.ListComp elt [⟨t, i, ifs, 0⟩, ⟨t1, i1, ifs1, 0⟩] scope pos) 1 it acc env) R s := by
 refine codeAny_of_tree ?_
 show wpAny _ _ ((compStart (.ListComp elt [⟨t, i, ifs, 0⟩, ⟨t1, i1, ifs1, 0⟩] scope pos) 1 it acc env).onRaise (fun x => do noteFrame x env; standAt theWindowsPlace)) _ _ s
 refine wpAny_notedAt ?_
 unfold compStart
 show wpAny _ _ (ask >>= _) _ _ s
 refine wpAny_bind (wpAny_askSetting (wpAny_ite ?_))
 split
 . first
    | exact wpAny_bind (wpAny_pure (wpAny_pure (And.intro rfl h0)))
    | exact wpAny_pure (And.intro rfl h0)
 . first
    | exact wpAny_bind (wpAny_rule (wpAny_bind (wpAny_standAt (wpAny_bind (wpAny_mono h (fun it' s' h' => wpAny_pure (And.intro rfl h')) fun _ _ x => x)))))
    | (refine wpAny_bind (wpAny_rule ?_); show wpAny _ _ (standAt i1.pos >>= _) _ _ s; exact wpAny_bind (wpAny_standAt (wpAny_bind (wpAny_mono h (fun it' s' h' => wpAny_pure (And.intro rfl h')) fun _ _ x => x))))
end
section
open PySem PySem.Calls PyProof.Rows
noncomputable def gF (xs : List Str) (ρ : af) : af := fun x => if xs.contains x then none else ρ x
theorem uW : ∀ x ∈ xs, gF xs ρ x = none := fun x hx => by
 unfold gF; rw [if_pos (List.contains_iff_mem.mpr hx)]
theorem xe : Sub (gF xs ρ) ρ := fun x d e => by
 unfold gF at e; split at e
 . exact nS e
 . exact e
section
variable {T : List Str}
theorem lB.nest {elt t i t1 : Expr} {g1 : af -> Option D}
 (hit : bc C n sc i1 t1 f1) (qT : b9 C n sc ifs1 ft1) (hel : ab C n sc elt g1) (ht : kS b sc [] t1 = true) (hT : ∀ x ∈ dh t1, x ∈ T)
 (hs : autoParam (∀ env x, foldedSetIterable i1 env x = pure x) aR) :
 lB C n b sc T (tM (.ListComp elt [⟨t, i, ifs, 0⟩, ⟨t1, i1, ifs1, 0⟩] scope pos) i1)
  (fun ρ => (f1 (gF (dh t1) ρ)).bind fun ds => ip t1 ft1 (fun ρ => (g1 ρ).map ([·])) (gF (dh t1) ρ) ds) := by
 intro A env P K ρ aV s dA zs out hA he F ha hsub A7 hg hsz
 refine ax (obE hg) fun ds am ar => ?_
 have F' := F.weaken (xe (xs := dh t1))
 have fe := F'.fe
 rw [show ay ([] : List (Str × Addr)) = [] from rfl, bb] at fe
 unfold tM
 refine wpAny_bind (wpAny_mono (hit.run A env K _ s ds hA he fe am) (fun xv s₁ cR => ?_) fun _ _ x => x)
 refine wpAny_bind (wpAny_standAt (wpAny_bind (wpAny_of_eq (hs env xv) (wpAny_bind (wpAny_holding (wpAny_mono cR (fun it an ca => ?_) fun _ _ x => x))))))
 (refine jH ca fun cI I wr St q0 FD st bV bW b7 hw => ?_; clear ca; subst q0)
 refine wpAny_bind (wpAny_runOwn (Q := fun _ s' => wpAny C.M A (pure () : Sem Unit) (fun _ s' => ∃ K', bw K s.heap K' /\ bG b C P env [] K' aV s'.heap /\ gq P K' env dA (zs ++ out) s'.heap /\ Sh s s') dq s') ?_)
 have bE := F'.keeps b7.get bV bW
 have LV := ha.keeps (fun o e => b7.get _ _ e) bV
 have dead : ∀ a ∈ wr, a ≠ env.locals /\ (∀ x, env.cells.lookup x ≠ some a) /\ P a = none /\ cI a = none /\ a ≠ dA := fun a m => by
  refine Ea (hw a m) fun h1 h2 => ?_
  refine (jJ (fun q => ?_) (fun x q => ?_) ?_ h2 (fun q => ?_))
  . refine hY F.fe.ns fun m o _ _ ho _ => ?_
    rw [q, ho] at h1; exact sN h1
  . refine Ex (F.fe.cl x a q) fun o ho => ?_; rw [ho] at h1; exact sN h1
  . cases q : P a with
    | none => rfl
    | some o => rw [F.inP a o q] at h1; exact sN h1
  . obtain ⟨⟨vs, m, e, _⟩, _⟩ := ha
    rw [q, e] at h1; exact sN h1
 have body : codeAny C.M A (.compLoop (.ListComp elt [⟨t, i, ifs, 0⟩, ⟨t1, i1, ifs1, 0⟩] scope pos) 1 (.ref I) (.ref dA) env) (fun r s' => match r with
  | .ok f => wpAny C.M A (pure () : Sem Unit) (fun _ s' => ∃ K', bw K s.heap K' /\ bG b C P env [] K' aV s'.heap /\ gq P K' env dA (zs ++ out) s'.heap /\ Sh s s') dq s'
  | .error e => cameBackBy C.M A env dq e s') an := by
  refine pe (T := dh t1) rfl rfl GF FD qT (lB.elt hel) hA he ht (fun x hx => hx) (uW) ar hsz (kJ.refl _) bE LV st dead fun s' K' g' F' ha' same live => wpAny_pure ?_
  have Mi : Sub aV (gF (dh t1) ρ) := fun x d e => by
   unfold gF
   rw [if_neg fun q => by have := A7 x (hT x (List.contains_iff_mem.mp q)); rw [this] at e; exact nS e]
   exact hsub x d e
  refine ⟨K', bV.trans b7.get g', F'.weaken Mi, ha', ?_, fun a e => ?_⟩
  . obtain ⟨cR, kG, rfl, _⟩ := b7; (refine Br same fun ca n9 q0 => ?_; clear same; subst q0); exact (j2 ca n9 rfl)
  . exact live a (gx.of b7.get a e) fun m => by have := (hw a m).1; exact e this
 exact CK body (FD.self 0 an _ st body |> fun h => wpAny_mono h (fun _ _ x => x) fun _ _ x => False.elim x)
end
end
section
open PySem PySem.Calls PyProof.Rows
section
variable {T : List Str}
theorem pd {elt t iter : Expr} {ifs : List Expr} {rest : List Comprehension} {scope : Scope} {pos cpos : Pos} {em : Addr -> Env -> Sem Unit} {fi : af -> Option (List D)} {ft : af -> Option Bool} {g : af -> Option (List D)}
 (GY : ∀ (I dA : Addr) (env : Env), C.M.den (.compLoop (.ListComp elt (⟨t, iter, ifs, 0⟩ :: rest) scope pos) 0 (.ref I) (.ref dA) env) = (do
  standAt iter.pos
  match <- pyNext (.ref I) with
  | none => pure (PySem.Fin.done .next)
  | some v =>
   letOwnedTupleGo t (.ref I) v
   assign t env v
   let ok <- forIn ifs true fun c r => if r = true then do let ok <- isTrue c env (eval c env); pure (ForInStep.yield ok) else pure (ForInStep.yield r)
   if ok = true then (do em dA env; again (.compLoop (.ListComp elt (⟨t, iter, ifs, 0⟩ :: rest) scope pos) 0 (.ref I) (.ref dA) env))
   else again (.compLoop (.ListComp elt (⟨t, iter, ifs, 0⟩ :: rest) scope pos) 0 (.ref I) (.ref dA) env)).onRaise (fun x => do noteFrame x env; theTreesLotGoes x))
 (hit : bc C n sc iter t fi) (qT : b9 C n (jo scope sc) ifs ft) (hem : lB C n (oU scope) (jo scope sc) T em g) (hk : scope.kind = .function) (ck : ml scope sc = true)
 (ht : kS (oU scope) (jo scope sc) [] t = true) (htT : ∀ x ∈ dh t, x ∈ T) (hTs : (T.all fun x => !(scope.names.lookup x == some .free)) = true) (hs : ∀ env x, foldedSetIterable iter env x = pure x)
 {A : Around} {env : Env} {K : KM} {ρ : af} {s : Shared} (hA : dg n A) (he : env.scope = sc) (F : nq C env K ρ s.heap) {ds out : List D} (h1 : fi ρ = some ds) (h2 : ip t ft g (qG scope ρ) ds = some out)
 (hsz : out.length ≤ sizeLine) {use : Option (Value -> Sem Unit)} {Q : Value -> Shared -> Prop}
 (tx : ∀ dA Cl s' K' m, s'.heap.Ns Cl m -> s.heap.get? Cl = none -> K' Cl = none -> Kp s s' -> bw K s.heap K' -> eV K' s'.heap -> bJ K' (.list out) (.ref dA) -> compPost C.M A dq use Q (.ref dA) Cl (.ok .next) s') :
 wpAny C.M A (comprehension (.ListComp elt (⟨t, iter, ifs, 0⟩ :: rest) scope pos) scope env cpos (newList []) false (eval iter env) use) Q dq s := by
 have caps : ∀ p ∈ scope.names, p.2 = .free -> (env.cells.lookup p.1).isSome = true := fun p hp hf => by
  obtain ⟨x, k⟩ := p
  cases hf
  refine ax (F.caps x (by have := fx ck hp; rw [<- he] at this; exact this)) fun c e _ => ?_
  show (env.cells.lookup x).isSome = true
  rw [e]; rfl
 refine wpAny_comprehension_free (cl := fG env.cells scope.names []) (gs := rest) (g := ⟨t, iter, ifs, 0⟩) rfl (hs env) (oM caps) hk (fun x hx hl => by rw [iO ck hx, hl]) ?_
 refine wpAny_mono (hit.run A env K ρ s ds hA he F h1) (fun xv s₁ cR => wpAny_mono cR (fun it an ca => ?_) fun _ _ x => x) fun _ _ x => x
 (refine jH ca fun cI I wr St q0 FD st bV bW b7 hw => ?_; clear ca; subst q0)
 have bE := F.keeps b7.get bV.1 bW
 refine x8 (RR := fun acc cenv cU => codeAny C.M A (.compStart (.ListComp elt (⟨t, iter, ifs, 0⟩ :: rest) scope pos) 0 (.ref I) acc cenv) (compPost C.M A dq use Q acc cenv.locals) cU) bE hk (he ▸ ck) fun cenv cU dA hsc gw mQ eY hL LY => ?_
 have hwA : ∀ a ∈ wr, ∃ o, an.heap.get? a = some o := fun a m => by
  have := FD.alive 0 _ st a m
  cases q : an.heap.get? a with
  | none => exact absurd q this
  | some o => exact ⟨o, rfl⟩
 have yI : bG (oU scope) C (fun a => if a ∈ wr then none else an.heap.get? a) cenv [] cI (qG scope ρ) cU.heap := gw.lessP fun a o e => by
  split at e
  . exact nS e
  . exact e
 have v1 : gq (fun a => if a ∈ wr then none else an.heap.get? a) cI cenv dA [] cU.heap := mQ.chP (by
  show (if dA ∈ wr then none else an.heap.get? dA) = none
  split
  . rfl
  . exact mQ.pD)
 have ul : St 0 cU.heap := FD.frame _ _ _ st bW (fun a o e => eY.get _ _ (bW a o e)) fun a _ o e => eY.get _ _ e
 have dead : ∀ a ∈ wr, a ≠ cenv.locals /\ (∀ x, cenv.cells.lookup x ≠ some a) /\ (fun a => if a ∈ wr then none else an.heap.get? a) a = none /\ cI a = none /\ a ≠ dA := fun a m => by
  refine Ex (hwA a m) fun o ho => ?_
  refine (jJ (fun q => (by rw [<- q, ho] at hL; exact sN hL)) (fun x q => ?_) (if_pos m) ((hw a m).2) (fun q => ?_))
  . rcases LY x a q with r | ⟨y, _, r⟩
    . rw [ho] at r; exact sN r
    . refine Ex (F.cl y a r) fun o' ho' => ?_
      rw [(hw a m).1] at ho'; exact nS ho'
  . have := mQ.pD
    rw [<- q, ho] at this; exact sN this
 have body : codeAny C.M A (.compLoop (.ListComp elt (⟨t, iter, ifs, 0⟩ :: rest) scope pos) 0 (.ref I) (.ref dA) cenv) (compPost C.M A dq use Q (.ref dA) cenv.locals) cU := by
  have A7 : ∀ x ∈ T, qG scope ρ x = none := fun x hx => by
   have := List.all_eq_true.mp hTs x hx
   unfold qG
   rw [if_neg (by simpa using this)]
  refine pe (T := T) rfl rfl (GY I dA cenv) FD qT hem hA (hsc.trans (by rw [he])) ht htT A7 h2 (by simpa using hsz) (kJ.refl _) yI v1 ul dead fun s' K' g' F' ha' same live => ?_
  obtain ⟨⟨vs, m, e, r⟩, kD, pD, loc, cel⟩ := ha'
  have F'e := F'.fe
  refine Ex F'e.ns fun mn hn => ?_
  have gK : bw K s.heap (bH K' dA (aT vs m)) := by
   have l₄ : gx an.heap cU.heap := gx.of eY.get
   have l₂ : gx s.heap an.heap := gx.of b7.get
   refine ⟨bV.1.trans (g'.1.trans (ed kD)), fun a o q => ?_⟩
   unfold bH at q
   split at q
   . rename_i hq; subst hq
     exact .inr (l₂.none mQ.pD)
   . rcases g'.2 a o q with q | q
     . exact bV.2 a o q
     . exact .inr (l₂.none (l₄.none q))
  refine tx dA cenv.locals s' (bH K' dA (aT vs m)) mn hn ((gx.of b7.get).none hL) ?_ ?_ gK (fun a o q => ?_) ?_
  . unfold bH; rw [if_neg (Ne.symm loc)]; exact F'.lK
  . obtain ⟨ca, n9, rfl, Mr⟩ := b7; obtain ⟨ib, t₄, rfl, kk₄⟩ := eY; (refine Br same fun n7 Bn q0 => ?_; clear same; subst q0)
    refine ⟨n7, Bn, rfl, fun c o q => F'.inP c o ?_⟩
    have hcw : c ∉ wr := fun m => by have := (hw c m).1; rw [q] at this; exact sN this
    dsimp only
    rw [if_neg hcw]; exact Mr _ _ q
  . unfold bH at q
    split at q
    . rename_i hq; subst hq; (replace q := siE q; subst q); exact e
    . exact F'e.inH a o q
  . simp only [bJ]
    refine (fD dA vs m rfl (by unfold bH; rw [if_pos rfl]) ?_)
    exact (by simpa using r : ak K' out vs).mono (ed kD)
 exact codeAny_compStart_list body (wpAny_mono (FD.self 0 cU _ ul body) (fun _ _ x => x) fun _ _ x => False.elim x)
theorem ze {Cl : Addr} {m : Str -> Option Value} (hn : s'.heap.Ns Cl m) (hC : s.heap.get? Cl = none) (hKC : K' Cl = none) (k : Kp s s') (g : bw K s.heap K') (i : eV K' s'.heap)
 (r : bJ K' (.list out) (.ref dA)) : compPost C.M A dq none (dS K s (.list out)) (.ref dA) Cl (.ok .next) s' := by
 refine (bC m hn (fun h' hs => ⟨⟨K', g, fun a o e => ?_, r⟩, ?_⟩))
 . have hne : a ≠ Cl := fun q => by rw [q, hKC] at e; exact nS e
   exact (hs.2 a hne).trans (i a o e)
 . obtain ⟨cR, kG, rfl, kk⟩ := k
   refine ⟨h', kG, rfl, fun b o e => ?_⟩
   have hne : b ≠ Cl := fun q => by rw [q, hC] at e; exact nS e
   exact (hs.2 b hne).trans (kk b o e)
end
def iP (t : Expr) (gb go : af -> Option (Fl × af)) : List D -> af -> Option (Fl × af)
 | [], ρ => go ρ
 | d :: ds, ρ => (iM t d ρ).bind fun ρ₁ => match gb ρ₁ with
  | some (.next, ρ₂) => iP t gb go ds ρ₂
  | some (.cont, ρ₂) => iP t gb go ds ρ₂
  | some (.brk, ρ₂) => some (.next, ρ₂)
  | some (.ret d, ρ₂) => some (.ret d, ρ₂)
  | none => none
noncomputable def js (ft : af -> Option Bool) (gb go : af -> Option (Fl × af)) : Nat -> af -> Option (Fl × af)
 | 0, _ => none
 | k + 1, ρ => (ft ρ).bind fun b => if b then (match gb ρ with
  | some (.next, ρ₂) => js ft gb go k ρ₂
  | some (.cont, ρ₂) => js ft gb go k ρ₂
  | some (.brk, ρ₂) => some (.next, ρ₂)
  | some (.ret d, ρ₂) => some (.ret d, ρ₂)
  | none => none) else go ρ
theorem bG.moreP' (F : bG b C P env ow K ρ h) (hw : ∀ a ∈ wr, a ≠ env.locals /\ (∀ x, env.cells.lookup x ≠ some a) /\ ∀ p ∈ ow, p.2 ≠ a) :
 bG b C (fR P wr h) env ow K ρ h := by
 refine ⟨F.fe, fun a o e => ?_, F.lK, ?_, fun x c e => ⟨(F.cel x c e).1, fun hb => ?_⟩, F.apart, F.celAll, fun p hp => ?_, F.ownApart⟩
 . unfold fR at e; split at e
   . exact e
   . exact F.inP a o e
 . unfold fR; rw [if_neg fun m => (hw _ m).1 rfl]; exact F.lP
 . refine n4 ((F.cel x c e).2 hb) fun k p v => ?_
   refine (h9 k ?_ v)
   unfold fR; rw [if_neg fun m => (hw _ m).2.1 x e]; exact p
 . refine aJ (F.own p hp) fun ds vs n h1 h2 h3 h4 h5 h6 h7 h8 => ?_
   refine (bN ds vs n h1 h2 h3 h4 h5 ?_ h7 h8)
   unfold fR; rw [if_neg fun m => (hw _ m).2.2 p hp rfl]; exact h6
inductive Iw (C : dd) (P : KM) (env : Env) (O : List Str) (K cI : KM) (St : Nat -> Heap -> Prop) (wr : List Addr) (rest : Nat -> af -> Prop) (n : Nat) (s : Shared) (k : Nat) (s' : Shared) : Prop
 | mk (i : Nat) (K' : KM) (ow : List (Str × Addr)) (ρ₁ : af) (hk : k = n + 1 - i) (hi : i ≤ n) (how : ay ow = O) (g : fW K P K') (l : kJ cI K') (F : bG bf C P env ow K' ρ₁ s'.heap) (st : St i s'.heap) (sm : bh s s')
  (hd : ∀ a ∈ wr, K' a = none /\ ∀ p ∈ ow, p.2 ≠ a) (hr : rest i ρ₁)
theorem au.for_ {t iter : Expr} {go : af -> Option (Fl × af)} (hit : bc C n sc iter t fi) (hb : ae C n sc O O body gb) (ho : ae C n sc O O orelse go)
 (ht : autoParam (kS bf sc O t = true) aK) (hs : autoParam (∀ env x, foldedSetIterable iter env x = pure x) aR) :
 au C n sc O O (.For t iter body orelse pos) (fun ρ => (fi (eD O ρ)).bind fun ds => iP t gb go ds ρ) := by
 constructor
 intro A env P AI K ρ s fl ρ' hA he how F hg
 refine ax (obE hg) fun ds am hg => ?_
 have fe := F.fe
 rw [how] at fe
 refine wpAny_For (wpAny_mono (hit.run A env K (eD O ρ) s ds hA he fe am) (fun xv s₁ cR => wpAny_mono cR (fun it an ca => ?_) fun _ _ x => x) fun _ _ x => x) (hs env)
 (refine jH ca fun cI I wr St q0 FD st bV bW b7 hw => ?_; clear ca; subst q0)
 have bE := F.keeps b7.get bV bW
 have hwL : ∀ a ∈ wr, a ≠ env.locals /\ (∀ x, env.cells.lookup x ≠ some a) /\ P a = none := fun a m => by
  refine Ea (hw a m) fun h1 h2 => ?_
  refine (h9 (fun q => ?_) (fun x q => ?_) (eX F.inP h1))
  . refine hY F.fe.ns fun m o _ _ ho _ => ?_
    rw [q, ho] at h1; exact sN h1
  . refine Ex (F.fe.cl x a q) fun o ho => ?_; rw [ho] at h1; exact sN h1
 refine codeAny_forLoop_any (Iw C P env O K cI St wr (fun i ρ₁ => iP t gb go (ds.drop i) ρ₁ = some (fl, ρ')) ds.length s) ?_ (ds.length + 1) ⟨0, cI, AI, ρ, rfl, Nat.zero_le _, how, fW.of bV F.inP, kJ.refl _, bE, st, bh.of b7, fun a m => ⟨(hw a m).2, fun p hp q => ?_⟩, hg⟩
 . rintro k s' ⟨i, K', ow, ρ₁, rfl, hi, how', gK, lK, F', st', sm, hd, cE⟩
   have hwA : ∀ a ∈ wr, a ≠ env.locals /\ (∀ x, env.cells.lookup x ≠ some a) /\ P a = none /\ K' a = none /\ ∀ p ∈ ow, p.2 ≠ a := fun a m => (jJ ((hwL a m).1) ((hwL a m).2.1) ((hwL a m).2.2) ((hd a m).1) ((hd a m).2))
   by_cases hlt : i < ds.length
   . have hdi : ds[i]? = some ds[i] := List.getElem?_eq_getElem hlt
     have tt : ds.drop i = ds[i] :: ds.drop (i + 1) := List.drop_eq_getElem_cons hlt
     rw [tt] at cE
     simp only [iP] at cE
     refine ax (obE cE) fun ρ₂ e1 cE => ?_
     refine eh (FD.turn i ds[i] bf P env ow K' ρ₁ ρ₂ s' (fun _ an => ∃ h' tk, an = { s' with heap := h', toks := tk } /\ St (i + 1) h' /\ bG bf C P env ow K' ρ₂ h') hdi lK st' F' hwA (by rw [he, how']; exact ht) e1
      fun h' tk st'' F'' _ _ => (d8 h' tk rfl st'' F'')) (fun r s₁ cR => ?_)
     obtain ⟨v, rfl, cR⟩ := cR
     refine eh cR (fun _ an ca => eh ca (fun _ cX dU => ?_))
     (refine bk dU fun h' tk q0 st'' F'' => ?_; clear dU; subst q0)
     have go_on : ∀ w9 fg, gb ρ₂ = some (w9, fg) -> ∀ (Q : Flow -> Shared -> Prop) (E : Value -> Shared -> Prop), (∀ f cU, iK C (fR P wr h') env O K' { s' with heap := h', toks := tk } fg w9 f cU -> Q f cU) ->
      wpAny C.M A (execs body env) Q E { s' with heap := h', toks := tk } := fun w9 fg e Q E hQ =>
      eh (hb.run A env (fR P wr h') ow K' ρ₂ { s' with heap := h', toks := tk } w9 fg hA he how' (F''.moreP' fun a m => (h9 ((hwA a m).1) ((hwA a m).2.1) ((hwA a m).2.2.2.2))) e) hQ
     have less : ∀ a o, P a = some o -> fR P wr h' a = some o := fun a o e => by
      unfold fR
      rw [if_neg fun m => by have := (hwL a m).2.2; rw [e] at this; exact sN this]
      exact e
     have alive : ∀ a ∈ wr, fR P wr h' a ≠ none := fun a m => by
      unfold fR; rw [if_pos m]; exact FD.alive _ _ st'' a m
     have gP : ∀ {dX}, fW K' (fR P wr h') dX -> fW K' P dX := fun g => ⟨g.1, fun a o e => (g.2 a o e).imp id fun q => by
      cases r : P a with
      | none => rfl
      | some o' => rw [less a o' r] at q; exact sN q⟩
     have loop : ∀ fg cU, (∃ dX fA, ay fA = O /\ fW K' (fR P wr h') dX /\ bG bf C (fR P wr h') env fA dX fg cU.heap) -> bh { s' with heap := h', toks := tk } cU -> iP t gb go (ds.drop (i + 1)) fg = some (fl, ρ') ->
      ∃ m, m < ds.length + 1 - i /\ Iw C P env O K cI St wr (fun i ρ₁ => iP t gb go (ds.drop i) ρ₁ = some (fl, ρ')) ds.length s m cU := fun fg cU h sm' hr => by
      (refine bk h fun dX fA fj dN ce => ?_; clear h)
      refine ⟨_, by with_reducible exact Om.tn ‹_›, i + 1, dX, fA, fg, rfl, hlt, fj, gK.trans (gP dN), lK.trans dN.1, ce.lessP less, ?_, sm.trans (bh.trans (j2 h' tk rfl) sm'), fun a m => ⟨?_, fun p hp q => ?_⟩, hr⟩
      . exact FD.frame _ _ _ st'' (fun a o e => F''.fe.inH a o (lK a o e)) (fun a o e => ce.fe.inH a o (dN.1 _ _ (lK a o e))) fun a m o e => ce.inP a o (by unfold fR; rw [if_pos m]; exact e)
      . cases q : dX a with
        | none => rfl
        | some o =>
         rcases dN.2 a o q with r | r
         . rw [(hwA a m).2.2.2.1] at r; exact nS r
         . exact absurd r (alive a m)
      . refine aJ (ce.own p hp) fun ds vs n h1 h2 h3 h4 h5 h6 h7 h8 => ?_
        rw [q] at h6
        exact alive a m h6
     split at cE
     . rename_i fg e
       refine go_on _ _ e _ _ fun f cU p => ?_
       obtain ⟨⟨dX, fA, fj, dN, ce, rfl⟩, fV⟩ := p
       exact loop fg cU (d8 dX fA (fj rfl) dN ce) fV cE
     . rename_i fg e
       refine go_on _ _ e _ _ fun f cU p => ?_
       obtain ⟨⟨dX, fA, fj, dN, ce, rfl⟩, fV⟩ := p
       exact loop fg cU (d8 dX fA (fj rfl) dN ce) fV cE
     . rename_i fg e
       (refine sP cE fun q0 q1 => ?_; clear cE; subst q0 q1)
       refine go_on _ _ e _ _ fun f cU p => ?_
       obtain ⟨⟨dX, fA, fj, dN, ce, rfl⟩, fV⟩ := p
       exact ⟨⟨dX, fA, fun _ => fj rfl, gK.trans (gP dN), ce.lessP less, rfl⟩, sm.trans (bh.trans (j2 h' tk rfl) fV)⟩
     . rename_i d fg e
       (refine sP cE fun q0 q1 => ?_; clear cE; subst q0 q1)
       refine go_on _ _ e _ _ fun f cU p => ?_
       obtain ⟨⟨dX, fA, fj, dN, ce, v, rfl, r⟩, fV⟩ := p
       exact ⟨⟨dX, fA, fun q => (by cases q), gK.trans (gP dN), ce.lessP less, v, rfl, r⟩, sm.trans (bh.trans ⟨h', tk, rfl⟩ fV)⟩
     . exact nS cE
   . have hin : i = ds.length := by with_reducible exact Om.nf ‹_› ‹_›
     subst hin
     refine eh (FD.done s' (fun r s'' => r = none /\ ∃ h' tk, s'' = { s' with heap := h', toks := tk } /\ ∀ b o, b ∉ wr -> s'.heap.get? b = some o -> h'.get? b = some o) st' fun h' tk k' => (yK rfl h' tk rfl k')) (fun r s'' hr => ?_)
     (refine rB hr fun q0 h' tk q1 k' => ?_; clear hr; subst q0 q1)
     simp only [List.drop_length, iP] at cE
     have F'' := F'.off hwA k'
     exact eh (ho.run A env P ow K' ρ₁ { s' with heap := h', toks := tk } fl ρ' hA he how' F'' cE) fun f cU p => p.after gK (sm.trans (j2 h' tk rfl))
 . refine fh (F.own p hp) fun ds vs n h1 h2 h3 _ => ?_
   have := (hw a m).1
   rw [<- q, h3] at this; exact sN this
theorem au.while_ {t : Expr} {go : af -> Option (Fl × af)} (N : af -> Nat) (hte : dP C n sc O t ft) (hb : ae C n sc O O body gb) (ho : ae C n sc O O orelse go) :
 au C n sc O O (.While t body orelse pos) (fun ρ => js ft gb go (N ρ) ρ) := by
 constructor
 intro A env P AI K ρ s fl ρ' hA he how F hg
 refine wpAny_While (codeAny_whileLoop (fun k s' => ∃ K' ow ρ₁, ay ow = O /\ fW K P K' /\ bG bf C P env ow K' ρ₁ s'.heap /\ bh s s' /\ js ft gb go k ρ₁ = some (fl, ρ')) ?_ (N ρ) (nu K AI ρ how (fW.refl _ _) F (bh.refl _) hg))
 rintro k s' ⟨K', ow, ρ₁, how', gK, F', sm, cE⟩
 cases k with
 | zero => simp [js] at cE
 | succ k =>
  simp only [js] at cE
  refine ax (obE cE) fun b am cE => ?_
  refine eh (hte.run A env P ow K' ρ₁ s' b hA he how' F' am) (fun r s₁ p => ?_)
  (refine n4 p fun q0 aq k₁ => ?_; clear p; subst q0)
  have dl := sm.trans (bh.of k₁)
  cases r with
  | false =>
   simp only [Bool.false_eq_true, if_false] at cE ⊢
   exact eh (ho.run A env P ow K' ρ₁ s₁ fl ρ' hA he how' aq cE) fun f cU p => p.after gK dl
  | true =>
   simp only [if_true] at cE ⊢
   split at cE
   . rename_i fg e
     refine eh (hb.run A env P ow K' ρ₁ s₁ _ _ hA he how' aq e) fun f cU p => ?_
     obtain ⟨⟨dX, fA, fj, dN, ce, rfl⟩, fV⟩ := p
     exact (nt k (Nat.lt_succ_self _) dX fA fg (fj rfl) (gK.trans dN) ce (dl.trans fV) cE)
   . rename_i fg e
     refine eh (hb.run A env P ow K' ρ₁ s₁ _ _ hA he how' aq e) fun f cU p => ?_
     obtain ⟨⟨dX, fA, fj, dN, ce, rfl⟩, fV⟩ := p
     exact (nt k (Nat.lt_succ_self _) dX fA fg (fj rfl) (gK.trans dN) ce (dl.trans fV) cE)
   . rename_i fg e
     (refine sP cE fun q0 q1 => ?_; clear cE; subst q0 q1)
     refine eh (hb.run A env P ow K' ρ₁ s₁ _ _ hA he how' aq e) fun f cU p => ?_
     obtain ⟨⟨dX, fA, fj, dN, ce, rfl⟩, fV⟩ := p
     exact ⟨⟨dX, fA, fun _ => fj rfl, gK.trans dN, ce, rfl⟩, dl.trans fV⟩
   . rename_i d fg e
     (refine sP cE fun q0 q1 => ?_; clear cE; subst q0 q1)
     refine eh (hb.run A env P ow K' ρ₁ s₁ _ _ hA he how' aq e) fun f cU p => ?_
     obtain ⟨⟨dX, fA, fj, dN, ce, v, rfl, r⟩, fV⟩ := p
     exact ⟨⟨dX, fA, fun q => (by cases q), gK.trans dN, ce, v, rfl, r⟩, dl.trans fV⟩
   . exact nS cE
theorem bG.own1 {vs : List Value} (F : bG b C P env ow K (vW ρ x) h) (hx : (ay ow).contains x = false)
 (hv : dQ env h x (.ref a)) (he : h.get? a = some (aT vs k)) (hr : ak K ds vs) (hK : K a = none) (hP : P a = none) (hl : a ≠ env.locals) (hc : ∀ x, env.cells.lookup x ≠ some a) (hap : ∀ p ∈ ow, p.2 ≠ a) :
 bG b C P env ((x, a) :: ow) K (upd ρ x (.list ds)) h := by
 refine ⟨⟨F.fe.fn, F.fe.gl, F.fe.bl, F.fe.inH, F.fe.base, F.fe.ns, fun y d' e => ?_, F.fe.caps, F.fe.cl⟩, F.inP, F.lK, F.lP, F.cel, F.apart, F.celAll, fun p hp => ?_, List.pairwise_cons.mpr ⟨fun p hp => Ne.symm (hap p hp), F.ownApart⟩⟩
 . by_cases hy : y = x
   . subst hy
     unfold eD ay at e
     simp at e
   . refine F.fe.vars y d' ?_
     unfold eD ay at e
     unfold eD ay vW
     simp only [List.map_cons, List.contains_cons] at e
     have hb : (y == x) = false := by simpa using hy
     rw [hb, Bool.false_or] at e
     unfold upd at e
     simp only [if_neg hy] at e ⊢
     exact e
 . rcases List.mem_cons.mp hp with rfl | hp
   . exact (bN ds vs k (by simp [upd]) hv he hr hK hP hl (fun y c q r => hc y (by rw [q]; exact congrArg some r.symm)))
   . refine mF (F.own p hp) fun ds vs n h1 r => ?_
     refine (yM ds vs n ?_ r)
     unfold vW at h1; unfold upd
     by_cases hy : p.1 = x
     . rw [if_pos hy] at h1; exact nS h1
     . rw [if_neg hy] at h1 ⊢; exact h1
theorem au.own1 (h : aa C n sc lpos es fl) (hx : eI bf sc O x = true)
 (hs : autoParam (∀ env, env.scope = sc -> swapsWith (.List es lpos) (some (.Name x px)) pos.line env = pure false) aR) :
 au C n sc O (x :: O) (.Assign [.Name x px] (.List es lpos) pos) (fun ρ => (fl (eD O ρ)).bind fun ds => if ds.length ≤ 10000 then some (.next, upd ρ x (.list ds)) else none) := by
 constructor
 intro A env P ow K ρ s fl' ρ' hA he ho F hg
 refine ax (obE hg) fun ds am hg => ?_
 split at hg
 . rename_i hl
   (refine sP hg fun q0 q1 => ?_; clear hg; subst q0 q1)
   subst he
   refine Ea (cq hx) fun hx1 hx2 => ?_
   have fe := F.fe
   rw [ho] at fe
   refine wpAny_Assign_Name (wpAny_List (wpAny_mono (h.run A env K (eD O ρ) s ds hA rfl fe am) (fun vs s₁ p => ?_) fun _ _ x => x)) (hs env rfl)
   (refine Ea p fun q0 k₁ => ?_; clear p; obtain ⟨ap, av, aA, aB⟩ := q0)
   have df := aB.length
   refine ⟨by rw [aO]; with_reducible exact Om.eN ‹_› (OfNat.ofNat _) ‹_› rfl, ?_⟩
   have aq := F.keeps k₁.get av aA
   have hsz := bt s₁.heap
   have b7 : ∀ b o, s₁.heap.get? b = some o -> (s₁.heap.push (aT vs 0)).get? b = some o := fun b o e => Heap.get?_push_of_some _ e
   have bE := aq.keeps b7 (bw.refl _ _) fun a o e => b7 _ _ (aA a o e)
   have hL : s₁.heap.objs.size ≠ env.locals := fun q => by
    refine hY aq.fe.ns fun m o _ _ ho _ => ?_
    rw [<- q, hsz] at ho; exact nS ho
   have hc : ∀ x, env.cells.lookup x ≠ some s₁.heap.objs.size := fun x q => by
    refine Ex (aq.fe.cl x _ q) fun o ho => ?_; rw [hsz] at ho; exact nS ho
   refine bG.store0 (s := { s₁ with heap := s₁.heap.push (aT vs 0) }) bE (by rw [ho]; exact hx1) hx2 fun h' tk F' V l' k' => ?_
   have Ac : h'.get? s₁.heap.objs.size = some (aT vs 0) := k' _ _ hL hc (Heap.get?_push_size _ rfl)
   refine ⟨⟨ap, (x, s₁.heap.objs.size) :: ow, fun _ => by rw [<- ho]; rfl, fW.of av F.inP, F'.own1 (by rw [ho]; exact hx1) V Ac aB (aX aA hsz) (eX aq.inP hsz) hL hc fun p hp q => ?_, rfl⟩, (bh.of k₁).trans (j2 h' tk rfl)⟩
   refine fh (aq.own p hp) fun ds vs n h1 h2 h3 _ => ?_
   rw [q, hsz] at h3; exact nS h3
 . exact nS hg
theorem ae.freeze (h : ae C n sc O O' ss g) : ae C n sc (x :: O) O' ss g := by
 constructor
 intro A env P ow K ρ s fl ρ' hA he ho F hg
 cases ow with
 | nil => simp [ay] at ho
 | cons p ow =>
  obtain ⟨y, a⟩ := p
  simp only [ay, List.map_cons, List.cons.injEq] at ho
  obtain ⟨rfl, ho⟩ := ho
  obtain ⟨ds, vs, k, h1, h2, h3, h4, h5, h6, h7, h8⟩ := F.own (y, a) List.mem_cons_self
  have le : kJ K (bH K a (aT vs k)) := ed h5
  have F' : bG bf C P env ow (bH K a (aT vs k)) ρ s.heap := by
   refine ⟨⟨F.fe.fn, F.fe.gl, F.fe.bl, fun b o e => ?_, fun b o e => le _ _ (F.fe.base b o e), F.fe.ns, fun z d e => ?_, F.fe.caps, F.fe.cl⟩, F.inP, ?_, F.lP, fun z c e => ⟨(F.cel z c e).1, fun hb => ?_⟩, F.apart, F.celAll, fun p hp => ?_, (List.pairwise_cons.mp F.ownApart).2⟩
   . unfold bH at e
     split at e
     . rename_i q; subst q; cases e; exact h3
     . exact F.fe.inH b o e
   . by_cases hz : z = y
     . subst hz
       unfold eD at e
       split at e
       . cases e
       . rw [h1] at e; cases e
         exact (bC _ h2 (by simp only [bJ]; exact (fD a vs k rfl (by unfold bH; rw [if_pos rfl]) (h4.mono le))))
     . have e' : eD (ay ((y, a) :: ow)) ρ z = some d := by
        unfold eD ay at e ⊢
        simp only [List.map_cons, List.contains_cons]
        have hb : (z == y) = false := by simpa using hz
        rw [hb, Bool.false_or]; exact e
       obtain ⟨v, q1, q2⟩ := F.fe.vars z d e'
       exact (bC v q1 (q2.mono le))
   . unfold bH; rw [if_neg (Ne.symm h7)]; exact F.lK
   . obtain ⟨q1, q2, q3⟩ := (F.cel z c e).2 hb
     refine (h9 ?_ q2 q3)
     unfold bH; rw [if_neg (fun q => h8 z c e q.symm)]; exact q1
   . obtain ⟨ds', vs', k', q1, q2, q3, q4, q5, q6, q7, q8⟩ := F.own p (List.mem_cons_of_mem _ hp)
     refine (bN ds' vs' k' q1 q2 q3 (q4.mono le) ?_ q6 q7 q8)
     unfold bH
     rw [if_neg (fun q => (List.pairwise_cons.mp F.ownApart).1 p hp q.symm)]; exact q5
  exact wpAny_mono (h.run A env P ow _ ρ s fl ρ' hA he ho F' hg) (fun f an p => p.after ⟨le, fun b o e => by
   unfold bH at e
   split at e
   . rename_i q; subst q; exact .inr h6
   . exact .inl e⟩ (bh.refl _)) fun _ _ x => x
noncomputable def yT : Option D -> Option (List D)
 | some (.list ds) => some ds
 | _ => none
theorem jN {d : Option D} (h : yT d = some ds) : d = some (.list ds) := by
 unfold yT at h; split at h <;> simp at h; subst h; rfl
theorem bG.ownSet {p : Str × Addr} {ds' : List D} {vs' : List Value} (F : bG bf C P env ow K ρ h) (hp : p ∈ ow) (hnd : (ay ow).Nodup)
 (he : h'.get? p.2 = some (aT vs' k')) (hs : Heap.SameBut p.2 h h') (hr : ak K ds' vs') : bG bf C P env ow K (upd ρ p.1 (.list ds')) h' := by
 refine aJ (F.own p hp) fun ds vs k h1 h2 h3 h4 h5 h6 h7 h8 => ?_
 have old : ∀ a o, a ≠ p.2 -> h.get? a = some o -> h'.get? a = some o := fun a o q e => (hs.2 a q).trans e
 have hv : ∀ {y v}, dQ env h y v -> dQ env h' y v := by
  intro y v z
  cases z with
  | loc m a1 a2 a3 => exact .loc m a1 (a2.at' fun o e => old _ o (Ne.symm h7) e) a3
  | cell c a1 a2 a3 => (refine ax a3 fun o ho hd => ?_; clear a3); exact .cell c a1 a2 (bC o (old _ o (fun q => h8 _ _ a2 q.symm) ho) hd)
  | free c a1 a2 a3 => (refine ax a3 fun o ho hd => ?_; clear a3); exact .free c a1 a2 (bC o (old _ o (fun q => h8 _ _ a2 q.symm) ho) hd)
 have hK : ∀ a o, K a = some o -> a ≠ p.2 := fun a o e q => by rw [q, h5] at e; exact nS e
 have hP : ∀ a o, P a = some o -> a ≠ p.2 := fun a o e q => by rw [q, h6] at e; exact nS e
 have hno : (ay ow).contains p.1 = true := by rw [List.contains_iff_mem]; exact List.mem_map.mpr (bC p hp rfl)
 refine ⟨⟨F.fe.fn, F.fe.gl, F.fe.bl, fun a o e => old a o (hK a o e) (F.fe.inH a o e), F.fe.base, ?_, fun y d e => ?_, fun y e => ?_, fun y c e => ?_⟩, fun a o e => old a o (hP a o e) (F.inP a o e), F.lK, F.lP, fun y c e => ⟨(F.cel y c e).1, fun hb => ?_⟩, F.apart, F.celAll, fun q hq => ?_, F.ownApart⟩
 . refine Ex F.fe.ns fun m hn => ?_; exact ⟨m, hn.at' fun o e => old _ o (Ne.symm h7) e⟩
 . have hy : y ≠ p.1 := fun q => by subst q; unfold eD at e; rw [hno] at e; simp at e
   refine ax (F.fe.vars y d (by unfold eD upd at e; unfold eD; simp only [if_neg hy] at e; exact e)) fun v q1 q2 => ?_
   exact (bC v (hv q1) q2)
 . refine Bw (F.fe.caps y e) fun c q1 o q2 => ?_; exact (yL c q1 o (old _ _ (fun q => h8 _ _ q1 q.symm) q2))
 . refine Ex (F.fe.cl y c e) fun o q2 => ?_; exact ⟨o, old _ _ (fun q => h8 _ _ e q.symm) q2⟩
 . refine qg ((F.cel y c e).2 hb) fun q1 q2 v o q3 q4 => ?_; exact (qk q1 q2 v o (old _ _ (fun q => h8 _ _ e q.symm) q3) q4)
 . refine aJ (F.own q hq) fun t7 n3 k₁ q1 q2 q3 q4 q5 q6 q7 q8 => ?_
   by_cases hqp : q.1 = p.1
   . have : q = p := by
      have inj : ∀ {l : List (Str × Addr)}, (ay l).Nodup -> q ∈ l -> p ∈ l -> q = p := by
       intro l
       induction l with
       | nil => intro _ h; cases h
       | cons z l ih =>
        intro hn h1 h2
        simp only [ay, List.map_cons, List.nodup_cons] at hn
        rcases List.mem_cons.mp h1 with e1 | h1 <;> rcases List.mem_cons.mp h2 with e2 | h2
        . rw [e1, e2]
        . exact absurd (List.mem_map.mpr (bC p h2 (by rw [<- hqp, e1]))) hn.1
        . exact absurd (List.mem_map.mpr (bC q h1 (by rw [hqp, e2]))) hn.1
        . exact ih hn.2 h1 h2
      exact inj hnd hq hp
     subst this
     exact (bN ds' vs' k' (by simp [upd]) (hv q2) he hr h5 h6 h7 h8)
   . have hne : q.2 ≠ p.2 := by
      intro e
      have inj : ∀ {l : List (Str × Addr)}, (l.Pairwise fun x y => x.2 ≠ y.2) -> q ∈ l -> p ∈ l -> q = p := by
       intro l
       induction l with
       | nil => intro _ h; cases h
       | cons z l ih =>
        intro hn h1 h2
        refine Ea (List.pairwise_cons.mp hn) fun n1 n2 => ?_
        rcases List.mem_cons.mp h1 with e1 | h1 <;> rcases List.mem_cons.mp h2 with e2 | h2
        . rw [e1, e2]
        . exact absurd (by rw [<- e1, e]) (n1 p h2)
        . exact absurd (by rw [<- e2, e]) (n1 q h1)
        . exact ih n2 h1 h2
      exact hqp (by rw [inj F.ownApart hq hp])
     exact (bN t7 n3 k₁ (by unfold upd; rw [if_neg hqp]; exact q1) (hv q2) (old _ _ hne q3) q4 q5 q6 q7 q8)
theorem au.append {elt : Expr} (h : aM C n sc O elt f) (hx : O.contains x = true) (hnd : O.Nodup) (hc : autoParam ((x == ("__classdict__" : Str)) = false) aK) (hd : autoParam ((x == ("__debug__" : Str)) = false) aK)
 (bZ : autoParam (∀ env, attributeBase (.Name x px) "append" env (eval (.Name x px) env) = eval (.Name x px) env) aR)
 (GZ : autoParam (∀ env, ((backTo cpos (starEach [elt] env)).all (fun x => !x.1) && (backToKw cpos (keywordEach [] env)).all (fun x => x.1.isSome)
  && decide (([elt] : List Expr).length + ([] : List Keyword).length + (if ([] : List Keyword).isEmpty then 0 else 1) < 30)) = true) aR)
 (ia : autoParam ((apos.endLine == cpos.line) = true) aR)
 (v8 : autoParam (∀ env, backTo cpos (starEach [elt] env) = [(false, eval elt env)]) aR)
 (hsw : autoParam (∀ env, swapsWith (.Call (.Attribute (.Name x px) "append" apos) [elt] [] cpos) none pos.line env = pure false) aR) (hki : autoParam (sc.kind = .function) aR) :
 au C n sc O O (.Expr (.Call (.Attribute (.Name x px) "append" apos) [elt] [] cpos) pos) (fun ρ => (yT (ρ x)).bind fun ds => (f ρ).bind fun d => if ds.length < 10000 then some (.next, upd ρ x (.list (ds ++ [d]))) else none) := by
 constructor
 intro A env P ow K ρ s fl ρ' hA he ho F hg
 refine ax (obE hg) fun ds am hg => ?_
 refine ax (obE hg) fun d ar hg => ?_
 split at hg
 . rename_i hl
   (refine sP hg fun q0 q1 => ?_; clear hg; subst q0 q1)
   have hm : x ∈ ay ow := by rw [ho]; simpa using hx
   (refine ax (List.mem_map.mp hm) fun p hp q0 => ?_; subst q0)
   refine aJ (F.own p hp) fun ds' vs k h1 h2 h3 h4 h5 h6 h7 h8 => ?_
   rw [jN am] at h1; cases h1
   refine wpAny_Expr_any (wpAny_Call_append (bZ env) (GZ env) ia (v8 env) (wpAny_Name (ci F.fe.fn h2 (d8 p.2 vs.toArray rfl (eR _ k h3 rfl rfl rfl) ?_) hc) hd)) (by unfold interactive; rw [he, hki]; rfl) (hsw env)
   refine wpAny_mono (h.run A env P ow K ρ s d hA he ho F ar) (fun v s₁ q => ?_) fun _ _ x => x
   (refine gD q fun ap av aq aB k₁ => ?_; clear q)
   refine aJ (aq.own p hp) fun t7 n3 Dx q1 q2 q3 q4 q5 q6 q7 q8 => ?_
   rw [jN am] at q1; cases q1
   refine wpAny_list_append_plain (items := n3.toArray) ⟨_, q3⟩ (fun h' hl' hs' => ?_) (by have := q4.length; simp only [List.size_toArray]; rw [aO]; with_reducible exact Om.eS ‹_› (OfNat.ofNat _) ‹_› rfl)
   (refine Ex hl' fun m' bO => ?_; clear hl')
   refine ⟨⟨ap, ow, fun _ => ho, fW.of av F.inP, aq.ownSet hp (by rw [ho]; exact hnd) (vs' := n3 ++ [v]) (k' := m') (by rw [bO]; simp [aT]) hs' (q4.append (ak.one aB)), rfl⟩, (bh.of k₁).trans (j2 h' s₁.toks rfl)⟩
 . exact nS hg
theorem oV {A : Around} {E : Value -> Shared -> Prop} {l : Addr} {vs : List Value} {k : Int} {t : Tok} {Q : Unit -> Shared -> Prop} (ho : s.heap.get? l = some (aT vs m))
 (h0 : 0 ≤ k) (M2 : k < 2 ^ 63) (hn : k < vs.length)
 (hQ : ∀ h' m', h'.get? l = some (aT (vs.set k.toNat v) m') -> Heap.SameBut l s.heap h' -> Q () { s with heap := h' }) :
 wpAny C.M A (setItem (.ref l) (.int k t) v) Q E s := by
 have hl : s.heap.IsList l vs.toArray := (kH _ ho rfl m rfl)
 have hd : (aT vs m).data = .seq vs.toArray m := rfl
 unfold setItem
 try with_reducible refine wpAny_holding ?_
 first | refine wpAny_bind (wpAny_pure ?_) | skip
 refine wpAny_bind (wpAny_sequenceKey hl.typeIs (by decide) ?_)
 refine wpAny_bind (wpAny_callSpecial?_slot (name := Str.ofString "__setitem__") hl.typeIs slot_list_setitem
  (wpAny_call_entry slot_list_setitem hl.typeIs entry_list_setitem ?_ (args_list_setitem _ _ _)))
 show wpAny _ _ (Builtin.List.listSubscript? (.int k t) >>= _) _ _ s
 refine wpAny_bind (wpAny_listSubscript_int (fitsIndex_of h0 M2) ?_)
 clear M2
 (refine Ex (Int.eq_ofNat_of_zero_le h0) fun j q0 => ?_; subst q0)
 have hj : j < vs.toArray.size := by simp only [List.size_toArray]; exact Int.ofNat_lt.mp hn
 have hx' : vs.toArray[j]? = some vs.toArray[j] := Array.getElem?_eq_getElem hj
 show wpAny _ _ ((seqItemAt l j >>= fun r => pure (r.map (j, ·))) >>= _) _ _ s
 refine wpAny_bind (wpAny_bind (wpAny_seqItemAt ho hd (wpAny_pure ?_)))
 rw [hx']
 show wpAny _ _ (setSeqItemAt l j v >>= _) _ _ s
 have hms : ∃ m', Obj.mapSeq (·.setIfInBounds j v) (aT vs m) = aT (vs.set j v) m' := ⟨m, by simp [Obj.mapSeq, aT]⟩
 refine Ex hms fun m' hms => ?_
 have tx : (s.heap.update l (Obj.mapSeq (·.setIfInBounds j v))).get? l = some (aT (vs.set j v) m') := by
  rw [Heap.get?_update_self _ ho (by rw [hms]; rfl), hms]
 refine wpAny_bind (wpAny_setSeqItemAt ho hd ?_)
 first
  | exact wpAny_bind (wpAny_pure (wpAny_pure (bC .none rfl (wpAny_pure (hQ _ m' tx (Heap.SameBut.update ..))))))
  | exact wpAny_pure ⟨.none, rfl, wpAny_pure (hQ _ m' tx (Heap.SameBut.update ..))⟩
theorem ak.set {K : KM} : ∀ {ds : List D} {vs : List Value} {i : Nat} {d : D} {v : Value}, ak K ds vs -> bJ K d v -> ak K (ds.set i d) (vs.set i v)
 | [], _, i, _, _, x, _ => by simp only [ak] at x; subst x; simp [ak]
 | _ :: _, _, 0, _, _, x, y => by simp only [ak] at x; (refine bk x fun w r q0 p q => ?_; clear x; subst q0); exact .cons y q
 | _ :: _, _, i + 1, _, _, x, y => by simp only [ak] at x; (refine bk x fun w r q0 p q => ?_; clear x; subst q0); exact .cons p (ak.set q y)
theorem au.setItem {idx value : Expr} {fv fi : af -> Option D} (hv : aM C n sc O value fv) (hi : aM C n sc O idx fi) (hx : O.contains x = true) (hnd : O.Nodup) (hc : (x == ("__classdict__" : Str)) = false)
 (hd : (x == ("__debug__" : Str)) = false) (hs : autoParam (∀ env, env.scope = sc -> swapsWith value (some (.Subscript (.Name x px) idx spos)) pos.line env = pure false) aR) :
 au C n sc O O (.Assign [.Subscript (.Name x px) idx spos] value pos)
  (fun ρ => (yT (ρ x)).bind fun ds => (fv ρ).bind fun d => ((fi ρ).bind yS).bind fun k => if 0 ≤ k /\ k < ds.length /\ ds.length < 16777216 then some (.next, upd ρ x (.list (ds.set k.toNat d))) else none) := by
 constructor
 intro A env P ow K ρ s fl ρ' hA he ho F hg
 refine ax (obE hg) fun ds am hg => ?_
 refine ax (obE hg) fun d ar hg => ?_
 refine ax (obE hg) fun k bO hg => ?_
 refine ax (obE bO) fun dk bO gz => ?_
 obtain rfl := jM gz
 split at hg
 . rename_i hl
   (refine sP hg fun q0 q1 => ?_; clear hg; subst q0 q1)
   have hm : x ∈ ay ow := by rw [ho]; simpa using hx
   (refine ax (List.mem_map.mp hm) fun p hp q0 => ?_; subst q0)
   refine wpAny_Assign_Subscript (wpAny_mono (hv.run A env P ow K ρ s d hA he ho F ar) (fun v s₁ q => ?_) fun _ _ x => x) (hs env he)
   (refine gD q fun ap av aq aB k₁ => ?_; clear q)
   refine aJ (aq.own p hp) fun t7 n3 Dx q1 q2 q3 q4 q5 q6 q7 q8 => ?_
   rw [jN am] at q1; cases q1
   refine wpAny_Name (ci aq.fe.fn q2 ?_ hc) hd
   refine wpAny_mono (hi.run A env P ow ap ρ s₁ _ hA he ho aq bO) (fun iv an q => ?_) fun _ _ x => x
   (refine gD q fun cI bV bE ek b7 => ?_; clear q)
   (refine Ex (aZ ek) fun t q0 => ?_; subst q0)
   refine aJ (bE.own p hp) fun ds₂ vs₂ k₂' w1 w2 w3 w4 w5 w6 w7 w8 => ?_
   rw [jN am] at w1; cases w1
   have df := w4.length
   refine oV w3 hl.1 (Om.b1' hl.2.1 hl.2.2 rfl) (by exact lt_of_lt_of_eq hl.right.left (congrArg Nat.cast (id (Eq.symm df)))) fun h' m' hg' hs' => ?_
   exact ⟨⟨cI, ow, fun _ => ho, (fW.of av F.inP).trans (fW.of bV aq.inP), bE.ownSet hp (by rw [ho]; exact hnd) hg' hs' (w4.set (aB.mono bV.1)), rfl⟩, (bh.of (k₁.trans b7)).trans (j2 h' an.toks rfl)⟩
 . exact nS hg
structure ba (C : dd) (n : Nat) (sc : Scope) (elt : Expr) (gens : List Comprehension) (scope : Scope) (pos : Pos) (f : af -> Option (List D)) : Prop where
 run : ∀ (A : Around) (env : Env) (K : KM) (ρ : af) (s : Shared) (out : List D), dg n A -> env.scope = sc -> nq C env K ρ s.heap -> f ρ = some out -> ∀ (cpos : Pos) (use : Option (Value -> Sem Unit)) (Q : Value -> Shared -> Prop),
  (∀ dA Cl s' K' m, s'.heap.Ns Cl m -> s.heap.get? Cl = none -> K' Cl = none -> Kp s s' -> bw K s.heap K' -> eV K' s'.heap -> bJ K' (.list out) (.ref dA) -> compPost C.M A dq use Q (.ref dA) Cl (.ok .next) s') ->
  wpAny C.M A (comprehension (.ListComp elt gens scope pos) scope env cpos (newList []) (firstAsync gens) (firstIter gens env) use) Q dq s
noncomputable def yo (out : List D) : Option (List D) := if out.length ≤ 16777216 then some out else none
theorem te {o : List D} (h : yo o = some out) : o = out /\ out.length ≤ sizeLine := by
 unfold yo at h
 split at h
 . rename_i hl; (replace h := siE h; subst h); exact ⟨rfl, by rw [aO]; exact hl⟩
 . exact nS h
theorem ba.one {elt t iter : Expr} {g : af -> Option D}
 (hit : bc C n sc iter t fi) (qT : b9 C n (jo scope sc) ifs ft) (hel : ab C n (jo scope sc) elt g) (hk : autoParam (scope.kind = .function) aK) (ck : autoParam (ml scope sc = true) aK)
 (ht : autoParam (kS (oU scope) (jo scope sc) [] t = true) aK) (hTs : autoParam (((dh t).all fun x => !(scope.names.lookup x == some .free)) = true) aK) (hs : autoParam (∀ env x, foldedSetIterable iter env x = pure x) aR) :
 ba C n sc elt [⟨t, iter, ifs, 0⟩] scope pos (fun ρ => (fi ρ).bind fun ds => (ip t ft (fun ρ => (g ρ).map ([·])) (qG scope ρ) ds).bind yo) := by
 constructor
 intro A env K ρ s out hA he F hf cpos use Q tx
 refine ax (obE hf) fun ds am hf => ?_
 refine ax (obE hf) fun out' ar hf => ?_
 (refine Ea (te hf) fun q0 hl => ?_; subst q0)
 exact pd (fun I dA env => KW) hit qT (lB.elt hel) hk ck ht (fun x hx => hx) hTs hs hA he F am ar hl tx
theorem ba.two {elt t iter t1 : Expr} {g : af -> Option D}
 (hit : bc C n sc iter t fi) (qT : b9 C n (jo scope sc) ifs ft) (hit1 : bc C n (jo scope sc) i1 t1 f1) (M5 : b9 C n (jo scope sc) ifs1 ft1) (hel : ab C n (jo scope sc) elt g)
 (hk : scope.kind = .function) (ck : ml scope sc = true)
 (ht : kS (oU scope) (jo scope sc) [] t = true) (ht1 : kS (oU scope) (jo scope sc) [] t1 = true) (hTs : ((dh t ++ dh t1).all fun x => !(scope.names.lookup x == some .free)) = true)
 (hs : autoParam (∀ env x, foldedSetIterable iter env x = pure x) aR) (hs1 : autoParam (∀ env x, foldedSetIterable i1 env x = pure x) aR) :
 ba C n sc elt [⟨t, iter, ifs, 0⟩, ⟨t1, i1, ifs1, 0⟩] scope pos (fun ρ => (fi ρ).bind fun ds =>
  (ip t ft (fun ρ => (f1 (gF (dh t1) ρ)).bind fun ds => ip t1 ft1 (fun ρ => (g ρ).map ([·])) (gF (dh t1) ρ) ds) (qG scope ρ) ds).bind yo) := by
 constructor
 intro A env K ρ s out hA he F hf cpos use Q tx
 refine ax (obE hf) fun ds am hf => ?_
 refine ax (obE hf) fun out' ar hf => ?_
 (refine Ea (te hf) fun q0 hl => ?_; subst q0)
 exact pd (fun I dA env => GE) hit qT (lB.nest (T := dh t ++ dh t1) hit1 M5 hel ht1 (fun x hx => List.mem_append_right _ hx) hs1) hk ck ht (fun x hx => List.mem_append_left _ hx) hTs hs hA he F am ar hl tx
theorem ab.comp {elt : Expr} {gens : List Comprehension} {f : af -> Option (List D)} (h : ba C n sc elt gens scope pos f) : ab C n sc (.ListComp elt gens scope pos) (fun ρ => (f ρ).map .list) := by
 constructor
 intro A env K ρ s d hA he F hf
 (refine ax (omE hf) fun out am q0 => ?_; subst q0)
 rw [eval_ListComp]
 exact h.run A env K ρ s out hA he F am _ none (dS K s (.list out)) fun dA Cl s' K' m hn hC hKC k g i r => ze hn hC hKC k g i r
theorem au.compSet {elt : Expr} {gens : List Comprehension} {f : af -> Option (List D)} (h : ba C n sc elt gens scope pos f) (hx : eI bf sc O y = true)
 (hsw : ∀ env, env.scope = sc -> swapsWith (.ListComp elt gens scope pos) (some (.Name y py)) spos.line env = pure true) :
 au C n sc O O (.Assign [.Name y py] (.ListComp elt gens scope pos) spos) (fun ρ => (f (eD O ρ)).bind fun out => some (.next, upd ρ y (.list out))) := by
 constructor
 intro A env P ow K ρ s fl ρ' hA he ho F hg
 refine ax (obE hg) fun out am hg => ?_
 (refine sP hg fun q0 q1 => ?_; clear hg; subst q0 q1)
 have fe := F.fe
 rw [ho] at fe
 rw [exec_Assign_Name_used _ _ _ _ (hsw env he)]
 refine wpAny_bind (wpAny_standAt (wpAny_bind ?_))
 show wpAny _ A (do let _ <- comprehension (.ListComp elt gens scope pos) scope env _ (newList []) (firstAsync gens) (firstIter gens env) (some (PySem.assign (.Name y py) env))) _ _ s
 refine wpAny_bind (wpAny_mono (h.run A env K (eD O ρ) s out hA he fe am _ (some (PySem.assign (.Name y py) env)) (fun _ s' => iK C P env O K s (upd ρ y (.list out)) .next .next s') fun dA Cl s' K' m hn hC hKC k g i r => ?_)
  (fun _ s' hq => wpAny_pure (wpAny_pure hq)) fun _ _ x => x)
 subst he
 refine Ea (cq hx) fun hx1 hx2 => ?_
 have F' := F.keeps k.get g i
 show wpAny C.M A (PySem.assign (.Name y py) env (.ref dA)) _ dq s'
 have hCL : Cl ≠ env.locals := fun q => by
  refine hY F.fe.ns fun m o _ _ ho _ => ?_
  rw [<- q, hC] at ho; exact nS ho
 have hCc : ∀ x, env.cells.lookup x ≠ some Cl := fun x q => by
  refine Ex (F.fe.cl x _ q) fun o ho => ?_; rw [hC] at ho; exact nS ho
 refine wpAny_assign_Name (F'.store r (by rw [ho]; exact hx1) hx2 fun h' tk F'' l' k' => ?_)
 refine (bC m (hn.at' fun o e => k' _ o hCL hCc e) (fun h'' hs => ?_))
 refine ⟨⟨K', ow, fun _ => ho, fW.of g F.inP, bG.off (wr := [Cl]) F'' (fun a ha => ?_) (fun b o hb e => (hs.2 b (by simpa using hb)).trans e), rfl⟩, (bh.of k).trans (j2 h'' tk rfl)⟩
 have ha : a = Cl := by simpa using ha
 subst ha
 refine (jJ hCL hCc (eX F.inP hC) hKC (fun p hp q => ?_))
 refine fh (F.own p hp) fun ds vs n h1 h2 h3 _ => ?_
 rw [q, hC] at h3; exact nS h3
theorem pG {env : Env} : ∀ {es : List Expr} {xs : List Str}, ey es = some xs -> es.length = xs.length /\ (assignEach es env).length = es.length /\ (assignEach es env).findIdx? (·.1) = none
 | [], xs, h => by simp only [ey, Option.some.injEq] at h; subst h; exact (h9 rfl rfl rfl)
 | e :: es, xs, h => by
  cases e <;> (first | exact dK h | simp only [ey, rc] at h)
  split at h
  . rename_i x' xs' hx' hxs'
    (replace h := siE h; subst h)
    refine n4 (pG (env := env) hxs') fun a1 a2 a3 => ?_
    refine (h9 (by simp [a1]) ?_ ?_)
    . show (_ :: assignEach es env).length = _; simp [a2]
    . show (((false, _) : Bool × (Value -> Sem Unit)) :: assignEach es env).findIdx? (·.1) = none
      rw [List.findIdx?_cons]
      simp only [Bool.false_eq_true, if_false]
      rw [a3]; rfl
  . exact nS h
theorem jZ : ∀ {xs : List Str} {ds : List D} {ρ ρ' : af}, dI ρ xs ds = some ρ' -> xs.length = ds.length
 | [], [], _, _, _ => rfl
 | [], _ :: _, _, _, h => by exact dK h
 | _ :: _, [], _, _, h => by exact dK h
 | x :: xs, d :: ds, ρ, ρ', h => by simp only [dI] at h; simp [jZ h]
noncomputable def uD : D -> Option (List D)
 | .tup ds => some ds
 | .list ds => some ds
 | _ => none
theorem au.tupSet (h : aM C n sc O e f) (hn : ey es = some xs) (hx : xs.all (eI bf sc O) = true)
 (hs : autoParam (∀ env, env.scope = sc -> swapsWithSole [.Tuple es k pt] e pos.line env = pure false) aR)
 (hw : autoParam (∀ env, env.scope = sc -> swappedStores [.Tuple es k pt] e env = pure none) aR) :
 au C n sc O O (.Assign [.Tuple es k pt] e pos) (fun ρ => ((f ρ).bind uD).bind fun ds => (dI ρ xs ds).bind fun ρ' => some (.next, ρ')) := by
 constructor
 intro A env P ow K ρ s fl ρ' hA he ho F hg
 refine ax (obE hg) fun ds am hg => ?_
 refine ax (obE am) fun d am ar => ?_
 refine ax (obE hg) fun ρ₁ bO hg => ?_
 cases hg
 refine PyProof.Rows.Assign_Tuple (wpAny_mono (h.run A env P ow K ρ s d hA he ho F am) (fun v s₁ q => ?_) fun _ _ x => x) (hs env he) (hw env he)
 obtain ⟨ap, av, aq, aB, k₁⟩ := q
 obtain ⟨l1, l2, l3⟩ := pG (env := env) hn
 have l4 := jZ bO
 have fin : ∀ {vs : List Value} {dU : Heap}, ak ap ds vs -> Heap.ExtBut s₁.heap.objs.size s₁.heap dU -> wpAny C.M A (assignInOrder ((assignEach es env).map (·.2)) vs) (fun _ => iK C P env O K s ρ' .next .next) dq { s₁ with heap := dU } := by
  intro vs dU r iR
  have dR : ∀ b o, s₁.heap.get? b = some o -> dU.get? b = some o := fun b o e => iR b o (fun q => by subst q; exact absurd (Heap.lt_size e) (Nat.lt_irrefl _)) e
  have ce := aq.keeps dR (bw.refl _ _) fun a o e => dR _ _ (aq.fe.inH a o e)
  refine j3 (s := { s₁ with heap := dU }) hn (by rw [he, ho]; exact hx) bO r ce fun h' tk F' l' k' => ?_
  exact ⟨⟨ap, ow, fun _ => ho, fW.of av F.inP, F', rfl⟩, (bh.of k₁).trans (j2 h' tk rfl)⟩
 cases d <;> (first | exact dK ar | (delta uD at ar; dsimp only at ar))
 . (replace ar := siE ar; subst ar)
   (refine bv (bu aB) fun a vs m q0 e r => ?_; subst q0)
   have l5 := r.length
   rw [assign_Tuple]
   refine wpAny_bind (wpAny_standAt ?_)
   unfold unpack
   rw [show (assignEach es env).length = vs.toArray.size by rw [l2, l1, l4, <- l5]; simp, l3]
   exact wpAny_bind (wpAny_holding (PySem.W.kun_itemsOf hA.1 (cn aq.fe.inH e) fun dU iR => fin r iR))
 . (replace ar := siE ar; subst ar)
   (refine bv (gZ aB) fun a vs m q0 e r => ?_; subst q0)
   have l5 := r.length
   exact wpAny_assign_Tuple hA.1 (ll aq.fe.inH e) (by rw [l2, l1, l4, <- l5]; simp) l3 fun dU iR => fin r iR
theorem nD {A : Around} {b : Str -> Bool} {P : KM} {env : Env} {ow : List (Str × Addr)} {K : KM} : ∀ {xs : List Str} {ds : List D} {vs : List Value} {ρ ρ' : af} {s : Shared} {Q : Unit -> Shared -> Prop},
 xs.all (eI b env.scope (ay ow)) = true -> dI ρ xs ds = some ρ' -> ak K ds vs -> bG b C P env ow K ρ s.heap ->
 (∀ h' tk, bG b C P env ow K ρ' h' -> Q () { s with heap := h', toks := tk }) ->
 wpAny C.M A (assignInOrder (xs.map fun x => bindName env x) vs) Q dq s
 | [], ds, vs, ρ, ρ', s, Q, ho, hu, hr, F, h => by
  cases ds with
  | nil =>
   simp only [dI, Option.some.injEq] at hu; subst hu
   simp only [ak] at hr; subst hr
   exact wpAny_pure (h s.heap s.toks F)
  | cons _ _ => exact dK hu
 | x :: xs, ds, vs, ρ, ρ', s, Q, ho, hu, hr, F, h => by
  cases ds with
  | nil => exact dK hu
  | cons d ds =>
   simp only [dI] at hu
   simp only [ak] at hr
   (refine bk hr fun v r q0 rv rr => ?_; clear hr; subst q0)
   simp only [List.all_cons, Bool.and_eq_true] at ho
   refine Ea (cq ho.1) fun h1 h2 => ?_
   show wpAny C.M A (do holding r (bindName env x v); assignInOrder (xs.map fun x => bindName env x) r) Q dq s
   refine wpAny_bind (wpAny_holding (wpAny_bindName (F.store rv h1 h2 fun h' tk F' l' k' => ?_)))
   exact nD ho.2 hu rr F' fun h'' tk' F'' => h h'' tk' F''
theorem au.swap (h : aM C n sc O e f) (hx : xs.reverse.all (eI bf sc O) = true)
 (hw : ∀ env, env.scope = sc -> swappedStores [.Tuple es k pt] e env = pure (some xs))
 (hs : autoParam (∀ env, env.scope = sc -> swapsWithSole [.Tuple es k pt] e pos.line env = pure false) aR) :
 au C n sc O O (.Assign [.Tuple es k pt] e pos) (fun ρ => ((f ρ).bind uD).bind fun ds => (dI ρ xs.reverse ds.reverse).bind fun ρ' => some (.next, ρ')) := by
 constructor
 intro A env P ow K ρ s fl ρ' hA he ho F hg
 refine ax (obE hg) fun ds am hg => ?_
 refine ax (obE am) fun d am ar => ?_
 refine ax (obE hg) fun ρ₁ bO hg => ?_
 cases hg
 refine PyProof.Rows.Assign_Tuple_swapped (names := xs) (wpAny_mono (h.run A env P ow K ρ s d hA he ho F am) (fun v s₁ q => ?_) fun _ _ x => x) (hs env he) (hw env he)
 obtain ⟨ap, av, aq, aB, k₁⟩ := q
 have l4 := jZ bO
 have fin : ∀ {vs : List Value} {dU : Heap}, ak ap ds vs -> Heap.ExtBut s₁.heap.objs.size s₁.heap dU -> wpAny C.M A (assignInOrder (xs.reverse.map fun x => bindName env x) vs.reverse) (fun _ => iK C P env O K s ρ' .next .next) dq { s₁ with heap := dU } := by
  intro vs dU r iR
  have dR : ∀ b o, s₁.heap.get? b = some o -> dU.get? b = some o := fun b o e => iR b o (fun q => by subst q; exact absurd (Heap.lt_size e) (Nat.lt_irrefl _)) e
  have ce := aq.keeps dR (bw.refl _ _) fun a o e => dR _ _ (aq.fe.inH a o e)
  refine nD (s := { s₁ with heap := dU }) (by rw [he, ho]; exact hx) bO r.reverse ce fun h' tk F' => ?_
  exact ⟨⟨ap, ow, fun _ => ho, fW.of av F.inP, F', rfl⟩, (bh.of k₁).trans (j2 h' tk rfl)⟩
 cases d <;> (first | exact dK ar | (delta uD at ar; dsimp only at ar))
 . (replace ar := siE ar; subst ar)
   (refine bv (bu aB) fun a vs m q0 e r => ?_; subst q0)
   have l5 := r.length
   rw [show xs.length = vs.toArray.size by simp at l4; simp [l5, l4]]
   exact PySem.W.kun_itemsOf hA.1 (cn aq.fe.inH e) fun dU iR => fin r iR
 . (replace ar := siE ar; subst ar)
   (refine bv (gZ aB) fun a vs m q0 e r => ?_; subst q0)
   have l5 := r.length
   rw [show xs.length = vs.toArray.size by simp at l4; simp [l5, l4]]
   exact wpAny_unpackItems_tuple hA.1 (ll aq.fe.inH e) fun dU iR => fin r iR
theorem au.own3 {pv : Pos} {es1 es2 : List Expr} {f2 : af -> Option (List D)} (h1 : aa C n sc p1 es1 f1) (h2 : aa C n sc p2 es2 f2) (h3 : ab C n sc e3 f3)
 (hx : eI bf sc [] x = true) (hy : eI bf sc [] y = true) (hz : eI bf sc [] z = true) (hxy : (x == y) = false)
 (hw : ∀ env, env.scope = sc -> swappedStores [.Tuple ts k pt] (.Tuple [.List es1 p1, .List es2 p2, e3] k' pv) env = pure (some [x, y, z]))
 (hs : autoParam (∀ env, env.scope = sc -> swapsWithSole [.Tuple ts k pt] (.Tuple [.List es1 p1, .List es2 p2, e3] k' pv) pos.line env = pure false) aR)
 (he1 : autoParam (∀ env, starEach [.List es1 p1, .List es2 p2, e3] env = (false, eval (.List es1 p1) env) :: starEach [.List es2 p2, e3] env) aR)
 (he2 : autoParam (∀ env, starEach [.List es2 p2, e3] env = (false, eval (.List es2 p2) env) :: starEach [e3] env) aR)
 (he3 : autoParam (∀ env, starEach [e3] env = (false, eval e3 env) :: starEach [] env) aR) :
 au C n sc [] [x, y] (.Assign [.Tuple ts k pt] (.Tuple [.List es1 p1, .List es2 p2, e3] k' pv) pos)
  (fun ρ => (f1 ρ).bind fun a => (f2 ρ).bind fun b => (f3 ρ).bind fun c => if a.length ≤ 10000 /\ b.length ≤ 10000 then some (.next, upd (upd (upd ρ z c) y (.list b)) x (.list a)) else none) := by
 constructor
 intro A env P ow K ρ s fl ρ' hA he ho F hg
 refine ax (obE hg) fun a am hg => ?_
 refine ax (obE hg) fun b ar hg => ?_
 refine ax (obE hg) fun c bO hg => ?_
 split at hg
 . rename_i hl
   (refine sP hg fun q0 q1 => ?_; clear hg; subst q0 q1)
   have how : ow = [] := by cases ow with
    | nil => rfl
    | cons p r => simp [ay] at ho
   subst how
   have fe := F.fe
   rw [ho, bb] at fe
   refine PyProof.Rows.Assign_Tuple_swapped (names := [x, y, z]) (wpAny_Tuple ?_) (hs env he) (hw env he)
   refine wpAny_items_cons (wpAny_List (wpAny_mono (h1.run A env K ρ s a hA he fe am) (fun vs1 s₁ q => ?_) fun _ _ x => x)) (he1 env)
   (refine Ea q fun q0 k₁ => ?_; clear q; obtain ⟨ap, av, aA, aB⟩ := q0)
   have hl1 := aB.length
   refine ⟨by rw [aO]; exact Om.a1 hl1 hl.1 rfl, ?_⟩
   have aq := F.keeps k₁.get av aA
   have push : ∀ {h : Heap} o' b o, h.get? b = some o -> (h.push o').get? b = some o := fun _ _ _ e => Heap.get?_push_of_some _ e
   have nr := aq.keeps (push (aT vs1 0)) (bw.refl _ _) fun a o e => push _ _ _ (aA a o e)
   have Dm := nr.fe
   rw [ho, bb] at Dm
   have n1 := bt s₁.heap
   refine wpAny_items_cons (wpAny_List (wpAny_mono (h2.run A env ap ρ { s₁ with heap := s₁.heap.push (aT vs1 0) } b hA he Dm ar) (fun vs2 an q => ?_) fun _ _ x => x)) (he2 env)
   (refine Ea q fun q0 b7 => ?_; clear q; obtain ⟨cI, bV, bW, ek⟩ := q0)
   have hl2 := ek.length
   refine ⟨by rw [aO]; exact Om.a1 hl2 hl.2 rfl, ?_⟩
   have bE := nr.keeps b7.get bV bW
   have yH := bE.keeps (push (aT vs2 0)) (bw.refl _ _) fun a o e => push _ _ _ (bW a o e)
   have tf := yH.fe
   rw [ho, bb] at tf
   have n2 := bt an.heap
   refine wpAny_items_cons (wpAny_mono (h3.run A env cI ρ { an with heap := an.heap.push (aT vs2 0) } c hA he tf bO) (fun v3 cX q => ?_) fun _ _ x => x) (he3 env)
   obtain ⟨⟨dX, dN, jW, mz⟩, dR⟩ := q
   refine wpAny_items_nil ⟨by rw [aO]; simp, ?_⟩
   have ce := yH.keeps dR.get dN jW
   have g1 : ({ s₁ with heap := s₁.heap.push (aT vs1 0) } : Shared).heap.get? s₁.heap.objs.size = some (aT vs1 0) := Heap.get?_push_size _ rfl
   have g1₂ : an.heap.get? s₁.heap.objs.size = some (aT vs1 0) := b7.get _ _ g1
   have g2 : ({ an with heap := an.heap.push (aT vs2 0) } : Shared).heap.get? an.heap.objs.size = some (aT vs2 0) := Heap.get?_push_size _ rfl
   have g1₃ : cX.heap.get? s₁.heap.objs.size = some (aT vs1 0) := dR.get _ _ (push _ _ _ g1₂)
   have g2₃ : cX.heap.get? an.heap.objs.size = some (aT vs2 0) := dR.get _ _ g2
   have ne12 : s₁.heap.objs.size ≠ an.heap.objs.size := fun q => by rw [q, n2] at g1₂; exact nS g1₂
   have stay : ∀ {K K' : KM} {h : Heap} {a o}, bw K h K' -> h.get? a = some o -> K a = none -> K' a = none := fun {K K' h a o} g e q => by
    cases r : K' a with
    | none => rfl
    | some o' =>
     rcases g.2 a o' r with w | w
     . rw [q] at w; exact nS w
     . rw [e] at w; exact sN w
   have K1a : ap s₁.heap.objs.size = none := aX aA n1
   have K2a : cI s₁.heap.objs.size = none := stay bV g1 K1a
   have K3a : dX s₁.heap.objs.size = none := stay dN (push _ _ _ g1₂) K2a
   have K2b : cI an.heap.objs.size = none := aX bW n2
   have K3b : dX an.heap.objs.size = none := stay dN g2 K2b
   have Pa : P s₁.heap.objs.size = none := eX aq.inP n1
   have Pb : P an.heap.objs.size = none := eX bE.inP n2
   have off : ∀ {h : Heap} {K : KM} {a}, bG bf C P env [] K ρ h -> h.get? a = none -> a ≠ env.locals /\ ∀ x, env.cells.lookup x ≠ some a := fun {h K a} F e => ⟨fun q => (by
    refine hY F.fe.ns fun m o _ _ ho _ => ?_
    rw [<- q, e] at ho; exact nS ho), fun x q => (by refine Ex (F.fe.cl x _ q) fun o ho => ?_; rw [e] at ho; exact nS ho)⟩
   refine Ea (off aq n1) fun La Ca => ?_
   refine Ea (off bE n2) fun Lb Cb => ?_
   have hT : Heap.IsTuple (cX.heap.push { cls := .type "tuple", data := .seq [.ref s₁.heap.objs.size, .ref an.heap.objs.size, v3].toArray }) cX.heap.objs.size [.ref s₁.heap.objs.size, .ref an.heap.objs.size, v3].toArray := (kH _ (Heap.get?_push_size _ rfl) rfl 0 rfl)
   show wpAny C.M A (unpackItems (.ref cX.heap.objs.size) ([Value.ref s₁.heap.objs.size, .ref an.heap.objs.size, v3].toArray.size) none) _ dq { cX with heap := cX.heap.push { cls := .type "tuple", data := .seq [.ref s₁.heap.objs.size, .ref an.heap.objs.size, v3].toArray } }
   refine wpAny_unpackItems_tuple (s := { cX with heap := cX.heap.push { cls := .type "tuple", data := .seq [.ref s₁.heap.objs.size, .ref an.heap.objs.size, v3].toArray } }) hA.1 hT fun ib Aa => ?_
   have eY : ∀ b o, cX.heap.get? b = some o -> ib.get? b = some o := fun b o e => Aa b o (fun q => by
    have q : @Eq Nat b (cX.heap.push { cls := .type "tuple", data := .seq [.ref s₁.heap.objs.size, .ref an.heap.objs.size, v3].toArray }).objs.size := q
    rw [Heap.size_push] at q
    have := Heap.lt_size e
    have this : @LT.lt Nat _ b cX.heap.objs.size := this
    lia) (push _ _ _ e)
   have gw := ce.keeps eY (bw.refl _ _) fun a o e => eY _ _ (jW a o e)
   subst he
   refine Ea (cq hx) fun _ hx2 => ?_
   refine Ea (cq hy) fun _ hy2 => ?_
   refine Ea (cq hz) fun _ hz2 => ?_
   show wpAny C.M A (do holding [.ref an.heap.objs.size, .ref s₁.heap.objs.size] (bindName env z v3); assignInOrder [fun v => bindName env y v, fun v => bindName env x v] [.ref an.heap.objs.size, .ref s₁.heap.objs.size]) _ dq { cX with heap := ib }
   refine wpAny_bind (wpAny_holding (wpAny_bindName (bG.store (s := { cX with heap := ib }) gw mz rfl hz2 fun n7 Bn jD l₅ AQ => ?_)))
   show wpAny C.M A (do holding [.ref s₁.heap.objs.size] (bindName env y (.ref an.heap.objs.size)); assignInOrder [fun v => bindName env x v] [.ref s₁.heap.objs.size]) _ dq _
   have g1₅ := AQ _ _ La Ca (eY _ _ g1₃)
   have g2₅ := AQ _ _ Lb Cb (eY _ _ g2₃)
   refine wpAny_bind (wpAny_holding (wpAny_bindName (bG.store0 (s := { cX with heap := n7, toks := Bn }) jD rfl hy2 fun v9 Il uJ V₆ l₆ CD => ?_)))
   have g1₆ := CD _ _ La Ca g1₅
   have g2₆ := CD _ _ Lb Cb g2₅
   have O₆ := uJ.own1 rfl V₆ g2₆ (ek.mono dN.1) K3b Pb Lb Cb (fun p hp => (nomatch hp))
   show wpAny C.M A (do holding [] (bindName env x (.ref s₁.heap.objs.size)); assignInOrder [] []) _ dq _
   have hxy' : (ay [(y, an.heap.objs.size)]).contains x = false := by
    show [y].contains x = false
    simp only [List.contains_cons, List.contains_nil, Bool.or_false]; exact hxy
   refine wpAny_bind (wpAny_holding (wpAny_bindName (bG.store0 (s := { cX with heap := v9, toks := Il }) O₆ hxy' hx2 fun Ha Im Gg V₇ l₇ I1 => ?_)))
   have O₇ := Gg.own1 hxy' V₇ (I1 _ _ La Ca g1₆) (aB.mono (bV.1.trans dN.1)) K3a Pa La Ca (fun p hp => by
    have hp : p = (y, an.heap.objs.size) := by simpa using hp
    subst hp; exact Ne.symm ne12)
   refine wpAny_pure ⟨⟨dX, _, fun _ => rfl, ?_, O₇, rfl⟩, ?_⟩
   . exact ((fW.of av F.inP).trans (fW.of bV nr.inP)).trans (fW.of dN yH.inP)
   . exact (((bh.of k₁).trans (j2 (s₁.heap.push (aT vs1 0)) s₁.toks rfl)).trans ((bh.of b7).trans (j2 (an.heap.push (aT vs2 0)) an.toks rfl))).trans ((bh.of dR).trans (j2 Ha Im rfl))
 . exact nS hg
structure eB (C : dd) (a : Addr) (xs : List Str) (body : List Stmt) (sc : Scope) : Prop where
 ex : ∃ o fd, C.h₀.get? a = some o /\ o.data = .func fd /\ C.h₀.CodeRec fd.code fd.qualname /\ fd.body = .stmts body /\ fd.closure = [] /\ fd.scope = sc /\ fd.globals = mainGlobals /\ fd.builtins = builtinsNs /\
  ∀ dx : List Value, dx.length = xs.length -> bindArgs fd ⟨dx, []⟩ = pure (xs.zip dx)
 kind : sc.kind = .function
 co : sc.isCoroutine = false
 gen : sc.isGenerator = false
 free : (sc.names.all fun p => !(p.2 == .free)) = true
noncomputable def wv (r : Fl × af) : Option D := match r.1 with
 | .ret d => some d
 | .next => some .none
 | _ => none
theorem p4 {K : KM} {kd : Str -> Option NameKind} : ∀ {xs : List Str} {ds : List D} {vs : List Value} {m cm : Str -> Option Value} {ρ ρ' : af}, ak K ds vs -> dI ρ xs ds = some ρ' ->
 (∀ x d, ρ x = some d -> ∃ v, ((kd x = some .local /\ m x = some v) \/ (kd x = some .cell /\ cm x = some v)) /\ bJ K d v) -> (∀ x ∈ xs, kd x = some .local \/ kd x = some .cell) ->
 ∀ x d, ρ' x = some d -> ∃ v, ((kd x = some .local /\ bindL kd (xs.zip vs) m x = some v) \/ (kd x = some .cell /\ bindC kd (xs.zip vs) cm x = some v)) /\ bJ K d v
 | [], ds, vs, m, cm, ρ, ρ', hr, hu, hi, _ => by
  cases ds with
  | nil => simp only [dI, Option.some.injEq] at hu; subst hu; exact hi
  | cons _ _ => exact dK hu
 | x :: xs, ds, vs, m, cm, ρ, ρ', hr, hu, hi, hk => by
  cases ds with
  | nil => exact dK hu
  | cons d ds =>
   simp only [dI] at hu
   simp only [ak] at hr
   (refine bk hr fun v r q0 rv rr => ?_; clear hr; subst q0)
   simp only [List.zip_cons_cons, bindL, bindC]
   refine p4 rr hu (fun y e hy => ?_) fun y hy => hk y (List.mem_cons_of_mem _ hy)
   unfold upd at hy
   by_cases hyx : y = x
   . subst hyx
     rw [if_pos rfl] at hy; (replace hy := siE hy; subst hy)
     rcases hk y List.mem_cons_self with h | h
     . exact (bC v (.inl ⟨h, by rw [if_pos h]; simp⟩) rv)
     . exact (bC v (.inr ⟨h, by rw [if_neg (by rw [h]; decide)]; simp⟩) rv)
   . rw [if_neg hyx] at hy
     refine ax (hi y e hy) fun w h rw' => ?_
     refine (bC w ?_ rw')
     rcases h with ⟨h1, h2⟩ | ⟨h1, h2⟩
     . refine .inl ⟨h1, ?_⟩
       split
       . simp only [if_neg hyx]; exact h2
       . exact h2
     . refine .inr ⟨h1, ?_⟩
       split
       . exact h2
       . simp only [if_neg hyx]; exact h2
theorem i5 {vs : List Value} (hki : fd.scope.kind = .function) (gH : (fd.scope.names.all fun p => !(p.2 == .free)) = true)
 (hgl : fd.globals = mainGlobals) (hbl : fd.builtins = builtinsNs) (hi : eV K s.heap) (bZ : ∀ a o, C.h₀.get? a = some o -> K a = some o) (hr : ak K ds vs) (am : dI (fun _ => none) xs ds = some ρ)
 (kr : xs.all (eI bf fd.scope []) = true) (hE : callEnvC fd s.heap.objs.size a = env)
 (X : InCallC s env.locals (bindL env.kindOf (xs.zip vs) fun _ => none) env.cells (bindC env.kindOf (xs.zip vs) fun _ => none) s₁) : bG bf C (fun a => s.heap.get? a) env [] K ρ s₁.heap := by
 have hkd : ∀ x ∈ xs, fd.scope.names.lookup x = some .local \/ fd.scope.names.lookup x = some .cell := fun x hx => by
  have := List.all_eq_true.mp kr x hx
  unfold eI at this
  simp only [Bool.and_eq_true, Bool.or_eq_true, beq_iff_eq] at this
  rcases this.2 with h | h
  . exact .inl h
  . exact .inr h.2
 have jk : ∀ x, fd.scope.names.lookup x = some .cell -> ((cellsFrom (s.heap.objs.size + 1) fd.scope.names []).lookup x).isSome = true := fun x hx => by
  refine Ex (d9 (n := s.heap.objs.size + 1) (mem_of_lookup hx)) fun c hc => ?_
  refine Ex (da hc) fun c' hc' => ?_
  rw [hc']; rfl
 have fresh : ∀ a, s.heap.objs.size ≤ a -> s.heap.get? a = none := fun a ha => by
  cases e : s.heap.get? a with
  | none => rfl
  | some o' => exact absurd (Heap.lt_size e) (Nat.not_lt.mpr ha)
 have hsc : env.scope = fd.scope := by rw [<- hE]; rfl
 have hL : env.locals = s.heap.objs.size := by rw [<- hE]; rfl
 have hce : env.cells = cellsFrom (s.heap.objs.size + 1) fd.scope.names [] := by rw [<- hE]; rfl
 have xn : ∀ x, env.kindOf x = fd.scope.names.lookup x := fun x => by rw [<- hE]; rfl
 have keep := X.toInCall.keep
 have big : ∀ x c, env.cells.lookup x = some c -> s.heap.objs.size < c := fun x c e => by have := X.above x c (mem_of_lookup e); rw [hL] at this; exact this
 refine ⟨⟨by rw [hsc]; exact hki, by rw [<- hE]; exact hgl, by rw [<- hE]; exact hbl, fun a o e => keep _ _ (hi a o e), bZ, ⟨_, X.toInCall.ns⟩, fun x d e => ?_, fun x e => ?_, fun x c e => ?_⟩, fun a o e => keep a o e, ?_, ?_, fun x c e => ?_, fun x c y _ e1 e2 => ?_, fun x _ e => ?_,
  fun p hp => (nomatch hp), List.Pairwise.nil⟩
 . rw [show ay ([] : List (Str × Addr)) = [] from rfl, bb] at e
   refine ax (p4 (kd := env.kindOf) (m := fun _ => none) (cm := fun _ => none) hr am (fun _ _ q => by exact nS q) (fun x hx => by rw [xn]; exact hkd x hx) x d e) fun v h rv => ?_
   refine (bC v ?_ rv)
   rcases h with ⟨h1, h2⟩ | ⟨h1, h2⟩
   . exact .loc _ h1 X.toInCall.ns h2
   . have := jk x (by rw [<- xn]; exact h1)
     rw [<- hce] at this
     refine Ex (Option.isSome_iff_exists.mp this) fun c hc => ?_
     exact .cell c h1 hc (h2 ▸ X.cell x c hc)
 . rcases e with e | e
   . have := jk x (by rw [<- xn]; exact e)
     rw [<- hce] at this
     refine Ex (Option.isSome_iff_exists.mp this) fun c hc => ?_
     refine ax (X.cell x c hc) fun o ho _ => ?_
     exact (yL c hc o ho)
   . rw [xn] at e
     have := List.all_eq_true.mp gH _ (mem_of_lookup e)
     simp at this
 . refine ax (X.cell x c e) fun o ho _ => ?_; exact ⟨o, ho⟩
 . rw [hL]; exact aX hi (fresh _ (Nat.le_refl _))
 . rw [hL]; exact fresh _ (Nat.le_refl _)
 . have hb := big x c e
   refine ⟨fun q => ?_, fun _ => (rD (aX hi (fresh _ (Nat.le_of_lt hb))) (fresh _ (Nat.le_of_lt hb)) _ (X.cell x c e))⟩
   rw [q, hL] at hb; exact Nat.lt_irrefl _ hb
 . exact name_of_addr X.apart (mem_of_lookup e2) (mem_of_lookup e1)
 . have := jk x (by rw [<- xn]; exact e)
   rw [hce]; exact this
theorem BF (ok : C.Ok) (fa : eB C a xs body sc) (hb : ae C n sc [] O' body g) (kr : xs.all (eI bf sc []) = true) :
 ga C (n + 1) (.ref a) (fun ds => (dI (fun _ => none) xs ds).bind fun ρ => (g ρ).bind wv) := by
 intro A K s ds vs d hA hi bZ hr hg
 refine ax (obE hg) fun ρ am hg => ?_
 (refine ax (obE hg) fun q0 ar bO => ?_; obtain ⟨fl, ρ'⟩ := q0)
 (refine fq fa.ex fun o fd ho hd i9 iQ ms q0 hgl hbl jV => ?_; subst q0)
 have h₀ : ∀ b o, C.h₀.get? b = some o -> s.heap.get? b = some o := fun b o e => hi _ _ (bZ b o e)
 have df : vs.length = xs.length := by rw [hr.length, <- jZ am]
 have hkd : ∀ x ∈ xs, fd.scope.names.lookup x = some .local \/ fd.scope.names.lookup x = some .cell := fun x hx => by
  have := List.all_eq_true.mp kr x hx
  unfold eI at this
  simp only [Bool.and_eq_true, Bool.or_eq_true, beq_iff_eq] at this
  rcases this.2 with h | h
  . exact .inl h
  . exact .inr h.2
 have jk : ∀ x, fd.scope.names.lookup x = some .cell -> ((cellsFrom (s.heap.objs.size + 1) fd.scope.names []).lookup x).isSome = true := fun x hx => by
  refine Ex (d9 (n := s.heap.objs.size + 1) (mem_of_lookup hx)) fun c hc => ?_
  refine Ex (da hc) fun c' hc' => ?_
  rw [hc']; rfl
 refine wpAny_call (codeAny_call_cells (by have := hA.2; ((with_reducible refine Om.lm ‹_› ?_); simp +arith only)) (h₀ _ _ ho) hd (ok.nolimit.keeps h₀) (i9.keeps h₀) iQ (jV vs df) ms (fun p hp => ?_) (fun s₁ X => ?_) fa.co fa.gen fa.kind)
 . have : p.1 ∈ xs := (List.of_mem_zip (show (p.1, p.2) ∈ xs.zip vs from hp)).1
   rcases hkd _ this with h | h
   . exact .inl h
   . exact .inr ⟨h, jk _ h⟩
 . have fresh : ∀ a, s.heap.objs.size ≤ a -> s.heap.get? a = none := fun a ha => by
    cases e : s.heap.get? a with
    | none => rfl
    | some o' => exact absurd (Heap.lt_size e) (Nat.not_lt.mpr ha)
   generalize hE : callEnvC fd s.heap.objs.size a = env at X ⊢
   have hsc : env.scope = fd.scope := by rw [<- hE]; rfl
   have hL : env.locals = s.heap.objs.size := by rw [<- hE]; rfl
   have hce : env.cells = cellsFrom (s.heap.objs.size + 1) fd.scope.names [] := by rw [<- hE]; rfl
   have xn : ∀ x, env.kindOf x = fd.scope.names.lookup x := fun x => by rw [<- hE]; rfl
   have F := i5 (K := K) (a := a) fa.kind fa.free hgl hbl hi bZ hr am kr hE X
   refine eh (hb.run (A.deeper env) env _ [] K ρ s₁ fl ρ' ⟨hA.1, by show A.depth + 1 + n < _; have := hA.2; ((with_reducible refine Om.lm ‹_› ?_); simp +arith only), by show A.units + 3 + 8 * n + 256 < _; have := hA.3; ((with_reducible refine Om.lm ‹_› ?_); simp +arith only)⟩ hsc rfl F ar) fun f an p => ?_
   obtain ⟨⟨K', ow', _, gK, F', hfl⟩, sm⟩ := p
   have AL : ∀ v, bJ K' d v -> dS K s d v an := fun v hv => by
    refine ⟨⟨K', ⟨gK.1, gK.2⟩, F'.fe.inH, hv⟩, ?_⟩
    (refine Br X.toInCall.same fun cR kG q0 => ?_; subst q0)
    (refine Br sm fun ca n9 q0 => ?_; clear sm; subst q0)
    exact ⟨ca, n9, rfl, fun b o e => F'.inP b o e⟩
   unfold wv at bO
   cases fl <;> simp only [reduceCtorEq, Option.some.injEq] at bO
   . subst bO
     obtain rfl := hfl
     exact AL _ (by simp only [bJ])
   . subst bO
     (refine ax hfl fun v q0 hv => ?_; clear hfl; subst q0)
     exact AL _ hv
theorem x3 {f : Value} {G : List D -> Option D} (h : ga C n f G) (hm : n ≤ m) : ga C m f G := fun A K s ds vs d hA => h A K s ds vs d (hA.le hm)
noncomputable def il : List D -> Option D
 | [.list xs] => if xs.length < 16777216 then some (.int xs.length) else none
 | [.tup xs] => if xs.length < 16777216 then some (.int xs.length) else none
 | [.str l] => if l.length < 16777216 then some (.int l.length) else none
 | _ => none
theorem fT {d : D} {vs : List Value} (r : ak K [d] vs) : ∃ v, vs = [v] /\ bJ K d v := by
 simp only [ak] at r; (refine bk r fun v r q0 rv q1 => ?_; subst q0 q1); exact (bC v rfl rv)
theorem u4 {d e : D} {vs : List Value} (r : ak K [d, e] vs) : ∃ v w, vs = [v, w] /\ bJ K d v /\ bJ K e w := by
 simp only [ak] at r; (refine k8 r fun v r q0 rv w r q1 rw q2 => ?_; subst q0 q1 q2); exact (d8 v w rfl rv rw)
theorem fK : ga C n (.builtin "len") il := by
 intro A K s ds vs d hA hi hb r h
 (refine ax (jn rfl (fun a _ _ => by cases a <;> first | rfl | (rename_i l; cases l <;> first | rfl | (rename_i _ l; cases l <;> rfl))) h) fun x q0 h => ?_; subst q0)
 cases x with
 | list xs =>
  (delta il at h; dsimp only at h)
  split at h
  . rename_i hl; (replace h := siE h; subst h)
    (refine ax (fT r) fun v q0 rv => ?_; subst q0)
    obtain ⟨a, vs, k, rfl, e, r⟩ := bu rv
    have := r.length
    refine call_len_list (cn hi e) (by simp only [List.size_toArray]; exact Om.b2' this hl rfl) ?_
    rw [show (vs.toArray.size : Int) = (xs.length : Int) by simp [this]]
    exact .flat hi d6 (Kp.tok _ _)
  . exact nS h
 | tup xs =>
  (delta il at h; dsimp only at h)
  split at h
  . rename_i hl; (replace h := siE h; subst h)
    (refine ax (fT r) fun v q0 rv => ?_; subst q0)
    obtain ⟨a, vs, k, rfl, e, r⟩ := gZ rv
    have := r.length
    refine PyProof.Rows.len_tuple (items := vs.toArray) (kH _ (hi _ _ e) rfl k rfl) (by simp only [List.size_toArray]; exact Om.b2' this hl rfl) ?_
    rw [show (vs.toArray.size : Int) = (xs.length : Int) by simp [this]]
    exact .flat hi d6 (Kp.tok _ _)
  . exact nS h
 | str l =>
  (delta il at h; dsimp only at h)
  split at h
  . rename_i hl; (replace h := siE h; subst h)
    (refine ax (fT r) fun v q0 rv => ?_; subst q0)
    (refine Ex (cJ rv) fun t q0 => ?_; subst q0)
    refine PySem.P.len_str (by simp only [Str.length, List.size_toArray]; exact Om.b3' hl rfl) ?_
    rw [show ((S l).length : Int) = (l.length : Int) by simp [Str.length]]
    exact .flat hi d6 (Kp.tok _ _)
  . exact nS h
 | _ => exact dK h
noncomputable def KV : List D -> Option D
 | [.str [c]] => some (.int c)
 | _ => none
theorem zw : KV [.str [c]] = some (.int c) := rfl
theorem GD {xs : List D} : il [.list xs] = if xs.length < 16777216 then some (.int xs.length) else none := rfl
theorem jb : ga C n (.builtin "ord") KV := by
 intro A K s ds vs d hA hi hb r h
 (refine ax (jn rfl (fun a _ _ => by cases a <;> first | rfl | (rename_i l; cases l <;> first | rfl | (rename_i _ l; cases l <;> rfl))) h) fun x q0 h => ?_; subst q0)
 cases x with
 | str l =>
  have e : ∃ c, l = [c] /\ D.int c = d := by
   cases l with
   | nil => exact dK h
   | cons c l => cases l with
    | nil => exact (bC c rfl (siE h))
    | cons _ _ => exact dK h
  (refine ax e fun c q0 q1 => ?_; clear e; subst q0 q1)
  (refine ax (fT r) fun v q0 rv => ?_; subst q0)
  (refine Ex (cJ rv) fun t q0 => ?_; subst q0)
  exact PySem.P.ord_of_char (.flat hi d6 (Kp.tok _ _))
 | _ => exact dK h
noncomputable def BL : List D -> Option D
 | [.int i] => if 0 ≤ i /\ i ≤ 0x10FFFF then some (.str [i.toNat]) else none
 | _ => none
theorem zR : ga C n (.builtin "chr") BL := by
 intro A K s ds vs d hA hi hb r h
 (refine ax (jn rfl (fun a _ _ => by cases a <;> first | rfl | (rename_i l; cases l <;> first | rfl | (rename_i _ l; cases l <;> rfl))) h) fun x q0 h => ?_; subst q0)
 cases x with
 | int i =>
  (delta BL at h; dsimp only at h)
  split at h
  . rename_i hl; (replace h := siE h; subst h)
    (refine ax (fT r) fun v q0 rv => ?_; subst q0)
    (refine Ex (aZ rv) fun t q0 => ?_; subst q0)
    refine PySem.P.chr_of_int ?_ (.flat hi iu (Kp.tok _ _))
    have h1 : ¬ i < 0 := by exact Int.not_lt_of_ge hl.left
    have h2 : ¬ i > 0x10FFFF := by exact Int.not_lt_of_ge hl.right
    rw [decide_eq_false h1, decide_eq_false h2]; rfl
  . exact nS h
 | _ => exact dK h
noncomputable def l8 (i : Int) : List Nat := (PySem.baseText "0x" 16 i).cps.toList
def BM : List D -> Option D
 | [.int i] => if (PySem.baseText "0x" 16 i).length ≤ 16777216 then some (.str (l8 i)) else none
 | _ => none
theorem zS : ga C n (.builtin "hex") BM := by
 intro A K s ds vs d hA hi hb r h
 (refine ax (jn rfl (fun a _ _ => by cases a <;> first | rfl | (rename_i l; cases l <;> first | rfl | (rename_i _ l; cases l <;> rfl))) h) fun x q0 h => ?_; subst q0)
 cases x with
 | int i =>
  simp only [BM] at h
  split at h
  . rename_i hl; (replace h := siE h; subst h)
    (refine ax (fT r) fun v q0 rv => ?_; subst q0)
    (refine Ex (aZ rv) fun t q0 => ?_; subst q0)
    refine PySem.P.hex_of_int (.flat hi ?_ (Kp.tok _ _)) (by rw [aO]; exact hl)
    simp only [bJ]; exact ⟨_, rfl⟩
  . exact nS h
 | _ => exact dK h
noncomputable def dMax : List D -> Option D
 | [.int a, .int b] => some (.int (if b > a then b else a))
 | _ => none
theorem GO : ga C n (.builtin "max") dMax := by
 intro A K s ds vs d hA hi hb r h
 (refine nk (rA rfl (fun a => by cases a <;> rfl) (fun a b _ _ => by cases a <;> first | rfl | (cases b <;> rfl)) h) fun x y q0 h => ?_; subst q0)
 have e : ∃ a b, x = .int a /\ y = .int b /\ D.int (if b > a then b else a) = d := by
  cases x <;> first | exact dK h | (cases y <;> first | exact dK h | exact (d8 _ _ rfl rfl (siE h)))
 . (refine bk e fun a b q0 q1 q2 => ?_; clear e; subst q0 q1 q2)
   (refine bk (u4 r) fun v w q0 rv rw => ?_; subst q0)
   (refine Ex (aZ rv) fun t q0 => ?_; subst q0)
   (refine Ex (aZ rw) fun u q0 => ?_; subst q0)
   refine PySem.max_two_ints hA.1 fun h' tk hk => .flat hi ?_ (.of hk)
   split <;> exact d6
noncomputable def mf : List D -> Option (List Bool)
 | [] => some []
 | .bool b :: r => (mf r).map (b :: ·)
 | _ => none
noncomputable def iS : List D -> Option (List Int)
 | [] => some []
 | .int b :: r => (iS r).map (b :: ·)
 | _ => none
theorem p6 {K : KM} : ∀ {ds : List D} {vs : List Value} {bs : List Bool}, ak K ds vs -> mf ds = some bs -> vs = bs.map .bool
 | [], _, _, r, h => by simp only [ak] at r; subst r; cases h; rfl
 | d :: ds, _, _, r, h => by
  cases d <;> (first | exact dK h | simp only [mf] at h)
  (refine ax (omE h) fun bs h1 q0 => ?_; subst q0)
  simp only [ak] at r
  (refine bk r fun v r q0 rv rr => ?_; subst q0)
  rw [dW rv, p6 rr h1]; rfl
theorem tE {K : KM} : ∀ {ds : List D} {vs : List Value} {bs : List Int}, ak K ds vs -> iS ds = some bs -> bs.length = vs.length /\ ∀ i v, vs[i]? = some v -> ∃ t, v = Value.int (bs.getD i 0) t
 | [], _, _, r, h => by simp only [ak] at r; subst r; cases h; exact ⟨rfl, fun i v e => by simp at e⟩
 | d :: ds, _, _, r, h => by
  cases d <;> (first | exact dK h | simp only [iS] at h)
  (refine ax (omE h) fun bs h1 q0 => ?_; subst q0)
  simp only [ak] at r
  (refine bk r fun v r q0 rv rr => ?_; subst q0)
  refine Ea (tE rr h1) fun l g => ?_
  refine ⟨by simp [l], fun i w e => ?_⟩
  cases i with
  | zero => simp at e; subst e; (refine Ex (aZ rv) fun t q0 => ?_; subst q0); exact ⟨t, by simp⟩
  | succ i => simp at e; (refine Ex (g i w e) fun t q0 => ?_; subst q0); exact ⟨t, by simp⟩
def BK : List D -> Option D
 | [.list xs] => (mf xs).map fun bs => .bool (bs.all id)
 | _ => none
theorem nP : ga C n (.builtin "all") BK := by
 intro A K s ds vs d hA hi hb r h
 (refine ax (jn rfl (fun a _ _ => by cases a <;> first | rfl | (rename_i l; cases l <;> first | rfl | (rename_i _ l; cases l <;> rfl))) h) fun x q0 h => ?_; subst q0)
 cases x with
 | list xs =>
  simp only [BK] at h
  (refine ax (omE h) fun bs h1 q0 => ?_; subst q0)
  (refine ax (fT r) fun v q0 rv => ?_; subst q0)
  obtain ⟨a, vs, k, rfl, e, r⟩ := bu rv
  have hl := cn hi e
  have hvs := p6 r h1
  have hne : a ≠ s.heap.objs.size := fun q => by rw [q] at e; have := hi _ _ e; rw [bt] at this; exact nS this
  refine PySem.call_all_walk (wpAny_pyIter_list hl ?_)
  refine ⟨_, _, _, _, _, _, fun i => bs.getD i true, rfl, Walks.list (A := A.in1) hA.1 s.heap.objs.size a hne vs.toArray, ⟨(cF _ (Heap.get?_push_size _ rfl) rfl rfl), hl.at fun o e => Heap.get?_push_of_some _ e⟩, ?_, fun h' tk hk => ?_⟩
  . intro i v s Q E hP hQ
    have hP : vs[i]? = some v := by simpa using hP
    rw [hvs] at hP
    simp only [List.getElem?_map, Option.map_eq_some_iff] at hP
    (refine ax hP fun b e1 q0 => ?_; clear hP; subst q0)
    have : bs.getD i true = b := by simp [e1]
    exact wpAny_truthy_bool (this ▸ hQ)
  . have : (List.range vs.toArray.size).all (fun i => bs.getD i true) = bs.all id := by
     rw [hvs]
     simp only [List.size_toArray, List.length_map]
     rw [Bool.eq_iff_iff]
     simp only [List.all_eq_true, List.mem_range, id_eq]
     constructor
     . intro h x hx
       obtain ⟨i, hi, rfl⟩ := List.mem_iff_getElem.mp hx
       have := h i hi
       simpa [hi] using this
     . intro h i hi
       have := h _ (List.getElem_mem hi)
       simpa [hi] using this
    rw [this]
    exact .flat hi iN (.of fun b o q => hk b o (fun m => by
     have : b = s.heap.objs.size := by simpa using m
     subst this; rw [bt] at q; exact nS q) (Heap.get?_push_of_some _ q))
 | _ => exact dK h
def BP : List D -> Option D
 | [.list xs] => (iS xs).map fun bs => .int bs.sum
 | _ => none
theorem pJ (bs : List Int) : ∀ k, k ≤ bs.length -> preSum (fun i => bs.getD i 0) k = (bs.take k).sum
 | 0, _ => rfl
 | k + 1, h => by
  simp only [preSum]
  have e : bs.take (k + 1) = bs.take k ++ [bs[k]] := List.take_succ_eq_append_getElem (Nat.lt_of_succ_le h)
  rw [pJ bs k (by ((with_reducible refine Om.em ‹_› ?_); simp +arith only)), e, List.sum_append]
  have e' : bs.getD k 0 = bs[k] := by simp [List.getElem?_eq_getElem (show k < bs.length by exact Nat.lt_of_succ_le h)]
  rw [e']
  simp only [List.sum_cons, List.sum_nil, Int.add_zero]
theorem zT : ga C n (.builtin "sum") BP := by
 intro A K s ds vs d hA hi hb r h
 (refine ax (jn rfl (fun a _ _ => by cases a <;> first | rfl | (rename_i l; cases l <;> first | rfl | (rename_i _ l; cases l <;> rfl))) h) fun x q0 h => ?_; subst q0)
 cases x with
 | list xs =>
  simp only [BP] at h
  (refine ax (omE h) fun bs h1 q0 => ?_; subst q0)
  (refine ax (fT r) fun v q0 rv => ?_; subst q0)
  obtain ⟨a, vs, k, rfl, e, r⟩ := bu rv
  have hl := cn hi e
  obtain ⟨df, hvs⟩ := tE r h1
  have hlt : a < s.heap.objs.size := Heap.lt_size (hi _ _ e)
  refine PySem.call_sum_walkG (wpAny_pyIter_list hl ?_)
  refine (gk _ _ _ _ _ _ (fun i => bs.getD i 0) rfl (Walks.list (A := A.in1) hA.1 s.heap.objs.size a (Nat.ne_of_lt hlt) vs.toArray) (⟨(cF _ (Heap.get?_push_size _ rfl) rfl rfl), hl.at fun o e => Heap.get?_push_of_some _ e⟩) (fun b hb => ?_) (fun i v hv => ?_) (fun h' tk t' hk => ?_))
  . show b < (s.heap.push _).objs.size
    rw [Heap.size_push]
    have hb : b = s.heap.objs.size \/ b = a := by simpa using hb
    rcases hb with rfl | rfl
    . exact Nat.lt_succ_self _
    . exact Nat.lt_succ_of_lt hlt
  . exact hvs i v (by simpa using hv)
  . have : preSum (fun i => bs.getD i 0) vs.toArray.size = bs.sum := by
     rw [show vs.toArray.size = bs.length by simp [df], pJ bs _ (Nat.le_refl _), List.take_length]
    rw [this]
    exact .flat hi d6 (.of fun b o q => hk b o (fun m => by
     have : b = s.heap.objs.size := by simpa using m
     subst this; rw [bt] at q; exact nS q) (Heap.get?_push_of_some _ q))
 | _ => exact dK h
def qo (C : dd) (n : Nat) (id : String) (G : List Nat -> D -> Option D) : Prop :=
 ∀ (A : Around) (K : KM) (s : Shared) (l : List Nat) (t : Tok) (y : D) (v : Value) (d : D), dg n A -> eV K s.heap -> bJ K y v -> G l y = some d -> wpAny C.M A (call (.builtin id) [.str (S l) t, v]) (dS K s d) dq s
noncomputable def wW : D -> Option (List Nat)
 | .str l => some l
 | _ => none
theorem nC {d : D} (h : wW d = some l) : d = .str l := by cases d <;> simp [wW] at h; subst h; rfl
theorem ab.meth1 {o : Expr} {name : Str} {id : String} {fe : af -> Option D} {G : List Nat -> D -> Option D} (ho : ab C n sc o fo) (he' : ab C n sc e fe) (hG : qo C n id G) (slot : Slot "str" name id)
 (ty : typeOf (.builtin id) = pure (.type "method_descriptor"))
 (bZ : autoParam (∀ env, attributeBase o name env (eval o env) = eval o env) aR) (hs : autoParam (∀ env, starEach [e] env = [(false, eval e env)]) aR) (ia : autoParam ((apos.endLine == pos.line) = true) aR) :
 ab C n sc (.Call (.Attribute o name apos) [e] [] pos) (fun ρ => b2 G ((fo ρ).bind wW) (fe ρ)) := by
 constructor
 intro A env K ρ s d hA he F hf
 refine bk (j4 hf) fun l y am ar bO => ?_
 refine ax (obE am) fun x am mq => ?_
 obtain rfl := nC mq
 refine PySem.Call_method1 (bZ env) (hs env) ia (wpAny_mono (ho.run A env K ρ s _ hA he F am) (fun ov s₁ p => ?_) fun _ _ x => x)
 obtain ⟨⟨ap, av, aA, aB⟩, k₁⟩ := p
 (refine Ex (cJ aB) fun t q0 => ?_; subst q0)
 refine (iJ ("str") id PySem.F.plainAttrs_str slot ty (typeIs_str _ _ _) ((fun _ e => nomatch e)) (PySem.Calls.callWith_builtin rfl (PySem.Calls.evalArgs_plain (PySem.Calls.spliced_cons ?_))))
 refine wpAny_mono (he'.run A env ap ρ s₁ y hA he (F.keeps k₁.get av.1 aA) ar) (fun v an p => PySem.Calls.spliced_nil ?_) fun _ _ x => x
 obtain ⟨⟨cI, bV, bW, ek⟩, b7⟩ := p
 exact wpAny_mono (hG A cI an l t y v d hA bW ek bO) (fun v cX p => .after (av.trans k₁.get bV) (k₁.trans b7) p) fun _ _ x => x
def zx (x : List Nat) : D -> Option D
 | .str y => if (decide ((S x).length < (S y).length) || decide (Builtin.Str.strKind (S x) < Builtin.Str.strKind (S y))) = false /\ ((S y).length == 0) = false /\ (Builtin.Str.occurrences (S x) (S y) 0 (S x).length ((S x).length + 1)).isEmpty = false /\
  x.length ≤ 16777216 /\ (Builtin.Str.partsBetween (S x) (Builtin.Str.occurrences (S x) (S y) 0 (S x).length ((S x).length + 1)) (S y).length).length ≤ 16777216 then
  some (.list ((Builtin.Str.partsBetween (S x) (Builtin.Str.occurrences (S x) (S y) 0 (S x).length ((S x).length + 1)) (S y).length).map fun z => .str z.cps.toList)) else none
 | _ => none
theorem uk {K : KM} : ∀ (l : List (Str × Tok)), ak K (l.map fun p => .str p.1.cps.toList) (strValues l)
 | [] => ak.nil
 | p :: l => by
  show ak K (.str p.1.cps.toList :: _) (.str p.1 p.2 :: strValues l)
  exact .cons (by simp only [bJ]; exact ⟨p.2, rfl⟩) (uk l)
theorem tF : qo C n "str.split" zx := by
 intro A K s l t y v d hA hi hy h
 cases y <;> (first | exact dK h | simp only [zx] at h)
 rename_i y
 split at h
 . rename_i hc; (replace h := siE h; subst h)
   (refine vG hc fun h1 h2 h3 h4 h5 => ?_; clear hc)
   (refine Ex (cJ hy) fun u q0 => ?_; subst q0)
   refine call_meets F.slot_str_split (typeIs_str _ _ _) F.entry_str_split (F.args_str_split_2 _ _) (meets_str_split_sep (S l) (S y) t u h1 h2 h3 (by rw [aO]; simpa [Str.length] using h4) (by rw [aO]; exact h5)) ?_
   show dS K s _ (.ref s.heap.objs.size) { s with toks := _, heap := s.heap.push (aT (strsFrom s.toks _) 0) }
   rw [strsFrom_eq]
   generalize Builtin.Str.partsBetween (S l) _ _ = parts
   have e : parts.map (fun z => D.str z.cps.toList) = (numbered s.toks parts).map fun p => D.str p.1.cps.toList := by
    conv => lhs; rw [<- numbered_texts s.toks parts]
    rw [List.map_map]; rfl
   rw [e]
   exact dH hi (uk _)
 . exact nS h
noncomputable def iU (sep : List Nat) : List (List Nat) -> List Nat
 | [] => []
 | [x] => x
 | x :: y :: r => x ++ sep ++ iU sep (y :: r)
noncomputable def pW : List D -> Option (List (List Nat))
 | [] => some []
 | .str b :: r => (pW r).map (b :: ·)
 | _ => none
def mI (sep : List Nat) : D -> Option D
 | .list xs => (pW xs).bind fun ls => if (ls.map fun l => l.length + sep.length).sum ≤ 16777216 then some (.str (iU sep ls)) else none
 | _ => none
theorem uj {K : KM} : ∀ {ds : List D} {vs : List Value} {ls : List (List Nat)}, ak K ds vs -> pW ds = some ls -> ∃ l : List (Str × Tok), vs = strValues l /\ l.map (·.1) = ls.map S
 | [], _, _, r, h => by simp only [ak] at r; subst r; cases h; exact (bC ([]) rfl rfl)
 | d :: ds, _, _, r, h => by
  cases d <;> (first | exact dK h | simp only [pW] at h)
  (refine ax (omE h) fun bs h1 q0 => ?_; subst q0)
  simp only [ak] at r
  (refine bk r fun v r q0 rv rr => ?_; subst q0)
  (refine ax (uj rr h1) fun l q0 e => ?_; subst q0)
  (refine Ex (cJ rv) fun t q0 => ?_; subst q0)
  exact (bC ((S _, t) :: l) rfl (by simp [e]))
theorem yP (sep : List Nat) : ∀ ls : List (List Nat), Str.join (S sep) (ls.map S) = S (iU sep ls)
 | [] => rfl
 | [x] => rfl
 | x :: y :: r => by
  show S x ++ S sep ++ Str.join (S sep) ((y :: r).map S) = _
  rw [yP sep (y :: r), ny, ny]; rfl
theorem pz (k : Nat) : ∀ (l : List Str) (a : Nat), l.foldl (fun x y => x + y.length + k) a = a + (l.map fun y => y.length + k).sum
 | [], a => by simp
 | x :: r, a => by
  simp only [List.foldl_cons, List.map_cons, List.sum_cons]
  rw [pz k r]; simp +arith only
theorem ni : qo C n "str.join" mI := by
 intro A K s l t y v d hA hi hy h
 cases y <;> (first | exact dK h | simp only [mI] at h)
 rename_i xs
 refine ax (obE h) fun ls h1 h => ?_
 split at h
 . rename_i hc; (replace h := siE h; subst h)
   (refine bv (bu hy) fun a vs k q0 e r => ?_; subst q0)
   (refine ax (uj r h1) fun l' q0 e1 => ?_; subst q0)
   refine PySem.SC.join (cn hi e) e1 ?_ fun t' k => ?_
   . unfold JoinOk
     rw [Bool.not_eq_true']
     have : ((ls.map S).toArray.foldl (fun x y => x + y.length + (S l).length) 0) = (ls.map fun y => y.length + l.length).sum := by
      rw [List.foldl_toArray', pz]
      . simp only [Nat.zero_add, List.map_map]
        congr 1
      . rfl
     rw [this]
     unfold Builtin.Str.tooLong
     have := aO
     simp only [decide_eq_false_iff_not]
     exact Nat.not_lt.mpr hc
   . have : PySem.Txt.join (S l) (ls.map S) = S (iU l ls) := (PySem.StrLaws.glued_eq_join _ _).trans (yP l ls)
     rw [this]
     exact .flat hi iu (Kp.tok _ _)
 . exact nS h
def uS (x : List Nat) : D -> Option D
 | .str y => match Builtin.Str.occurrences (S x) (S y) 0 (S x).length 1 with
  | i :: _ => some (.int i)
  | [] => none
 | _ => none
theorem Aw : qo C n "str.index" uS := by
 intro A K s l t y v d hA hi hy h
 cases y <;> (first | exact dK h | simp only [uS] at h)
 rename_i y
 split at h
 . rename_i i rest ho
   (replace h := siE h; subst h)
   (refine Ex (cJ hy) fun u q0 => ?_; subst q0)
   exact PySem.SC.index ho (.flat hi d6 (Kp.tok _ _))
 . exact nS h
def zv : D -> Option D
 | .str l => if Builtin.Str.tooLong (PySem.Txt.lower (S l)).length = false then some (.str (PySem.Txt.lower (S l)).cps.toList) else none
 | _ => none
theorem ab.lower {o : Expr} (ho : ab C n sc o fo)
 (bZ : autoParam (∀ env, attributeBase o "lower" env (eval o env) = eval o env) aR) (ia : autoParam ((apos.endLine == pos.line) = true) aR) :
 ab C n sc (.Call (.Attribute o "lower" apos) [] [] pos) (fun ρ => (fo ρ).bind zv) := by
 constructor
 intro A env K ρ s d hA he F hf
 refine ax (obE hf) fun x am ar => ?_
 cases x <;> (first | exact dK ar | simp only [zv] at ar)
 rename_i l
 split at ar
 . rename_i hc; (replace ar := siE ar; subst ar)
   refine PySem.Call_method0 (bZ env) ia (wpAny_mono (ho.run A env K ρ s _ hA he F am) (fun ov s₁ p => ?_) fun _ _ x => x)
   obtain ⟨⟨ap, av, aA, aB⟩, k₁⟩ := p
   (refine Ex (cJ aB) fun t q0 => ?_; subst q0)
   refine PySem.SB.lower hc (.after av k₁ (.flat aA ?_ (Kp.tok _ _)))
   simp only [bJ]; exact ⟨_, rfl⟩
 . exact nS ar
theorem ab.listRange (ok : C.Ok) (hg : aw C x (.type "list")) (hg' : aw C y (.type "range")) (h : aa C n sc pos' (e :: rest) fl)
 (hk : autoParam (sc.names.lookup x = some .globalImplicit) aK) (hk' : autoParam (sc.names.lookup y = some .globalImplicit) aK)
 (h1 : autoParam (∀ env, starEach (e :: rest) env = (false, eval e env) :: starEach rest env) aR) (h2 : autoParam (∀ env, (backTo pos' (starEach rest env)).any (·.1) = false) aR)
 (h3 : autoParam (∀ env, starEach [.Call (.Name y q) (e :: rest) [] pos'] env = (false, eval (.Call (.Name y q) (e :: rest) [] pos') env) :: starEach [] env) aR)
 (hd : autoParam ((x == ("__debug__" : Str)) = false) aD) (hd' : autoParam ((y == ("__debug__" : Str)) = false) aD) :
 ab C n sc (.Call (.Name x p) [.Call (.Name y q) (e :: rest) [] pos'] [] pos) (fun ρ => ((fl ρ).bind ix).map .list) := by
 constructor
 intro A env K ρ s d hA he F hf
 (refine ax (omE hf) fun out am q0 => ?_; subst q0)
 refine ax (obE am) fun as am ar => ?_
 refine Call_ (bx ok F (he ▸ hk) hg hd ((bg.type "list").step ?_ (h3 env) rfl))
 refine wpAny_items_cons (hM ok hk' hg' (.type "range") h hA he F am h1 h2 hd' fun vs ap s₁ av aA aB k₁ aq => ?_) (h3 env)
 refine tZ aB ar fun a b t u v tk hr hs hn hlt Ac => wpAny_items_nil ?_
 have kp : Kp s₁ { s₁ with heap := s₁.heap.push { cls := .type "range", data := .fields #[.int a t, .int b u, .int 1 v] }, toks := tk } := .of fun b o e => Heap.get?_push_of_some _ e
 refine ⟨fun b o e => kp.get _ _ (aq.h₀ b o e), ?_⟩
 refine PySem.call_list_range hA.1 hr hs hn (by with_reducible exact Om.lE (OfNat.ofNat _) ‹_› rfl) fun h' tk' acc' c' tz hS LM => ?_
 generalize hH : (s₁.heap.push { cls := .type "range", data := .fields #[.int a t, .int b u, .int 1 v] }) = H at tz hS kp ⊢
 have iH : eV ap H := fun a o e => by have := kp.get _ _ (aA a o e); exact this
 (refine Ea LM fun hsz hit => ?_; clear LM)
 have n0 := bt H
 have Kn : ap H.objs.size = none := aX iH n0
 have hrep : ∀ (ds : List D) (vs : List Value), ds.length = vs.length -> (∀ (j : Nat) v, vs[j]? = some v -> ∃ t, v = Value.int (a + (j : Int) * 1) t) -> (∀ i : Nat, i < ds.length -> ds[i]? = some (D.int (a + i))) -> ak ap ds vs := by
  intro ds vs hl h1 h2
  have : ∀ (ds : List D) (vs : List Value) (k : Nat), ds.length = vs.length -> (∀ (j : Nat) v, vs[j]? = some v -> ∃ t, v = Value.int (a + ((j + k : Nat) : Int)) t) -> (∀ i : Nat, i < ds.length -> ds[i]? = some (D.int (a + ((i + k : Nat) : Int)))) -> ak ap ds vs := by
   intro ds
   induction ds with
   | nil => intro vs k hl _ _; cases vs with
    | nil => exact ak.nil
    | cons _ _ => simp at hl
   | cons d ds ih =>
    intro vs k hl h1 h2
    cases vs with
    | nil => simp at hl
    | cons v vs =>
     refine Ex (h1 0 v (by simp)) fun t hv => ?_
     have hd := h2 0 (by simp)
     simp at hd
     subst hv
     refine .cons (by rw [hd]; simpa using d6) (ih vs (k + 1) (by simpa using hl) (fun j v hj => ?_) fun i hi => ?_)
     . have := h1 (j + 1) v (by simpa using hj)
       rw [show j + (k + 1) = j + 1 + k by with_reducible exact (Om.s1 _ _).symm]; exact this
     . have := h2 (i + 1) (by simpa using hi)
       rw [show i + (k + 1) = i + 1 + k by with_reducible exact (Om.s1 _ _).symm]; simpa using this
  exact this ds vs 0 hl (fun j v hj => by refine Ex (h1 j v hj) fun t e => ?_; exact ⟨t, by rw [e]; simp⟩) fun i hi => by have := h2 i hi; simpa using this
 have hS' : h'.get? H.objs.size = some (aT acc'.toList c') := by rw [hS]
 refine dS.after (s₁ := { s₁ with heap := H, toks := tk }) av (k₁.trans kp) (.new (o := aT acc'.toList c') iH n0 hS' (.of (s := { s₁ with heap := H, toks := tk }) tz) ?_)
 simp only [bJ]
 refine (fD _ acc'.toList c' rfl (by unfold bH; rw [if_pos rfl]) ((hrep out acc'.toList (by simp [hsz]) (fun j v hj => ?_) Ac).mono (ed Kn)))
 exact hit j v (by simpa using hj)
def jI (f : Option Value) (F : Option D) : Prop := match F with
 | some d => ∃ v, f = some v /\ ∀ K : KM, bJ K d v
 | none => f = none
structure lG (C : dd) (x : Str) (F : Int -> Option D) : Prop where
 ex : ∃ a f, aw C x (.ref a) /\ (a == sysModules) = false /\ C.h₀.MapOf (intKind C.prog C.w) a f /\ ∀ k, jI (f k) (F k)
structure nb (C : dd) (x : Str) (F : List Nat -> Option D) : Prop where
 ex : ∃ a f, aw C x (.ref a) /\ (a == sysModules) = false /\ C.h₀.MapOf (PySem.strKind C.prog C.w) a f /\ ∀ k, jI (f (S k)) (F k)
structure kU (C : dd) (x : Str) (F : Int -> Bool) : Prop where
 ex : ∃ a m, aw C x (.ref a) /\ C.h₀.SetOf (intKind C.prog C.w) a F m
theorem fz {α : Type} [DecidableEq α] {prog : Program} {knd : KeyKind prog w α} {f : α -> Option Value} (x : h.MapOf knd a f) (hk : ∀ b o, h.get? b = some o -> h'.get? b = some o) : h'.MapOf knd a f :=
 mF x fun o es ep ho r => ⟨o, es, ep, hk _ _ ho, r⟩
theorem ub {α : Type} [DecidableEq α] {prog : Program} {knd : KeyKind prog w α} {f : α -> Bool} (x : h.SetOf knd a f m) (hk : ∀ b o, h.get? b = some o -> h'.get? b = some o) : h'.SetOf knd a f m :=
 hY x fun o es ep t ho r => ⟨o, es, ep, t, hk _ _ ho, r⟩
theorem o7 (prog : Program) (w : World) (i : Int) (t : Tok) : (intKind prog w).is i (.int i t) = true := by simp [intKind, Value.isInt]
theorem vA (prog : Program) (w : World) (x : Str) (t : Tok) : (PySem.strKind prog w).is x (.str x t) = true := by simp [PySem.strKind, Value.isStrOf]
theorem xj {f : Option Value} {F : Option D} {d : D} (h : jI f F) (e : F = some d) : ∃ v, f = some v /\ ∀ K, bJ K d v := by subst e; exact h
theorem tm {f : Option Value} {F : Option D} (h : jI f F) : f.isSome = F.isSome := by
 cases F with
 | none => rw [show f = none from h]; rfl
 | some d => (refine ax h fun v e _ => ?_; clear h); rw [e]; rfl
theorem ab.globInt {i : Int} (ok : C.Ok) (hg : ∃ t, aw C x (.int i t)) (hk : sc.names.lookup x = some .globalImplicit) (hd : autoParam ((x == ("__debug__" : Str)) = false) aD) : ab C n sc (.Name x p) (fun _ => some (.int i)) := by
 constructor
 intro A env K ρ s d hA he F hf
 (replace hf := siE hf; subst hf)
 refine Ex hg fun t hg => ?_
 exact bx ok F (he ▸ hk) hg hd (.flat F.inH d6 (Kp.refl _))
theorem bj.inTab {F : List Nat -> Option D} (ok : C.Ok) (T : nb C x F) (h : ab C n sc e f) (hk : sc.names.lookup x = some .globalImplicit)
 (hd : autoParam ((x == ("__debug__" : Str)) = false) aD) (hm : autoParam (behindInMarks .In (.Name x p) = false) aW) :
 bj C n sc (.Compare e [.In] [.Name x p] pos) (fun ρ => ((f ρ).bind wW).map fun l => (F l).isSome) := by
 constructor
 intro A env K ρ s d hA he FF hf
 (refine ax (omE hf) fun l am q0 => ?_; subst q0)
 refine ax (obE am) fun y am mq => ?_
 obtain rfl := nC mq
 refine gv T.ex fun a g hg hs qV hF => ?_
 refine wpAny_isTrue_Compare1 (wpAny_mono (h.run A env K ρ s _ hA he FF am) (fun v s₁ q => ?_) fun _ _ x => x) hm
 obtain ⟨⟨ap, av, aA, aB⟩, k₁⟩ := q
 have aq := FF.keeps k₁.get av.1 aA
 (refine Ex (cJ aB) fun t q0 => ?_; subst q0)
 refine bx ok aq (he ▸ hk) hg hd ?_
 refine PySem.wpAny_in_of (knd := strKind C.prog C.w) (vA _ _ _ _) hs (fz qV aq.h₀) ?_
 rw [tm (hF l)]
 exact wpAny_truthy_bool ⟨rfl, k₁.trans (Kp.tok _ _)⟩
theorem ab.itemTab {F : List Nat -> Option D} (ok : C.Ok) (T : nb C x F) (h : ab C n sc e f) (hk : sc.names.lookup x = some .globalImplicit)
 (hd : autoParam ((x == ("__debug__" : Str)) = false) aD) (hs : autoParam (∀ o j, subscripted e false o j = operate [o, j] (getItem o j)) aR) :
 ab C n sc (.Subscript (.Name x p) e pos) (fun ρ => ((f ρ).bind wW).bind F) := by
 constructor
 intro A env K ρ s d hA he FF hf
 refine ax (obE hf) fun l am ar => ?_
 refine ax (obE am) fun y am mq => ?_
 obtain rfl := nC mq
 refine gv T.ex fun a g hg hs' qV hF => ?_
 refine Subscript_ (bx ok FF (he ▸ hk) hg hd (wpAny_mono (h.run A env K ρ s _ hA he FF am) (fun v s₁ q => ?_) fun _ _ x => x))
 obtain ⟨⟨ap, av, aA, aB⟩, k₁⟩ := q
 have aq := FF.keeps k₁.get av.1 aA
 (refine Ex (cJ aB) fun t q0 => ?_; subst q0)
 have hm := fz qV aq.h₀
 refine ax (xj (hF l) ar) fun v hv hr => ?_
 exact tail_any hm.typeIs slot_dict_getitem.lookup (PySem.wpAny_getItem_of (knd := strKind C.prog C.w) (vA _ _ _ _) hm hv (.after av k₁ (.flat aA (hr _) (Kp.tok _ _)))) (hs _ _)
theorem ab.get1 {F : Int -> Option D} (ok : C.Ok) (T : lG C x F) (h : ab C n sc e f) (hk : sc.names.lookup x = some .globalImplicit)
 (hd : autoParam ((x == ("__debug__" : Str)) = false) aD)
 (bZ : autoParam (∀ env, attributeBase (.Name x p) "get" env (eval (.Name x p) env) = eval (.Name x p) env) aR) (hs : autoParam (∀ env, starEach [e] env = [(false, eval e env)]) aR) (ia : autoParam ((apos.endLine == pos.line) = true) aR) :
 ab C n sc (.Call (.Attribute (.Name x p) "get" apos) [e] [] pos) (fun ρ => ((f ρ).bind yS).map fun i => (F i).getD .none) := by
 constructor
 intro A env K ρ s d hA he FF hf
 (refine ax (omE hf) fun i am q0 => ?_; subst q0)
 refine ax (obE am) fun y am mq => ?_
 obtain rfl := jM mq
 refine gv T.ex fun a g hg hs' qV hF => ?_
 refine PySem.Call_method1 (bZ env) (hs env) ia (bx ok FF (he ▸ hk) hg hd ?_)
 have hm := fz qV FF.h₀
 refine (iJ ("dict") ("dict.get") PySem.F.plainAttrs_dict PySem.F.slot_dict_get PySem.F.type_dict_get hm.typeIs hm.noDict (PySem.wpAny_dict_get1 (knd := intKind C.prog C.w) hs' (wpAny_mono (h.run A env K ρ s _ hA he FF am) (fun v s₁ q => ?_) fun _ _ x => x)))
 obtain ⟨⟨ap, av, aA, aB⟩, k₁⟩ := q
 have aq := FF.keeps k₁.get av.1 aA
 (refine Ex (aZ aB) fun t q0 => ?_; subst q0)
 refine (d8 i g (o7 _ _ _ _) (fz qV aq.h₀) (.after av k₁ (.flat aA ?_ (Kp.tok _ _))))
 have := hF i
 unfold jI at this
 split at this
 . rename_i d hd'; (refine ax this fun v hv hr => ?_; clear this); rw [hv]; rw [hd']; exact hr _
 . rename_i hd'; rw [this, hd']; exact tP
theorem ab.get2 {e2 : Expr} {f2 : af -> Option D} {F : Int -> Option D} (ok : C.Ok) (T : lG C x F) (h : ab C n sc e f) (h2 : ab C n sc e2 f2) (hk : sc.names.lookup x = some .globalImplicit)
 (hd : autoParam ((x == ("__debug__" : Str)) = false) aD)
 (bZ : autoParam (∀ env, attributeBase (.Name x p) "get" env (eval (.Name x p) env) = eval (.Name x p) env) aR) (hs : autoParam (∀ env, starEach [e, e2] env = [(false, eval e env), (false, eval e2 env)]) aR) (ia : autoParam ((apos.endLine == pos.line) = true) aR) :
 ab C n sc (.Call (.Attribute (.Name x p) "get" apos) [e, e2] [] pos) (fun ρ => ((f ρ).bind yS).bind fun i => (f2 ρ).map fun b => (F i).getD b) := by
 constructor
 intro A env K ρ s d hA he FF hf
 refine ax (obE hf) fun i am hf => ?_
 refine ax (obE am) fun y am mq => ?_
 obtain rfl := jM mq
 (refine ax (omE hf) fun b ar q0 => ?_; subst q0)
 refine gv T.ex fun a g hg hs' qV hF => ?_
 refine PySem.Call_method2 (bZ env) (hs env) ia (bx ok FF (he ▸ hk) hg hd ?_)
 have hm := fz qV FF.h₀
 refine (iJ ("dict") ("dict.get") PySem.F.plainAttrs_dict PySem.F.slot_dict_get PySem.F.type_dict_get hm.typeIs hm.noDict (PySem.wpAny_dict_get2 (knd := intKind C.prog C.w) hs' (wpAny_mono (h.run A env K ρ s _ hA he FF am) (fun v s₁ q => ?_) fun _ _ x => x)))
 obtain ⟨⟨ap, av, aA, aB⟩, k₁⟩ := q
 have aq := FF.keeps k₁.get av.1 aA
 (refine Ex (aZ aB) fun t q0 => ?_; subst q0)
 refine wpAny_mono (h2.run A env ap ρ s₁ _ hA he aq ar) (fun v an q => ?_) fun _ _ x => x
 obtain ⟨⟨cI, bV, bW, ek⟩, b7⟩ := q
 have bE := aq.keeps b7.get bV.1 bW
 refine (d8 i g (o7 _ _ _ _) (fz qV bE.h₀) (.after (av.trans k₁.get bV) (k₁.trans b7) (.flat bW ?_ (Kp.tok _ _))))
 have := hF i
 unfold jI at this
 split at this
 . rename_i d hd'; (refine ax this fun v hv hr => ?_; clear this); rw [hv]; rw [hd']; exact hr _
 . rename_i hd'; rw [this, hd']; exact ek
theorem ab.inSet {F : Int -> Bool} (ok : C.Ok) (T : kU C x F) (h : ab C n sc e f) (hk : sc.names.lookup x = some .globalImplicit)
 (hd : autoParam ((x == ("__debug__" : Str)) = false) aD) (hm : autoParam (behindInMarks .In (.Name x p) = false) aW) :
 ab C n sc (.Compare e [.In] [.Name x p] pos) (fun ρ => ((f ρ).bind yS).map fun i => .bool (F i)) := by
 constructor
 intro A env K ρ s d hA he FF hf
 (refine ax (omE hf) fun i am q0 => ?_; subst q0)
 refine ax (obE am) fun y am mq => ?_
 obtain rfl := jM mq
 refine nk T.ex fun a m hg hset => ?_
 refine wpAny_Compare1 (wpAny_mono (h.run A env K ρ s _ hA he FF am) (fun v s₁ q => ?_) fun _ _ x => x) hm
 obtain ⟨⟨ap, av, aA, aB⟩, k₁⟩ := q
 have aq := FF.keeps k₁.get av.1 aA
 (refine Ex (aZ aB) fun t q0 => ?_; subst q0)
 refine bx ok aq (he ▸ hk) hg hd ?_
 exact PySem.wpAny_inSet_of (knd := intKind C.prog C.w) (o7 _ _ _ _) rfl (ub hset aq.h₀) (.after av k₁ (.flat aA iN (Kp.tok _ _)))
noncomputable def zt : D -> Option D
 | .int _ => some (.bool true)
 | _ => none
theorem ab.isInt (ok : C.Ok) (hg : aw C x (.builtin "isinstance")) (hg' : aw C y (.type "int")) (h : ab C n sc e f)
 (hk : sc.names.lookup x = some .globalImplicit) (hk' : sc.names.lookup y = some .globalImplicit)
 (h1 : autoParam (∀ env, starEach [e, .Name y q] env = (false, eval e env) :: starEach [.Name y q] env) aR) (h2 : autoParam (∀ env, starEach [.Name y q] env = (false, eval (.Name y q) env) :: starEach [] env) aR)
 (h3 : autoParam (∀ env, (backTo pos (starEach [.Name y q] env)).any (·.1) = false) aR) (hd : autoParam ((x == ("__debug__" : Str)) = false) aD) (hd' : autoParam ((y == ("__debug__" : Str)) = false) aD) :
 ab C n sc (.Call (.Name x p) [e, .Name y q] [] pos) (fun ρ => (f ρ).bind zt) := by
 constructor
 intro A env K ρ s d hA he F hf
 refine ax (obE hf) fun a am ar => ?_
 cases a <;> (first | exact dK ar | simp only [zt] at ar)
 (replace ar := siE ar; subst ar)
 refine Call_ (bx ok F (he ▸ hk) hg hd ((bg.builtin "isinstance").step ?_ (h1 env) (h3 env)))
 refine wpAny_items_cons (wpAny_mono (h.run A env K ρ s _ hA he F am) (fun v s₁ p => ?_) fun _ _ x => x) (h1 env)
 obtain ⟨⟨ap, av, aA, aB⟩, k₁⟩ := p
 have aq := F.keeps k₁.get av.1 aA
 (refine Ex (aZ aB) fun t q0 => ?_; subst q0)
 refine wpAny_items_cons (bx ok aq (he ▸ hk') hg' hd' (wpAny_items_nil ⟨aq.h₀, ?_⟩)) (h2 env)
 exact PyProof.Rows.call_isinstance_yes (Tx := "int") (typeIs_int _ _ _) PySem.F.isi_meta_int PySem.F.isi_self_int (.after av k₁ (.flat aA iN (Kp.refl _)))
def lh (d : D) : Bool := (mO d).isSome
theorem hV {K K' : KM} : ∀ {ds : List D} {vs : List Value}, ds.all lh = true -> ak K ds vs -> ak K' ds vs
 | [], _, _, r => by simp only [ak] at r ⊢; exact r
 | d :: ds, _, h, r => by
  simp only [List.all_cons, Bool.and_eq_true] at h
  simp only [ak] at r
  (refine bk r fun v r q0 rv rr => ?_; subst q0)
  refine .cons ?_ (hV h.2 rr)
  have h1 := h.1
  unfold lh at h1
  cases d <;> simp only [mO, Option.isSome_none, Bool.false_eq_true] at h1 <;> simp only [bJ] at rv ⊢ <;> exact rv
def vV : D -> D -> Option D
 | .list x, .list y => if x.length + y.length ≤ 16777216 /\ x.all lh = true /\ y.all lh = true then some (.list (x ++ y)) else none
 | _, _ => none
theorem aM.fresh {l r : Expr} (cR : ab C n sc l kE) (ca : ab C n sc r kF) : aM C n sc O (.BinOp l .Add r pos) (fun ρ => b2 vV (kE ρ) (kF ρ)) := by
 constructor
 intro A env P ow K ρ s d hA he ho F hf
 refine bk (j4 hf) fun a b am ar hf => ?_
 have Fk := F.known
 refine wpAny_BinOp (wpAny_mono (cR.run A env _ ρ s a hA he Fk am) (fun u s₁ fc => ?_) fun _ _ x => x)
 obtain ⟨⟨ap, av, aA, aB⟩, k₁⟩ := fc
 refine wpAny_mono (ca.run A env ap ρ s₁ b hA he (Fk.keeps k₁.get av.1 aA) ar) (fun v an ii => ?_) fun _ _ x => x
 obtain ⟨⟨cI, bV, bW, ek⟩, b7⟩ := ii
 have ru := aB.mono bV.1
 have nh := k₁.trans b7
 cases a <;> cases b <;> (first | exact dK hf | (delta vV at hf; dsimp only at hf))
 rename_i x y
 split at hf
 . rename_i hsz; (replace hf := siE hf; subst hf)
   (refine bv (bu ru) fun a vs k q0 e r => ?_; subst q0)
   (refine bv (bu ek) fun a' vs' k' q0 e' r' => ?_; subst q0)
   have ho := bW _ _ e
   have ho' := bW _ _ e'
   refine concat_meets (bC _ ho rfl) (bC _ ho' rfl) noFill_list_add seq_list_add PySem.F.slot_list_add PySem.F.entry_list_add (PySem.F.args_list_add_2 _ _)
    (list_addW a a' vs.toArray vs'.toArray k k' none none #[] #[] (by simp only [List.size_toArray]; rw [r.length, r'.length, aO]; exact hsz.1)) (h9 ho ho' ?_)
   have e2 : vs.toArray ++ vs'.toArray = (vs ++ vs').toArray := by simp
   rw [e2]
   have bE := F.keeps nh.get (bw.refl _ _) fun a o e => nh.get _ _ (F.fe.inH a o e)
   have hr := ak.append (K := K) (hV (K' := K) hsz.2.1 r) (hV (K' := K) hsz.2.2 r') --(hV hsz.2.1 r).append (hV hsz.2.2 r')
   obtain ⟨⟨dX, dN, jW, mz⟩, dR⟩ := dH (tk := an.toks) bE.fe.inH hr
   exact (jt dX (bw.trans (bw.refl _ _) nh.get dN) (bE.keeps dR.get dN jW) mz (nh.trans dR))
 . exact nS hf
structure cw (C : dd) : Prop where
 len : aw C "len" (.builtin "len")
 ord : aw C "ord" (.builtin "ord")
 chr : aw C "chr" (.builtin "chr")
 hex : aw C "hex" (.builtin "hex")
 max : aw C "max" (.builtin "max")
 all : aw C "all" (.builtin "all")
 sum : aw C "sum" (.builtin "sum")
 isinstance : aw C "isinstance" (.builtin "isinstance")
 range : aw C "range" (.type "range")
 enumerate : aw C "enumerate" (.type "enumerate")
 zip : aw C "zip" (.type "zip")
 list : aw C "list" (.type "list")
 int : aw C "int" (.type "int")
structure cZ (C : dd) (n : Nat) (x : Str) (f : Value) (G : List D -> Option D) : Prop where
 g : aw C x f
 w : bg C f
 c : ga C n f G
noncomputable def ah : List Stmt := PySem.Challenge.pw_kl0004_01.main.body
noncomputable def bd : List Stmt -> Nat -> List Stmt
 | [], _ => []
 | .FunctionDef _ _ b _ _ _ _ _ _ _ :: _, 0 => b
 | _ :: _, 0 => []
 | _ :: r, n + 1 => bd r n
noncomputable def aQ : List Stmt -> Nat -> Scope
 | [], _ => default
 | .FunctionDef _ _ _ _ _ _ s _ _ _ :: _, 0 => s
 | _ :: _, 0 => default
 | _ :: r, n + 1 => aQ r n
theorem u6 (vs : List Value) : slicePick vs.toArray none none (some (-1)) = vs.reverse.toArray := by
 unfold slicePick sliceBounds
 simp only [Option.getD_some, List.size_toArray]
 rw [if_neg (by decide), if_neg (by decide)]
 unfold sliceRange
 rw [if_neg (by decide)]
 have hc : (if (vs.length : Int) - 1 > -1 then ((vs.length : Int) - 1 - -1 - -1 - 1) / (- -1) else 0).toNat = vs.length := by
  split
  . have : ((vs.length : Int) - 1 - -1 - -1 - 1) / (- -1) = vs.length := by
     have : (- -1 : Int) = 1 := by decide
     rw [this, Int.ediv_one]; simp +arith only
    rw [this]; exact Int.toNat_natCast vs.length
  . lia
 dsimp only
 rw [hc]
 congr 1
 apply List.ext_getElem?
 intro i
 have A8 : ∀ (k : Nat), k ≤ vs.length -> ((List.range k).map fun (j : Nat) => ((vs.length : Int) - 1 + -1 * (j : Int)).toNat).filterMap (vs.toArray[·]?) = vs.reverse.take k := by
  intro k
  induction k with
  | zero => intro _; simp
  | succ k ih =>
   intro hk
   rw [List.range_succ, List.map_append, List.filterMap_append, ih (by ((with_reducible refine Om.em ‹_› ?_); simp +arith only))]
   have h1 : ((vs.length : Int) - 1 + -1 * (k : Int)).toNat = vs.length - 1 - k := by lia
   have h2 : k < vs.reverse.length := by simp; exact Nat.lt_of_succ_le hk
   rw [List.take_succ_eq_append_getElem h2]
   congr 1
   simp only [List.map_cons, List.map_nil, List.filterMap_cons, List.filterMap_nil, h1, List.getElem?_toArray]
   rw [List.getElem?_eq_getElem (Nat.sub_one_sub_lt_of_lt hk)]
   simp [List.getElem_reverse]
 rw [A8 vs.length (Nat.le_refl _)]
 congr 1
 rw [List.take_of_length_le (by simp)]
noncomputable def sY : D -> Option D
 | .list xs => if xs.length ≤ 16777216 then some (.list xs.reverse) else none
 | _ => none
theorem ab.rev {st : Expr} {fs : af -> Option (Option Int)} (h : ab C n sc e f) (hs : eA C n sc (some st) fs) :
 ab C n sc (.Subscript e (.Slice none none (some st) p) pos) (fun ρ => (f ρ).bind fun a => (fs ρ).bind fun i => if i = some (-1) then sY a else none) := by
 constructor
 intro A env K ρ s d hA he F hf
 refine ax (obE hf) fun a am hf => ?_
 refine ax (obE hf) fun l ar hf => ?_
 split at hf
 . rename_i hl
   subst hl
   refine Subscript_ (wpAny_mono (h.run A env K ρ s a hA he F am) (fun o s₁ fc => ?_) fun _ _ x => x)
   obtain ⟨⟨ap, av, aA, aB⟩, k₁⟩ := fc
   have aq := F.keeps k₁.get av.1 aA
   refine wpAny_Slice ?_
   rw [evalPart_none]
   refine wpAny_pure (wpAny_pure (wpAny_mono (hs.run A env ap ρ s₁ _ hA he aq ar) (fun vl an ii => ?_) fun _ _ x => x))
   (refine Ea ii fun q0 b7 => ?_; clear ii; obtain ⟨tl, rfl⟩ := q0)
   have ir := k₁.trans b7
   have jW : eV ap an.heap := fun a o q => b7.get _ _ (aA a o q)
   have kp : ∀ o', Kp an { an with heap := an.heap.push o' } := fun o' => Kp.push _ _
   have ipush : ∀ o', eV ap (an.heap.push o') := fun o' a o q => Heap.get?_push_of_some _ (jW a o q)
   cases a <;> (first | exact dK hf | simp only [sY] at hf)
   rename_i x
   split at hf
   . rename_i hx
     (replace hf := siE hf; subst hf)
     (refine bv (bu aB) fun a vs k q0 e r => ?_; subst q0)
     have df := r.length
     have hL := cn (ipush { cls := .type "slice", data := .fields #[Value.none, Value.none, partValue ((some (-1 : Int)).map fun i => (i, tl))] }) e
     refine tail_any (ops := [.ref a, .ref an.heap.objs.size]) hL.typeIs slot_list_getitem.lookup (wpAny_getItem_list_slice hL (Heap.IsSliceOf.new ..) .none .none (ku (some (-1)) tl) (by simp) ?_
      (by rw [aO]; simp only [List.size_toArray]; with_reducible exact Om.eN ‹_› (OfNat.ofNat _) ‹_› rfl)) rfl
     rw [u6]
     exact .after av ir (.after (bw.refl _ _) (kp _) (dH (tk := an.toks) (ipush _) r.reverse))
   . exact nS hf
 . exact nS hf
structure na (h : Heap) (it e : Addr) (h' : Heap) : Prop where
 ex : ∃ vs a0, h'.get? e = some { cls := .type "StopIteration", data := .fields vs } /\ vs[1]? = some .none /\ vs[0]? = some a0
 new : h.get? e = none
 ne : e ≠ it
 keep : ∀ b o, b ≠ it -> h.get? b = some o -> h'.get? b = some o
theorem n8 {E : Value -> Shared -> Prop} {b : Array UInt8} {t : Tok} {c : UInt8} {Q : Value -> Shared -> Prop} (hit : PySem.W.KBw.IsBytesIter s.heap it b t i) (hx : b[i]? = some c)
 (hQ : ∀ h', PySem.W.KBw.IsBytesIter h' it b t (i + 1) -> Heap.SameBut it s.heap h' -> Q (.int (c.toNat : Int) s.toks) { s with heap := h', toks := s.toks + 1 }) : wpAny C.M A (call (.builtin "next") [.ref it]) Q E s := by
 refine wS (id hit) fun o ho hc hd => ?_
 refine call_function_entry (by decide +kernel) (by decide +kernel) PySem.W.kdk_entry_next (PySem.W.kdk_args_next _) ?_
 unfold Builtin.«next»
 refine wpAny_bind (m := someArgs "next" 1 2 _) (wpAny_of_eq (a := [Value.ref it]) (by first | rfl | kernel_rfl!) ?_)
 dsimp only
 refine wpAny_bind (wpAny_specialOf (name := Str.ofString "__next__") (PySem.W.KBw.iter_typeIs hit) PySem.W.KBw.slot_next.lookup ?_)
 refine wpAny_ite_split (fun hab => absurd hab (by decide)) (fun _ => ?_)
 refine wpAny_bind (wpAny_callSpecial?_slot (name := Str.ofString "__next__") (PySem.W.KBw.iter_typeIs hit) PySem.W.KBw.slot_next
  (wpAny_call_entry PySem.W.KBw.slot_next (PySem.W.KBw.iter_typeIs hit) PySem.W.KBw.entry_next ?_ (PySem.W.KBw.args_next _)))
 show wpAny _ _ (field (.ref it) 0 >>= _) _ _ s
 refine wpAny_bind (wpAny_field ho hd (x := .bytes b t) rfl ?_)
 show wpAny _ _ (if (Value.bytes b t == Value.none) = true then _ else _) _ _ s
 rw [if_neg (show ¬ ((Value.bytes b t == Value.none) = true) from Bool.false_ne_true)]
 show wpAny _ _ (field (.ref it) 1 >>= _) _ _ s
 refine wpAny_bind (wpAny_field ho hd (x := .int i 0) rfl ?_)
 refine wpAny_bind (wpAny_of_eq (a := b) rfl ?_)
 simp only [Int.toNat_natCast, hx]
 refine wpAny_bind (wpAny_setField ho hd (by simp) (wpAny_bind (wpAny_mkInt (wpAny_pure (bC _ rfl (wpAny_pure (bC _ rfl (hQ _ ?_ (Heap.SameBut.update ..)))))))))
 exact (cF _ (Heap.get?_update_self _ ho (Obj.isFreed_of_fields (Obj.data_mapFields hd _))) ((Obj.cls_mapFields ..).trans hc) (by
  rw [Obj.data_mapFields hd]; simp [rawInt]))
theorem og {b : Array UInt8} {t : Tok} {Q : Value -> Shared -> Prop} (hh : A.handled = none) (hit : PySem.W.KBw.IsBytesIter s.heap it b t i) (hx : b[i]? = none)
 (hE : ∀ h' e, na s.heap it e h' -> E (.ref e) { s with heap := h' }) : wpAny C.M A (call (.builtin "next") [.ref it]) Q E s := by
 refine wS (id hit) fun o ho hc hd => ?_
 refine call_function_entry (by decide +kernel) (by decide +kernel) PySem.W.kdk_entry_next (PySem.W.kdk_args_next _) ?_
 unfold Builtin.«next»
 refine wpAny_bind (m := someArgs "next" 1 2 _) (wpAny_of_eq (a := [Value.ref it]) (by first | rfl | kernel_rfl!) ?_)
 dsimp only
 refine wpAny_bind (wpAny_specialOf (name := Str.ofString "__next__") (PySem.W.KBw.iter_typeIs hit) PySem.W.KBw.slot_next.lookup ?_)
 refine wpAny_ite_split (fun hab => absurd hab (by decide)) (fun _ => ?_)
 refine wpAny_bind (wpAny_callSpecial?_slot (name := Str.ofString "__next__") (PySem.W.KBw.iter_typeIs hit) PySem.W.KBw.slot_next
  (wpAny_call_entry PySem.W.KBw.slot_next (PySem.W.KBw.iter_typeIs hit) PySem.W.KBw.entry_next ?_ (PySem.W.KBw.args_next _)))
 show wpAny _ _ (field (.ref it) 0 >>= _) _ _ s
 refine wpAny_bind (wpAny_field ho hd (x := .bytes b t) rfl ?_)
 show wpAny _ _ (if (Value.bytes b t == Value.none) = true then _ else _) _ _ s
 rw [if_neg (show ¬ ((Value.bytes b t == Value.none) = true) from Bool.false_ne_true)]
 show wpAny _ _ (field (.ref it) 1 >>= _) _ _ s
 refine wpAny_bind (wpAny_field ho hd (x := .int i 0) rfl ?_)
 refine wpAny_bind (wpAny_of_eq (a := b) rfl ?_)
 simp only [Int.toNat_natCast, hx]
 refine wpAny_bind (wpAny_rule (wpAny_bind (wpAny_setField ho hd (by simp) ?_)))
 have hs := Heap.SameBut.update s.heap it (Obj.mapFields (·.setIfInBounds 0 Value.none))
 show wpAny _ _ (newExc (.type "StopIteration") [] >>= _) _ _ _
 refine wpAny_bind ?_
 simp only [newExc, newTuple]
 refine wpAny_bind (wpAny_newObj_type ?_ (by size_fits))
 refine wpAny_bind (m := firstArgMember _ _) (wpAny_of_eq (a := Value.none) (by first | rfl | (simp only [firstArgMember]; rfl)) ?_)
 refine wpAny_newObj_type ?_ (by size_fits)
 simp only [raiseNew]
 refine wpAny_bind (wpAny_handled ?_)
 rw [show A.in1.handled = none from hh]
 refine wpAny_bind (wpAny_pure (wpAny_throw ?_))
 refine hE _ _ ⟨(d8 _ _ (Heap.get?_push_size _ rfl) rfl rfl), ?_, ?_, fun c o' hc' e => ?_⟩
 . refine Heap.get?_none_of_le ?_
   rw [Heap.size_push]
   have : (s.heap.update it (Obj.mapFields (·.setIfInBounds 0 Value.none))).objs.size = s.heap.objs.size := hs.1
   exact Nat.le.intro (congrFun (congrArg HAdd.hAdd (id (Eq.symm this))) 1)
 . rw [Heap.size_push]
   have h1 : (s.heap.update it (Obj.mapFields (·.setIfInBounds 0 Value.none))).objs.size = s.heap.objs.size := hs.1
   have h2 : @LT.lt Nat _ it s.heap.objs.size := Heap.lt_size ho
   intro q
   have q : @Eq Nat _ it := q
   lia
 . exact Heap.get?_push_of_some _ (Heap.get?_push_of_some _ ((hs.2 c hc').trans e))
theorem vf {E : Value -> Shared -> Prop} {b : Array UInt8} {t : Tok} {Q : Value -> Shared -> Prop}
 (hQ : Q (.ref s.heap.objs.size) { s with heap := s.heap.push { cls := .type "bytes_iterator", data := .fields #[.bytes b t, .int 0 0] } }) : wpAny C.M A (call (.builtin "iter") [.bytes b t]) Q E s := by
 refine call_function_entry (by decide +kernel) (by decide +kernel) PySem.W.kdk_entry_iter (PySem.W.kdk_args_iter _) ?_
 unfold Builtin.«iter»
 refine wpAny_bind (m := someArgs "iter" 1 2 _) (wpAny_of_eq (a := [Value.bytes b t]) (by first | rfl | kernel_rfl!) ?_)
 show wpAny _ _ (pyIter (.bytes b t) >>= _) _ _ _
 refine wpAny_bind (PySem.W.KBw.pyIter_bytes ?_)
 exact wpAny_pure (bC _ rfl hQ)
inductive PV where
 | ok (v : Int) (r : List Nat)
 | stop
 | bad
noncomputable def gu : List Nat -> Int -> Int -> PV
 | [], val, c => if Builtin.bitAnd c 64 = 0 then .ok val [] else if val.natAbs < 2 ^ 64 then .stop else .bad
 | k :: r, val, c => if Builtin.bitAnd c 64 = 0 then .ok val (k :: r) else if val.natAbs < 2 ^ 64 then gu r (Builtin.bitOr (val * 2 ^ 6) (Builtin.bitAnd k 63)) k else .bad
def pv : List Nat -> PV
 | [] => .stop
 | k :: r => gu r (Builtin.bitAnd k 63) k
structure hX (P K : KM) (env : Env) (I : Addr) : Prop where
 k : K I = none
 p : P I = none
 loc : I ≠ env.locals
 cel : ∀ x, env.cells.lookup x ≠ some I
theorem au.beside {st : Stmt} {oI : Obj} (h : au C n sc [] [] st g) (hA : dg n A) (he : env.scope = sc)
 (F : bG bf C P env [] K ρ s.heap) (hI : hX P K env I) (ho : s.heap.get? I = some oI) (hg : g ρ = some (.next, ρ')) :
 wpAny C.M A (exec st env) (fun f s' => f = .next /\ ∃ K', fW K P K' /\ bG bf C P env [] K' ρ' s'.heap /\ s'.heap.get? I = some oI /\ hX P K' env I /\ bh s s') dq s := by
 have F' : bG bf C (fR P [I] s.heap) env [] K ρ s.heap := F.moreP fun a ha => by
  have ha : a = I := by simpa using ha
  subst ha; exact ⟨hI.loc, hI.cel⟩
 have pI : fR P [I] s.heap I = some oI := by unfold fR; rw [if_pos (by simp)]; exact ho
 refine wpAny_mono (h.run A env _ [] K ρ s .next ρ' hA he rfl F' hg) (fun f s' q => ?_) fun _ _ x => x
 obtain ⟨⟨K', ow', how, gK, aq, hfl⟩, sm⟩ := q
 have less : ∀ a o, P a = some o -> fR P [I] s.heap a = some o := fun a o e => by
  unfold fR
  rw [if_neg fun m => by have m : a = I := by simpa using m
                         rw [m, hI.p] at e; exact nS e]
  exact e
 have gP : fW K P K' := ⟨gK.1, fun a o e => (gK.2 a o e).imp id fun q => by
  cases r : P a with
  | none => rfl
  | some o' => rw [less a o' r] at q; exact sN q⟩
 have kI : K' I = none := by
  cases q : K' I with
  | none => rfl
  | some o =>
   rcases gK.2 _ _ q with r | r
   . rw [hI.k] at r; exact nS r
   . rw [pI] at r; exact sN r
 have bE := aq.lessP less
 have hn : ow' = [] := by
  have := how rfl
  cases ow' with
  | nil => rfl
  | cons p r => simp [ay] at this
 subst hn
 exact ⟨hfl, K', gP, bE, aq.inP I oI pI, ⟨kI, hI.p, hI.loc, hI.cel⟩, sm⟩
theorem bG.iter (F : bG bf C P env [] K ρ h) (hI : hX P K env I) (k : ∀ b o, b ≠ I -> h.get? b = some o -> h'.get? b = some o) : bG bf C P env [] K ρ h' :=
 F.off (wr := [I]) (fun a ha => by
  have ha : a = I := by simpa using ha
  subst ha; exact (jJ hI.loc hI.cel hI.p hI.k (fun p hp => (nomatch hp)))) fun b o hb e => k b o (by simpa using hb) e
theorem pq {fn : Str} {px pn q cpos pos : Pos} {b : Array UInt8} {t : Tok} {Q : Flow -> Shared -> Prop} (ok : C.Ok)
 (hg : aw C fn (.builtin "next")) (hh : A.handled = none) (F : bG bf C P env [] K ρ s.heap) (hI : hX P K env I) (hy : ρ y = some (.val (.ref I))) (hit : PySem.W.KBw.IsBytesIter s.heap I b t i)
 (hk : env.scope.names.lookup fn = some .globalImplicit) (hx : eI bf env.scope [] x = true) (hdf : (fn == ("__debug__" : Str)) = false) (hdy : (y == ("__debug__" : Str)) = false) (hcy : (y == ("__classdict__" : Str)) = false)
 (h1 : ∀ c, b[i]? = some c -> ∀ s', bG bf C P env [] K (upd ρ x (.int (c.toNat : Int))) s'.heap -> PySem.W.KBw.IsBytesIter s'.heap I b t (i + 1) -> bh s s' -> Q .next s')
 (h2 : b[i]? = none -> ∀ h' e, na s.heap I e h' -> E (.ref e) { s with heap := h' })
 (hs : autoParam (swapsWith (.Call (.Name fn pn) [.Name y q] [] cpos) (some (.Name x px)) pos.line env = pure false) aR) :
 wpAny C.M A (exec (.Assign [.Name x px] (.Call (.Name fn pn) [.Name y q] [] cpos) pos) env) Q E s := by
 have fe := F.fe
 rw [show ay ([] : List (Str × Addr)) = [] from rfl, bb] at fe
 refine ax (fe.vars y _ hy) fun v hv rv => ?_
 have rv : v = .ref I := by simpa only [bJ] using rv
 subst rv
 refine wpAny_Assign_Name (Call_ (bx ok fe hk hg hdf ((bg.builtin "next").step ?_ rfl rfl))) hs
 refine wpAny_items_cons (wpAny_Name (ci fe.fn hv (wpAny_items_nil ⟨fe.h₀, ?_⟩) hcy) hdy) rfl
 cases hc : b[i]? with
 | some c =>
  refine n8 hit hc fun h' hit' hs' => ?_
  have F' := F.iter hI fun c o hc e => (hs'.2 c hc).trans e
  refine Ea (cq hx) fun e1 e2 => ?_
  refine bG.store (s := { s with heap := h', toks := s.toks + 1 }) F' d6 rfl e2 fun h'' tk F'' l' k' => ?_
  refine h1 c hc _ F'' ?_ (j2 h'' tk rfl)
  (refine ax hit' fun o ho r => ?_; clear hit')
  exact (bC o (k' I o hI.loc hI.cel ho) r)
 | none => exact og hh hit hc fun h' e hst => h2 hc h' e hst
noncomputable def b8 (b : Array UInt8) : List Nat := b.toList.map fun c => c.toNat
theorem tJ {b : Array UInt8} {c : UInt8} (h : b[i]? = some c) : (b8 b).drop i = c.toNat :: (b8 b).drop (i + 1) := by
 have : (b8 b)[i]? = some c.toNat := by simp [b8, h]
 refine Ex (List.getElem?_eq_some_iff.mp this) fun hl e => ?_
 rw [List.drop_eq_getElem_cons hl, e]
theorem tI {b : Array UInt8} (h : b[i]? = none) : (b8 b).drop i = [] := by
 have : b.size ≤ i := by simpa using h
 exact List.drop_of_length_le (by simp [b8]; exact this)
theorem tL (b : Array UInt8) : (b8 b).length = b.size := by simp [b8]
theorem xH {v c : Int} (h : Builtin.bitAnd c 64 = 0) : gu l v c = .ok v l := by
 cases l <;> simp [gu, h]
theorem AN {v c : Int} (h : ¬ Builtin.bitAnd c 64 = 0) (hb : ¬ v.natAbs < 2 ^ 64) : gu l v c = .bad := by
 cases l <;> simp only [gu, if_neg h, if_neg hb]
theorem xF {v c : Int} (h : ¬ Builtin.bitAnd c 64 = 0) (hb : v.natAbs < 2 ^ 64) : gu (k :: l) v c = gu l (Builtin.bitOr (v * 2 ^ 6) (Builtin.bitAnd k 63)) k := by
 simp only [gu, if_neg h, if_pos hb]
theorem xG {v c : Int} (h : ¬ Builtin.bitAnd c 64 = 0) (hb : v.natAbs < 2 ^ 64) : gu [] v c = .stop := by
 simp only [gu, if_neg h, if_pos hb]
structure PvOk (C : dd) (n : Nat) (sc : Scope) (st2 st3 st5 : Stmt) (test : Expr) : Prop where
 ex : ∃ g2 g3 g5 ft, au C n sc [] [] st2 g2 /\ dP C n sc [] test ft /\ au C n sc [] [] st3 g3 /\ au C n sc [] [] st5 g5 /\
  (∀ (ρ : af) (c : Int), ρ "b" = some (.int c) -> g2 ρ = some (.next, upd ρ "val" (.int (Builtin.bitAnd c 63)))) /\
  (∀ (ρ : af) (c : Int), ρ "b" = some (.int c) -> ft ρ = some (Builtin.bitAnd c 64 != 0)) /\
  (∀ (ρ : af) (v : Int), ρ "val" = some (.int v) -> v.natAbs < 2 ^ 64 -> g3 ρ = some (.next, upd ρ "val" (.int (v * 2 ^ 6)))) /\
  (∀ (ρ : af) (v c : Int), ρ "val" = some (.int v) -> ρ "b" = some (.int c) -> g5 ρ = some (.next, upd ρ "val" (.int (Builtin.bitOr v (Builtin.bitAnd c 63)))))
theorem dJ {d : D} : upd ρ x d x = some d := by simp [upd]
theorem cO {d : D} (h : y ≠ x) : upd ρ x d y = ρ y := by simp [upd, h]
theorem CA {fn : Str} {st2 st3 st5 : Stmt} {test : Expr} {px pn q cpos pos px' pn' q' cpos' pos' wp rp rn : Pos} {b : Array UInt8} {t : Tok} 
 {Q : Flow -> Shared -> Prop} (ok : C.Ok) (hg : aw C fn (.builtin "next")) (hA : dg n A) (he : env.scope = sc) (hE : PassesOwn C.M A env E) (pk : PvOk C n sc st2 st3 st5 test)
 (F : bG bf C P env [] K ρ s.heap) (hI : hX P K env I) (hy : ρ "iterator" = some (.val (.ref I))) (hit : PySem.W.KBw.IsBytesIter s.heap I b t i)
 (hk : sc.names.lookup fn = some .globalImplicit) (hx : eI bf sc [] "b" = true) (hdf : (fn == ("__debug__" : Str)) = false)
 (h1 : ∀ v r, pv ((b8 b).drop i) = .ok v r -> ∀ s' K' ρ' tk, fW K P K' -> bG bf C P env [] K' ρ' s'.heap -> hX P K' env I -> PySem.W.KBw.IsBytesIter s'.heap I b t ((b8 b).length - r.length) -> r.length ≤ (b8 b).length -> bh s s' -> Q (.ret (.int v tk)) s')
 (h2 : pv ((b8 b).drop i) = .stop -> ∀ s' h' e, (∃ K' ρ', fW K P K' /\ bG bf C P env [] K' ρ' s'.heap /\ hX P K' env I) -> bh s s' -> na s'.heap I e h' -> E (.ref e) { s' with heap := h' })
 (hb : pv ((b8 b).drop i) ≠ .bad)
 (hs1 : swapsWith (.Call (.Name fn pn) [.Name "iterator" q] [] cpos) (some (.Name "b" px)) pos.line env = pure false) (hs2 : swapsWith (.Call (.Name fn pn') [.Name "iterator" q'] [] cpos') (some (.Name "b" px')) pos'.line env = pure false) :
 wpAny C.M A (execs [.Assign [.Name "b" px] (.Call (.Name fn pn) [.Name "iterator" q] [] cpos) pos, st2,
  .While test [st3, .Assign [.Name "b" px'] (.Call (.Name fn pn') [.Name "iterator" q'] [] cpos') pos', st5] [] wp, .Return (some (.Name "val" rn)) rp] env) Q E s := by
 refine qj pk.ex fun g2 g3 g5 ft D2 DT D3 D5 e2 et e3 e5 => ?_
 have d1 : (("b" : Str) == ("__debug__" : Str)) = false := by decide
 refine wpAny_execs_cons (pq ok hg hA.1 F hI hy hit (he ▸ hk) (he ▸ hx) hdf (by decide) (by decide) (fun Gz hc s₁ aq o4 dl => ?_) (fun hc h' e hst => ?_) hs1)
 . have hd := tJ hc
   rw [hd] at h1 h2 hb
   simp only [pv] at h1 h2 hb
   refine ax (id o4) fun o₁ gJ NM => ?_
   refine wpAny_execs_cons (eh (D2.beside hA he aq hI gJ (e2 _ _ dJ)) fun f an p => ?_)
   (refine qh p fun q0 cI bV bE Mb LJ m9 => ?_; clear p; subst q0)
   have qU : PySem.W.KBw.IsBytesIter an.heap I b t (i + 1) := (bC o₁ Mb NM)
   refine wpAny_execs_cons (wpAny_While (codeAny_whileLoop (fun k s' => ∃ K' ρ' i' v c, k = (b8 b).length + 1 - i' /\ i' ≤ (b8 b).length /\ fW K P K' /\ bG bf C P env [] K' ρ' s'.heap /\ hX P K' env I /\ bh s s' /\
    PySem.W.KBw.IsBytesIter s'.heap I b t i' /\ ρ' "iterator" = some (.val (.ref I)) /\ ρ' "val" = some (.int v) /\ ρ' "b" = some (.int c) /\ gu ((b8 b).drop i') v c = gu ((b8 b).drop (i + 1)) (Builtin.bitAnd Gz.toNat 63) Gz.toNat) ?_ ((b8 b).length + 1 - (i + 1)) ?_))
   . rintro k s' ⟨K', ρ', i', v, c, rfl, hi', gK, F', hI', sm, hit', hy', hv', hb', hgo⟩
     refine eh (DT.run A env P [] K' ρ' s' _ hA he rfl F' (et _ _ hb')) fun r cX p => ?_
     (refine n4 p fun q0 ce dR => ?_; clear p; subst q0)
     refine ax (id hit') fun o' ho' ro' => ?_
     have Dr := dR.get _ _ ho'
     have fV := sm.trans (bh.of dR)
     by_cases hz : Builtin.bitAnd c 64 = 0
     . have hbz : (Builtin.bitAnd c 64 != 0) = false := by simp [hz]
       rw [hbz]
       simp only [Bool.false_eq_true, if_false]
       refine wpAny_execs_nil ?_
       have hgo' := xH (l := (b8 b).drop i') (v := v) hz
       have fe := ce.fe
       rw [show ay ([] : List (Str × Addr)) = [] from rfl, bb] at fe
       refine ax (fe.vars "val" _ hv') fun u hu ru => ?_
       (refine Ex (aZ ru) fun tv q0 => ?_; subst q0)
       show wpAny C.M A (execs [.Return (some (.Name "val" rn)) rp] env) Q E cX
       refine wpAny_execs_cons (wpAny_Return_some (wpAny_Name (ci fe.fn hu ?_ (by decide)) (by decide)))
       refine h1 v ((b8 b).drop i') (hgo ▸ hgo') cX K' ρ' tv gK ce hI' ?_ (by simp) fV
       have : (b8 b).length - ((b8 b).drop i').length = i' := by simp; exact Nat.sub_sub_self hi'
       rw [this]
       exact (bC o' Dr ro')
     . have hbz : (Builtin.bitAnd c 64 != 0) = true := by simp [hz]
       rw [hbz]
       simp only [if_true]
       have hv64 : v.natAbs < 2 ^ 64 := by
        by_cases q : v.natAbs < 2 ^ 64
        . exact q
        . exact absurd (hgo ▸ AN (l := (b8 b).drop i') hz q) hb
       refine wpAny_execs_cons (eh (D3.beside hA he ce hI' Dr (e3 _ _ hv' hv64)) fun f cU p => ?_)
       (refine qh p fun q0 n5 mr gw Mc A6 ue => ?_; clear p; subst q0)
       have H0 : PySem.W.KBw.IsBytesIter cU.heap I b t i' := (bC o' Mc ro')
       have Dv : upd ρ' "val" (.int (v * 2 ^ 6)) "iterator" = some (.val (.ref I)) := by rw [cO (by decide)]; exact hy'
       refine wpAny_execs_cons (pq ok hg hA.1 gw A6 Dv H0 (he ▸ hk) (he ▸ hx) hdf (by decide) (by decide) (fun c' hc' B8 jD H5 NV => ?_) (fun hc' h' e hst => ?_) hs2)
       . have hd' := tJ hc'
         refine ax (id H5) fun o₅ Md NN => ?_
         have Mm : upd (upd ρ' "val" (.int (v * 2 ^ 6))) "b" (.int (c'.toNat : Int)) "val" = some (.int (v * 2 ^ 6)) := by rw [cO (by decide), dJ]
         refine wpAny_execs_cons (eh (D5.beside hA he jD A6 Md (e5 _ _ _ Mm dJ)) fun f s₆ p => ?_)
         (refine qh p fun q0 K₆ g₆ uJ Me LK NW => ?_; clear p; subst q0)
         refine wpAny_execs_nil ?_
         have hlt : i' < (b8 b).length := by
          rw [tL]
          exact (Array.getElem?_eq_some_iff.mp hc').1
         refine ⟨_, by with_reducible exact Om.tn ‹_›, K₆, _, i' + 1, _, (c'.toNat : Int), rfl, hlt, (gK.trans mr).trans g₆, uJ, LK, ((fV.trans ue).trans NV).trans NW, (bC o₅ Me NN), ?_, dJ, ?_, ?_⟩
         . rw [cO (by decide), cO (by decide)]; exact Dv
         . rw [cO (by decide), dJ]
         . rw [<- hgo, hd', xF hz hv64]
       . have hd' := tI hc'
         refine hE _ _ (h2 ?_ cU h' e (d8 n5 _ (gK.trans mr) gw A6) (fV.trans ue) hst)
         rw [<- hgo, hd']; exact xG hz hv64
   . have hlt : i < (b8 b).length := by
      rw [tL]
      exact (Array.getElem?_eq_some_iff.mp hc).1
     exact ⟨cI, _, i + 1, _, (Gz.toNat : Int), rfl, hlt, bV, bE, LJ, dl.trans m9, qU, by rw [cO (by decide), cO (by decide)]; exact hy, dJ, by rw [cO (by decide), dJ], rfl⟩
 . have hd := tI hc
   rw [hd] at h2
   exact h2 rfl s h' e (d8 K ρ (fW.refl _ _) F hI) (bh.refl _) hst
theorem au.augOr (h : ab C n sc e f) (hx : eI bf sc O x = true) (hc : (x == ("__classdict__" : Str)) = false) :
 au C n sc O O (.AugAssign (.Name x px) .BitOr e pos) (fun ρ => ((eD O ρ) x).bind fun a => (f (eD O ρ)).bind fun b => (kt PP a b).bind fun d => some (.next, upd ρ x d)) := by
 constructor
 intro A env P ow K ρ s fl ρ' hA he ho F hg
 refine ax (obE hg) fun a am hg => ?_
 refine ax (obE hg) fun b ar hg => ?_
 refine ax (obE hg) fun d bO hg => ?_
 (refine sP hg fun q0 q1 => ?_; clear hg; subst q0 q1)
 subst he
 refine Ea (cq hx) fun hx1 hx2 => ?_
 (refine fh (lX bO) fun i j c q0 q1 gz q2 => ?_; subst q0 q1 q2)
 cases gz
 have mK := am
 rw [<- ho] at mK
 refine ax (F.fe.vars x _ mK) fun u hu ru => ?_
 (refine Ex (aZ ru) fun t q0 => ?_; subst q0)
 refine wpAny_AugAssign_Name (ci F.fe.fn hu ?_ hc)
 refine wpAny_mono ((aM.of h).run A env P ow K ρ s _ hA rfl ho F ar) (fun v s₁ p => ?_) fun _ _ x => x
 (refine gD p fun ap av aq aB k₁ => ?_; clear p)
 (refine Ex (aZ aB) fun t' q0 => ?_; subst q0)
 refine ior_int ?_
 refine (bG.store (s := { s₁ with toks := s₁.toks + 1 }) aq (d := .int (Builtin.bitOr i j)) d6 (by rw [ho]; exact hx1) hx2 fun h' tk F' l' _ => ?_)
 exact ⟨⟨ap, ow, fun _ => ho, fW.of av F.inP, F', rfl⟩, (bh.of k₁).trans (j2 h' tk rfl)⟩
theorem au.augShl (h : ab C n sc e f) (hx : eI bf sc O x = true) (hc : (x == ("__classdict__" : Str)) = false) :
 au C n sc O O (.AugAssign (.Name x px) .LShift e pos) (fun ρ => ((eD O ρ) x).bind fun a => (f (eD O ρ)).bind fun b => (kt qQ a b).bind fun d => some (.next, upd ρ x d)) := by
 constructor
 intro A env P ow K ρ s fl ρ' hA he ho F hg
 refine ax (obE hg) fun a am hg => ?_
 refine ax (obE hg) fun b ar hg => ?_
 refine ax (obE hg) fun d bO hg => ?_
 (refine sP hg fun q0 q1 => ?_; clear hg; subst q0 q1)
 subst he
 refine Ea (cq hx) fun hx1 hx2 => ?_
 (refine fh (lX bO) fun i j c q0 q1 gz q2 => ?_; subst q0 q1 q2)
 unfold qQ at gz
 split at gz
 . rename_i hb
   (replace gz := siE gz; subst gz)
   have mK := am
   rw [<- ho] at mK
   refine ax (F.fe.vars x _ mK) fun u hu ru => ?_
   (refine Ex (aZ ru) fun t q0 => ?_; subst q0)
   refine wpAny_AugAssign_Name (ci F.fe.fn hu ?_ hc)
   refine wpAny_mono ((aM.of h).run A env P ow K ρ s _ hA rfl ho F ar) (fun v s₁ p => ?_) fun _ _ x => x
   (refine gD p fun ap av aq aB k₁ => ?_; clear p)
   (refine Ex (aZ aB) fun t' q0 => ?_; subst q0)
   refine ilshift_int_small hb.1 hb.2.1 hb.2.2 ?_
   refine (bG.store (s := { s₁ with toks := s₁.toks + 1 }) aq (d := .int (i * 2 ^ j.toNat)) d6 (by rw [ho]; exact hx1) hx2 fun h' tk F' l' _ => ?_)
   exact ⟨⟨ap, ow, fun _ => ho, fW.of av F.inP, F', rfl⟩, (bh.of k₁).trans (j2 h' tk rfl)⟩
 . exact nS gz
theorem ou : eD [] ρ = ρ := bb ρ
theorem Cz {b : Array UInt8} {t : Tok} 
 {Q : Flow -> Shared -> Prop} (ok : C.Ok) (hg : aw C "next" (.builtin "next")) (hA : dg n A) (he : env.scope = aQ ah 20) (hE : PassesOwn C.M A env E)
 (F : bG bf C P env [] K ρ s.heap) (hI : hX P K env I) (hy : ρ "iterator" = some (.val (.ref I))) (hit : PySem.W.KBw.IsBytesIter s.heap I b t i)
 (h1 : ∀ v r, pv ((b8 b).drop i) = .ok v r -> ∀ s' K' ρ' tk, fW K P K' -> bG bf C P env [] K' ρ' s'.heap -> hX P K' env I -> PySem.W.KBw.IsBytesIter s'.heap I b t ((b8 b).length - r.length) -> r.length ≤ (b8 b).length -> bh s s' -> Q (.ret (.int v tk)) s')
 (h2 : pv ((b8 b).drop i) = .stop -> ∀ s' h' e, (∃ K' ρ', fW K P K' /\ bG bf C P env [] K' ρ' s'.heap /\ hX P K' env I) -> bh s s' -> na s'.heap I e h' -> E (.ref e) { s' with heap := h' })
 (hb : pv ((b8 b).drop i) ≠ .bad) :
 wpAny C.M A (execs (bd ah 20) env) Q E s := by
 refine CA ok hg hA he hE ?_ F hI hy hit (by kernel_rfl) (by kernel_rfl) (by decide) h1 h2 hb rfl rfl
 refine ⟨_, _, _, _, au.assign (aM.of (ab.bin (ab.name _ _ (by kernel_rfl) (by kernel_rfl)) (ab.int _ _ _) dZ)) (by kernel_rfl), dP.of (bj.val (ab.bin (ab.name _ _ (by kernel_rfl) (by kernel_rfl)) (ab.int _ _ _) dZ)),
  au.augShl (ab.int _ _ _) (by kernel_rfl) (by kernel_rfl), au.augOr (ab.bin (ab.name _ _ (by kernel_rfl) (by kernel_rfl)) (ab.int _ _ _) dZ) (by kernel_rfl) (by kernel_rfl), ?_, ?_, ?_, ?_⟩
 . intro ρ c h; simp [ag, ou, h, kt, zU]
 . intro ρ c h; simp [ag, h, kt, zU, jx, jz, jA, jy]
 . intro ρ v h hv; simp [ou, h, kt, qQ, hv]
 . intro ρ v c h h'; simp [ag, ou, h, h', kt, zU, PP]
theorem mZ {b : Array UInt8} {t : Tok} (x : PySem.W.KBw.IsBytesIter h I b t i) (e : h.get? a = some o) (hn : ∀ vs, o.data ≠ .fields vs) : a ≠ I := by
 rintro rfl
 (refine wS x fun o' ho _ hd => ?_; clear x)
 rw [e] at ho; (replace ho := siE ho; subst ho)
 exact hn _ hd
theorem BG {b : Array UInt8} {t : Tok} {outer : List Env} {Q : Value -> Shared -> Prop} {E : Value -> Shared -> Prop} (ok : C.Ok)
 (hg : aw C "next" (.builtin "next")) (fa : eB C a ["iterator"] (bd ah 20) (aQ ah 20)) (hA : dg (n + 1) A) (hfr : A.frames = some outer) (hi : eV K s.heap) (bZ : ∀ a o, C.h₀.get? a = some o -> K a = some o)
 (hit : PySem.W.KBw.IsBytesIter s.heap I b t i) (kI : K I = none) (hbs : base.StaysIn s.heap) (bI : base.get? I = none) (hfo : s.heap.FunFrames base outer) (hb : pv ((b8 b).drop i) ≠ .bad)
 (h1 : ∀ v r, pv ((b8 b).drop i) = .ok v r -> ∀ s' tk, (∀ c o, c ≠ I -> s.heap.get? c = some o -> s'.heap.get? c = some o) -> PySem.W.KBw.IsBytesIter s'.heap I b t ((b8 b).length - r.length) -> r.length ≤ (b8 b).length -> bh s s' -> Q (.int v tk) s')
 (h2 : pv ((b8 b).drop i) = .stop -> ∀ s' e a0, Heap.FlyingW base outer e (.type "StopIteration") a0 s'.heap -> (∀ c o, s.heap.get? c = some o -> (∀ vs, o.data ≠ .fields vs) -> ∃ sl, s'.heap.get? c = some { o with slots := sl }) ->
  bh s s' -> s.heap.get? e = none -> E (.ref e) s') :
 wpAny C.M A (call (.ref a) [.ref I]) Q E s := by
 refine fq fa.ex fun o fd ho hd i9 iQ ms hsc hgl hbl jV => ?_
 have h₀ : ∀ b o, C.h₀.get? b = some o -> s.heap.get? b = some o := fun b o e => hi _ _ (bZ b o e)
 have hki : fd.scope.kind = .function := by rw [hsc]; exact fa.kind
 have gH : (fd.scope.names.all fun p => !(p.2 == .free)) = true := by rw [hsc]; exact fa.free
 have kr : (["iterator"] : List Str).all (eI bf fd.scope []) = true := by rw [hsc]; kernel_rfl
 have H6 : fd.scope.names.lookup ("iterator" : Str) = some NameKind.local := by rw [hsc]; kernel_rfl
 refine wpAny_call (codeAny_call_cells (by have := hA.2; ((with_reducible refine Om.lm ‹_› ?_); simp +arith only)) (h₀ _ _ ho) hd (ok.nolimit.keeps h₀) (i9.keeps h₀) iQ (jV [.ref I] rfl) ms (fun p hp => ?_) (fun s₁ X => ?_) (by rw [hsc]; exact fa.co) (by rw [hsc]; exact fa.gen) hki)
 . have hp : p = (("iterator" : Str), Value.ref I) := by simpa using hp
   subst hp; exact .inl H6
 . generalize hE' : callEnvC fd s.heap.objs.size a = env at X ⊢
   have hsc' : env.scope = aQ ah 20 := by rw [<- hE', <- hsc]; rfl
   have hL : env.locals = s.heap.objs.size := by rw [<- hE']; rfl
   have nZ : env.frame = some env.locals := by rw [<- hE']; rfl
   have Gf : bG bf C (fun a => s.heap.get? a) env [] K (upd (fun _ => none) "iterator" (.val (.ref I))) s₁.heap :=
    i5 (K := K) (a := a) (xs := ["iterator"]) (ds := [.val (.ref I)]) (vs := [.ref I]) hki gH hgl hbl hi bZ (ak.one (by simp only [bJ])) rfl kr hE' X
   have hIlt : I < s.heap.objs.size := by (refine ax hit fun o ho _ => ?_; clear hit); exact Heap.lt_size ho
   have F : bG bf C (fun a => if a = I then none else s.heap.get? a) env [] K (upd (fun _ => none) "iterator" (.val (.ref I))) s₁.heap := Gf.lessP fun a o e => by
    split at e
    . exact nS e
    . exact e
   have keep := X.toInCall.keep
   have o4 : PySem.W.KBw.IsBytesIter s₁.heap I b t i := by (refine ax hit fun o ho r => ?_; clear hit); exact (bC o (keep _ _ ho) r)
   have hI : hX (fun a => if a = I then none else s.heap.get? a) K env I := ⟨kI, if_pos rfl, by rw [hL]; exact Nat.ne_of_lt hIlt, fun x e => by
    have := X.above x I (mem_of_lookup e)
    rw [hL] at this
    exact Nat.lt_irrefl _ (Nat.lt_trans this hIlt)⟩
   have dl : bh s s₁ := X.toInCall.same
   have old : ∀ {s' : Shared} {K' : KM} {ρ' : af}, bG bf C (fun a => if a = I then none else s.heap.get? a) env [] K' ρ' s'.heap -> ∀ c o, c ≠ I -> s.heap.get? c = some o -> s'.heap.get? c = some o := fun F' c o hc e => F'.inP c o (by
    show (if c = I then none else s.heap.get? c) = some o
    rw [if_neg hc]; exact e)
   refine Cz ok hg (A := A.deeper env) (n := n) ⟨hA.1, by show A.depth + 1 + n < _; have := hA.2; ((with_reducible refine Om.lm ‹_› ?_); simp +arith only), by show A.units + 3 + 8 * n + 256 < _; have := hA.3; ((with_reducible refine Om.lm ‹_› ?_); simp +arith only)⟩ hsc' PassesOwn.leaving F hI dJ o4
    (fun v r hv s' K' ρ' tk gK F' hI' hit' hr sm' => h1 v r hv s' tk (old F') hit' hr (dl.trans sm')) (fun hv s' h' e hF sm' hst => ?_) hb
   (refine bk hF fun K' ρ' gK F' hI' => ?_; clear hF)
   obtain ⟨⟨vs, a0, he, hv1, hv0⟩, M8, hne', tz⟩ := hst
   have okeep : ∀ c o, c ≠ I -> s.heap.get? c = some o -> h'.get? c = some o := fun c o hc e => tz c o hc (old F' c o hc e)
   have bkeep : base.StaysIn h' := fun c o e => okeep c o (fun q => by rw [q, bI] at e; exact nS e) (hbs c o e)
   have bL : base.get? env.locals = none := by
    cases q : base.get? env.locals with
    | none => rfl
    | some o =>
     have := Heap.lt_size (hbs _ _ q)
     rw [hL] at this
     exact absurd this (Nat.lt_irrefl _)
   have be : base.get? e = none := by
    cases q : base.get? e with
    | none => rfl
    | some o =>
     have hne : e ≠ I := fun w => by rw [w, bI] at q; exact nS q
     have := old F' e o hne (hbs e o q)
     rw [M8] at this; exact nS this
   have ff : h'.FunFrames base (env :: outer) := by
    refine (h9 (by rw [F'.fe.fn]; decide) ?_ (hfo.of_keeps fun c o e hn => (bC o (okeep c o (mZ hit e hn) e) rfl)))
    refine lD F'.fe.ns fun m oL es ep hoL hdL _ => ?_
    exact (eR env.locals oL nZ bL (tz _ _ (Ne.symm hI'.loc) hoL) (fun vs q => by rw [hdL] at q; cases q))
   refine wpAny_leaving_firstW (s := { s' with heap := h' }) (base := base) (outer := outer) (by show A.frames.map (env :: ·) = _; rw [hfr]; rfl) ff nZ he bkeep be rfl hv1 hv0 fun h'' hL'' => ?_
   (refine wQ hL'' fun k1 q0 k3 k4 => ?_; clear hL''; obtain ⟨_, _, k2⟩ := q0)
   have hes : s.heap.get? e = none := by
    cases q : s.heap.get? e with
    | none => rfl
    | some o =>
     have := old F' e o hne' q
     rw [M8] at this; exact nS this
   exact h2 hv { s' with heap := h'' } e a0 (oE k1 be k2 k3) (fun c o e' hn => k4 c o (okeep c o (mZ hit e' hn) e') hn) ((dl.trans sm').trans (j2 h'' s'.toks rfl)) hes
theorem tD {K : KM} : ∀ {ds : List D} {vs : List Value} {ns : List Int}, ak K ds vs -> iS ds = some ns -> IntsAre vs ns
 | [], _, _, r, h => by simp only [ak] at r; subst r; cases h; exact .nil
 | d :: ds, _, _, r, h => by
  cases d <;> (first | exact dK h | simp only [iS] at h)
  (refine ax (omE h) fun bs h1 q0 => ?_; subst q0)
  simp only [ak] at r
  (refine bk r fun v r q0 rv rr => ?_; subst q0)
  (refine Ex (aZ rv) fun t q0 => ?_; subst q0)
  exact .cons _ _ (tD rr h1)
theorem xJ {pv' p3 pb pta : Pos} {ns : List Int} (ok : C.Ok) (gi : aw C "iter" (.builtin "iter")) (gb : aw C "bytes" (.type "bytes"))
 (hh : A.handled = none) (he : env.scope = sc) (F : bG bf C P env [] K ρ s.heap) (ht : ρ "tape" = some (.list ds)) (hn : iS ds = some ns) (hr : ∀ n ∈ ns, 0 ≤ n /\ n < 256) (hl : ns.length ≤ 1000000)
 (ki : sc.names.lookup ("iter" : Str) = some .globalImplicit) (kb : sc.names.lookup ("bytes" : Str) = some .globalImplicit) (hx : eI bf sc [] "iterator" = true) (hc : eI bf sc [] "codes" = true)
 (hw : swappedStores [.Tuple ts k pt] (.Tuple [.Call (.Name "iter" pi) [.Call (.Name "bytes" pb) [.Name "tape" pta] [] p1] [] p2, .List [] p3] k' pv') env = pure (some [("iterator" : Str), ("codes" : Str)]))
 (hs : swapsWithSole [.Tuple ts k pt] (.Tuple [.Call (.Name "iter" pi) [.Call (.Name "bytes" pb) [.Name "tape" pta] [] p1] [] p2, .List [] p3] k' pv') pos.line env = pure false) :
 wpAny C.M A (exec (.Assign [.Tuple ts k pt] (.Tuple [.Call (.Name "iter" pi) [.Call (.Name "bytes" pb) [.Name "tape" pta] [] p1] [] p2, .List [] p3] k' pv') pos) env)
  (fun f s' => f = .next /\ ∃ I ac t, bG bf C P env [("codes", ac)] K (upd (upd ρ "codes" (.list [])) "iterator" (.val (.ref I))) s'.heap /\ PySem.W.KBw.IsBytesIter s'.heap I (byteArr ns) t 0 /\ hX P K env I /\ ac ≠ I /\ bh s s') dq s := by
 subst he
 have fe := F.fe
 rw [show ay ([] : List (Str × Addr)) = [] from rfl, bb] at fe
 refine ax (fe.vars "tape" _ ht) fun v hv rv => ?_
 (refine bv (bu rv) fun l vs m q0 e r => ?_; subst q0)
 have hia := tD r hn
 have df := hia.length
 refine PyProof.Rows.Assign_Tuple_swapped (names := ["iterator", "codes"]) (wpAny_Tuple (wpAny_items_cons (Call_ (bx ok fe ki gi (by decide) ((bg.builtin "iter").step ?_ rfl rfl))) rfl)) hs hw
 refine wpAny_items_cons (Call_ (bx ok fe kb gb (by decide) ((bg.type "bytes").step (wpAny_items_cons (wpAny_Name (ci fe.fn hv (wpAny_items_nil ⟨fe.h₀, ?_⟩) (by decide)) (by decide)) rfl) rfl rfl))) rfl
 refine PySem.call_bytes_ints (cn fe.inH e) hia hr (by rw [aO]; with_reducible exact Om.eN ‹_› (OfNat.ofNat _) ‹_› rfl) hh fun cR kG k₁ Ad => ?_
 have aq := F.keeps Ad (bw.refl _ _) fun a o e => Ad _ _ (F.fe.inH a o e)
 refine wpAny_items_nil ⟨fun b o e => Ad _ _ (fe.h₀ b o e), vf ?_⟩
 generalize hI : cR.objs.size = I
 have nI : cR.get? I = none := hI ▸ bt cR
 generalize Dp : cR.push { cls := .type "bytes_iterator", data := .fields #[.bytes (byteArr ns) kG, .int 0 0] } = ca
 have gI : ca.get? I = some { cls := .type "bytes_iterator", data := .fields #[.bytes (byteArr ns) kG, .int 0 0] } := by rw [<- hI, <- Dp]; exact Heap.get?_push_size _ rfl
 have b7 : ∀ b o, cR.get? b = some o -> ca.get? b = some o := fun b o e => Dp ▸ Heap.get?_push_of_some _ e
 have bE := aq.keeps b7 (bw.refl _ _) fun a o e => b7 _ _ (aq.fe.inH a o e)
 refine wpAny_items_cons (wpAny_List (wpAny_items_nil ?_)) rfl
 refine ⟨by rw [aO]; simp, wpAny_items_nil ⟨by rw [aO]; simp, ?_⟩⟩
 show wpAny C.M A (unpackItems (.ref (ca.push (aT [] 0)).objs.size) ([Value.ref I, .ref ca.objs.size].toArray.size) none) _ dq { s with heap := (ca.push (aT [] 0)).push { cls := .type "tuple", data := .seq [Value.ref I, .ref ca.objs.size].toArray }, toks := k₁ }
 generalize hac : ca.objs.size = ac
 have nac : ca.get? ac = none := hac ▸ bt ca
 generalize Dq : ca.push (aT [] 0) = dU
 have gac : dU.get? ac = some (aT [] 0) := by rw [<- hac, <- Dq]; exact Heap.get?_push_size _ rfl
 have dR : ∀ b o, ca.get? b = some o -> dU.get? b = some o := fun b o e => Dq ▸ Heap.get?_push_of_some _ e
 have ce := bE.keeps dR (bw.refl _ _) fun a o e => dR _ _ (bE.fe.inH a o e)
 have hT : Heap.IsTuple (dU.push { cls := .type "tuple", data := .seq [Value.ref I, .ref ac].toArray }) dU.objs.size [Value.ref I, .ref ac].toArray := (kH _ (Heap.get?_push_size _ rfl) rfl 0 rfl)
 refine wpAny_unpackItems_tuple (s := { s with heap := dU.push { cls := .type "tuple", data := .seq [Value.ref I, .ref ac].toArray }, toks := k₁ }) hh hT fun ib Aa => ?_
 have eY : ∀ b o, dU.get? b = some o -> ib.get? b = some o := fun b o e => Aa b o (fun q => by
  have q : @Eq Nat b (dU.push { cls := .type "tuple", data := .seq [Value.ref I, .ref ac].toArray }).objs.size := q
  rw [Heap.size_push] at q
  have := Heap.lt_size e
  have this : @LT.lt Nat _ b dU.objs.size := this
  lia) (Heap.get?_push_of_some _ e)
 have gw := ce.keeps eY (bw.refl _ _) fun a o e => eY _ _ (ce.fe.inH a o e)
 have off : ∀ {h : Heap} {a}, bG bf C P env [] K ρ h -> h.get? a = none -> hX P K env a := fun {h a} F e => ⟨aX F.fe.inH e, eX F.inP e, fun q => (by
  refine hY F.fe.ns fun m o _ _ ho _ => ?_
  rw [<- q, e] at ho; exact nS ho), fun x q => (by refine Ex (F.fe.cl x _ q) fun o ho => ?_; rw [e] at ho; exact nS ho)⟩
 have aI := off aq nI
 have aac := off bE nac
 have neI : ac ≠ I := fun q => by rw [q, gI] at nac; exact sN nac
 refine Ea (cq hx) fun _ hx2 => ?_
 refine Ea (cq hc) fun _ hc2 => ?_
 show wpAny C.M A (do holding [.ref I] (bindName env "codes" (.ref ac)); assignInOrder [fun v => bindName env "iterator" v] [.ref I]) _ dq { s with heap := ib, toks := k₁ }
 refine wpAny_bind (wpAny_holding (wpAny_bindName (bG.store0 (s := { s with heap := ib, toks := k₁ }) gw rfl hc2 fun n7 Bn jD V₅ l₅ AQ => ?_)))
 have LG := AQ _ _ aI.loc aI.cel (eY _ _ (dR _ _ gI))
 have GU := AQ _ _ aac.loc aac.cel (eY _ _ gac)
 have O₅ := jD.own1 (x := "codes") (ds := []) rfl V₅ GU ak.nil aac.k aac.p aac.loc aac.cel (fun p hp => (nomatch hp))
 show wpAny C.M A (do holding [] (bindName env "iterator" (.ref I)); assignInOrder [] []) _ dq _
 refine wpAny_bind (wpAny_holding (wpAny_bindName (bG.store (s := { s with heap := n7, toks := Bn }) O₅ (d := .val (.ref I)) (by simp only [bJ]) (by
  show [("codes" : Str)].contains ("iterator" : Str) = false
  decide) hx2 fun v9 Il uJ l₆ CD => ?_)))
 refine wpAny_pure ⟨rfl, I, ac, kG, uJ, (cF _ (CD _ _ aI.loc aI.cel LG) rfl rfl), aI, neI, (j2 v9 Il rfl)⟩
def ej : Nat -> List Nat -> List Int -> Option (List Int)
 | 0, _, _ => none
 | k + 1, rest, acc => match pv rest with
  | .ok v r => ej k r (acc ++ [v])
  | .stop => some acc
  | .bad => none
def k9 (P : KM) (Ls : List Addr) (outer : List Env) : Prop := ∀ e ∈ outer, e.scope.kind ≠ .module /\ ∃ L o, L ∈ Ls /\ e.frame = some L /\ P L = some o /\ ∀ vs, o.data ≠ .fields vs
theorem k9.frames {P : KM} {Ls : List Addr} {h base : Heap} (hp : eV P h) (hb : ∀ L ∈ Ls, base.get? L = none) : ∀ {outer : List Env}, k9 P Ls outer -> h.FunFrames base outer
 | [], _ => trivial
 | e :: r, x => by
  refine vI (x e List.mem_cons_self) fun h1 L o h2 h3 h4 h5 => ?_
  exact (h9 h1 (eR L o h3 (hb L h2) (hp _ _ h4) h5) (k9.frames hp hb fun e' he' => x e' (List.mem_cons_of_mem _ he')))
theorem mX : ∀ {l : List Nat} {v c w : Int} {r : List Nat}, gu l v c = .ok w r -> ∃ p, l = p ++ r
 | [], v, c, w, r, h => by
  simp only [gu] at h
  split at h
  . cases h; exact ⟨[], rfl⟩
  . split at h <;> cases h
 | k :: l, v, c, w, r, h => by
  simp only [gu] at h
  split at h
  . cases h; exact ⟨[], rfl⟩
  . split at h
    . refine Ex (mX h) fun p e => ?_
      exact ⟨k :: p, by rw [e]; rfl⟩
    . cases h
theorem xI {w : Int} {r : List Nat} (h : pv l = .ok w r) : ∃ p, l = p ++ r := by
 cases l with
 | nil => simp [pv] at h
 | cons k l =>
  simp only [pv] at h
  refine Ex (mX h) fun p e => ?_
  exact ⟨k :: p, by rw [e]; rfl⟩
theorem um {L rest r : List Nat} (h : ∃ p, rest = p ++ r) (hr : rest = L.drop (L.length - rest.length)) : r = L.drop (L.length - r.length) := by
 (refine Ex h fun p e => ?_; clear h)
 have e2 : L = L.take (L.length - rest.length) ++ (p ++ r) := by
  rw [<- e]
  conv => lhs; rw [<- List.take_append_drop (L.length - rest.length) L]
  rw [<- hr]
 have e3 : L = (L.take (L.length - rest.length) ++ p) ++ r := by rw [List.append_assoc]; exact e2
 clear e2 hr
 generalize L.take (L.length - rest.length) ++ p = q at e3
 subst e3
 simp
theorem dQ.slots (y : dQ env h x v) (hk : ∀ c o, h.get? c = some o -> (∀ vs, o.data ≠ .fields vs) -> ∃ sl, h'.get? c = some { o with slots := sl }) : dQ env h' x v := by
 cases y with
 | loc m a b c =>
  (refine bv b fun o es ep e hd r => ?_; clear b)
  refine Ex (hk _ _ e (fun vs q => by rw [hd] at q; cases q)) fun sl e' => ?_
  exact .loc m a (fD _ es ep e' hd r) c
 | cell c a b d =>
  (refine ax d fun o e hd => ?_; clear d)
  refine Ex (hk _ _ e (fun vs q => by rw [hd] at q; cases q)) fun sl e' => ?_
  exact .cell c a b (bC _ e' hd)
 | free c a b d =>
  (refine ax d fun o e hd => ?_; clear d)
  refine Ex (hk _ _ e (fun vs q => by rw [hd] at q; cases q)) fun sl e' => ?_
  exact .free c a b (bC _ e' hd)
theorem pP {K : KM} : ∀ (l : List Int) {vs : List Value}, ak K (l.map .int) vs -> ∀ K', ak K' (l.map .int) vs
 | [], _, r, _ => by simp only [List.map_nil, ak] at r ⊢; exact r
 | i :: l, _, r, K' => by
  simp only [List.map_cons, ak] at r ⊢
  (refine bk r fun v r q0 rv rr => ?_; subst q0)
  (refine Ex (aZ rv) fun t q0 => ?_; subst q0)
  exact (d8 _ _ rfl d6 (pP l rr K'))
structure rH (P K : KM) (Ls : List Addr) (s : Shared) (out : List Int) (f : Flow) (s' : Shared) : Prop where
 ex : ∃ ac vs m, f = .ret (.ref ac) /\ s'.heap.get? ac = some (aT vs m) /\ ak K (out.map .int) vs /\ P ac = none /\ K ac = none
 keep : ∀ c o, P c = some o -> c ∉ Ls -> s'.heap.get? c = some o
 slots : ∀ c o, P c = some o -> (∀ vs, o.data ≠ .fields vs) -> ∃ sl, s'.heap.get? c = some { o with slots := sl }
 kin : eV K s'.heap
 same : bh s s'
theorem AS {outer : List Env} {test : Expr} {epos ccpos psi pr pr' ph : Pos} {ac : Addr} {t : Tok} {dt : D} {out : List Int} {fuel : Nat}
 (ok : C.Ok) (gn : aw C "next" (.builtin "next")) (gs : aw C "StopIteration" (.type "StopIteration")) (gp : aw C "_parse_varint" (.ref a)) (fa : eB C a ["iterator"] (bd ah 20) (aQ ah 20))
 (hA : dg (n + 1) A) (hfr : A.frames = some (env :: outer)) (nZ : env.frame = some env.locals) (he : env.scope = sc) (ho : k9 P Ls outer) (kLs : ∀ L ∈ Ls, K L = none /\ P L ≠ none)
 (F : bG bf C P env [("codes", ac)] K ρ s.heap) (hI : hX P K env I) (neI : ac ≠ I) (hit : PySem.W.KBw.IsBytesIter s.heap I (byteArr bs) t 0) (hy : ρ "iterator" = some (.val (.ref I))) (hc : ρ "codes" = some (.list [])) (htp : ρ "tape" = some dt)
 (ht : dP C (n + 1) sc ["codes"] test ft) (et : ∀ (ρ : af) (acc : List Int), ρ "codes" = some (.list (acc.map .int)) -> ρ "tape" = some dt -> acc.length < fuel -> ft ρ = some true)
 (hfu : fuel ≤ 10000) (ld : ej fuel (b8 (byteArr bs)) [] = some out)
 (kp : sc.names.lookup ("_parse_varint" : Str) = some .globalImplicit) (ks : sc.names.lookup ("StopIteration" : Str) = some .globalImplicit) (hki : sc.kind = .function)
 (ia : (apos.endLine == cpos.line) = true) :
 wpAny C.M A (exec (.Try [.While test [.Expr (.Call (.Attribute (.Name "codes" px) "append" apos) [.Call (.Name "_parse_varint" pn) [.Name "iterator" q] [] ccpos] [] cpos) epos] [] wp]
  [.ExceptHandler (some (.Name "StopIteration" psi)) none [.Return (some (.Name "codes" pr)) pr'] ph] [] [] tp) env) (rH P K Ls s out) dq s := by
 have hh := hA.1
 refine wpAny_Try_except (wpAny_execs_cons (wpAny_While (codeAny_whileLoop (fun k s' => ∃ ρ' rest acc, bG bf C P env [("codes", ac)] K ρ' s'.heap /\ bh s s' /\ PySem.W.KBw.IsBytesIter s'.heap I (byteArr bs) t ((b8 (byteArr bs)).length - rest.length) /\ rest.length ≤ (b8 (byteArr bs)).length /\
  rest = (b8 (byteArr bs)).drop ((b8 (byteArr bs)).length - rest.length) /\ ρ' "iterator" = some (.val (.ref I)) /\ ρ' "codes" = some (.list (acc.map .int)) /\ ρ' "tape" = some dt /\ acc.length + k = fuel /\ ej k rest acc = some out) ?_ fuel ?_)))
 . rintro k s' ⟨ρ', rest, acc, F', sm, hit', hle, cE, hy', hc', htp', hk, hgo⟩
   cases k with
   | zero => simp [ej] at hgo
   | succ k =>
    refine eh (ht.run A env P _ K ρ' s' true hA he rfl F' (et ρ' acc hc' htp' (Om.a6 hk))) fun r s₁ p => ?_
    (refine n4 p fun q0 aq k₁ => ?_; clear p; subst q0)
    simp only [if_true]
    have o4 : PySem.W.KBw.IsBytesIter s₁.heap I (byteArr bs) t ((b8 (byteArr bs)).length - rest.length) := by (refine ax hit' fun o ho r => ?_; clear hit'); exact (bC o (k₁.get _ _ ho) r)
    refine aJ (aq.own ("codes", ac) List.mem_cons_self) fun dsc vs m w1 w2 w3 w4 w5 w6 w7 w8 => ?_
    rw [hc'] at w1; cases w1
    have fe := aq.fe
    have hrem : eD (ay [(("codes" : Str), ac)]) ρ' "iterator" = some (.val (.ref I)) := by
     unfold eD
     rw [show (ay [(("codes" : Str), ac)]).contains ("iterator" : Str) = false from (by show [("codes" : Str)].contains ("iterator" : Str) = false; decide)]
     exact hy'
    refine ax (fe.vars "iterator" _ hrem) fun u hu ru => ?_
    have ru : u = .ref I := by simpa only [bJ] using ru
    subst ru
    refine bk fa.ex fun oP fdP hoP hdP _ => ?_
    have hpv : ∀ (x : PV), pv rest = x -> ej (k + 1) rest acc = (match x with | .ok v r => ej k r (acc ++ [v]) | .stop => some acc | .bad => none) := fun x hx => by simp only [ej, hx]
    refine wpAny_execs_cons (wpAny_Expr_any (wpAny_Call_append rfl rfl ia rfl (wpAny_Name (ci fe.fn w2 (d8 ac vs.toArray rfl (eR _ m w3 rfl rfl rfl) ?_) (by decide)) (by decide))) (by unfold interactive; rw [he, hki]; rfl) rfl)
    refine Call_ (bx ok fe (he ▸ kp) gp (by decide) ((bg.func hoP hdP).step (wpAny_items_cons (wpAny_Name (ci fe.fn hu (wpAny_items_nil ⟨fe.h₀, ?_⟩) (by decide)) (by decide)) rfl) rfl rfl))
    have bnone : ∀ L ∈ (I :: env.locals :: Ls), (TI.gone s₁.heap (I :: env.locals :: Ls)).get? L = none := fun L hL => TI.gone_none hL
    have hff : s₁.heap.FunFrames (TI.gone s₁.heap (I :: env.locals :: Ls)) (env :: outer) := by
     refine (h9 (by rw [fe.fn]; decide) ?_ (k9.frames aq.inP (fun L hL => bnone L (List.mem_cons_of_mem _ (List.mem_cons_of_mem _ hL))) ho))
     refine lD fe.ns fun mm oL es ep hoL hdL _ => ?_
     exact (eR env.locals oL nZ (bnone _ (by simp)) hoL (fun vs q => by rw [hdL] at q; cases q))
    refine BG (base := TI.gone s₁.heap (I :: env.locals :: Ls)) ok gn fa hA hfr fe.inH fe.base o4 hI.k (fun b o e => (TI.gone_some e).2) (bnone I (by simp)) hff ?_ (fun v r hv an tk Ma qU hrl m9 => ?_) (fun hv an e a0 hfl hup m9 hes => ?_)
    . rw [<- cE]
      intro hbad
      rw [hpv _ hbad] at hgo; cases hgo
    . rw [<- cE] at hv
      rw [hpv _ hv] at hgo
      have bE : bG bf C P env [("codes", ac)] K ρ' an.heap := aq.off (wr := [I]) (fun x hx => by
       have hx : x = I := by simpa using hx
       subst hx
       exact (jJ hI.loc hI.cel hI.p hI.k (fun p hp => by
        have hp : p = (("codes" : Str), ac) := by simpa using hp
        subst hp; exact neI))) fun b o hb e => Ma b o (by simpa using hb) e
      refine wpAny_list_append_plain (items := vs.toArray) ⟨m, Ma _ _ neI w3⟩ (fun h' hl' hs' => wpAny_execs_nil ?_) (by have := w4.length; simp only [List.size_toArray]; rw [aO]; simp at this; exact Om.a5 this hk hfu rfl)
      (refine Ex hl' fun m' bO => ?_; clear hl')
      have ce := bE.ownSet (p := ("codes", ac)) List.mem_cons_self (by show [("codes" : Str)].Nodup; decide) (ds' := (acc ++ [v]).map .int) (vs' := vs ++ [.int v tk]) (k' := m') (by rw [bO]; simp [aT]) hs' (by
       rw [List.map_append]; exact w4.append (ak.one d6))
      have hlr : r.length ≤ (b8 (byteArr bs)).length := hrl
      refine ⟨k, Nat.lt_succ_self _, _, r, acc ++ [v], ce, (sm.trans (bh.of k₁)).trans (m9.trans (j2 h' an.toks rfl)), ?_, hlr, ?_, ?_, by simp [upd], ?_, by simp; exact Om.a7 hk, hgo⟩
      . (refine ax qU fun o ho rr => ?_; clear qU)
        exact (bC o ((hs'.2 I (Ne.symm neI)).trans ho) rr)
      . exact um (xI hv) cE
      . rw [cO (show ("iterator" : Str) ≠ ("codes" : Str) by decide)]; exact hy'
      . rw [cO (show ("tape" : Str) ≠ ("codes" : Str) by decide)]; exact htp'
    . rw [<- cE] at hv
      rw [hpv _ hv] at hgo
      have hgo : acc = out := by simpa using hgo
      subst hgo
      refine PassesOwn.looking _ _ ?_
      refine wpAny_looks_onW hfr nZ hfl fun dU M4 Mj => wpAny_landsW M4 fun ib Ab Mk => ?_
      have hT : ∃ ob, ib.get? e = some ob /\ ob.cls = .type "StopIteration" := Ab.there
      have base4 := Ab.1
      have keep4 : ∀ c o, s₁.heap.get? c = some o -> c ∉ (I :: env.locals :: Ls) -> ib.get? c = some o := fun c o e' hc' => base4 c o ((TI.gone_get hc').trans e')
      have slots4 : ∀ c o, s₁.heap.get? c = some o -> (∀ vs, o.data ≠ .fields vs) -> ∃ sl, ib.get? c = some { o with slots := sl } := fun c o e' hn => by
       refine Ex (hup c o e' hn) fun sl e1 => ?_
       refine Ex (Mj c _ e1 hn) fun sl' e2 => ?_
       refine Ex (Mk c _ e2 hn) fun sl'' e3 => ?_
       exact ⟨sl'', e3⟩
      refine wpAny_handleBy_builtin (T := "StopIteration") (X := "StopIteration") (b := true) (by rw [isSubtype_type]; kernel_rfl) (by rw [isSubtype_type]; kernel_rfl) (by rw [isSubtype_type]; kernel_rfl) ?_
      have acOut : ac ∉ (I :: env.locals :: Ls) := fun hm => by
       rcases List.mem_cons.mp hm with q | hm
       . exact neI q
       . rcases List.mem_cons.mp hm with q | hm
         . exact w7 q
         . exact (kLs ac hm).2 w6
      have ac4 := keep4 ac _ w3 acOut
      have K4 : eV K ib := fun c o e' => keep4 c o (fe.inH c o e') fun hm => by
       rcases List.mem_cons.mp hm with q | hm
       . rw [q, hI.k] at e'; exact nS e'
       . rcases List.mem_cons.mp hm with q | hm
         . rw [q, aq.lK] at e'; exact nS e'
         . rw [(kLs c hm).1] at e'; exact nS e'
      have ns4 : ∃ mm, ib.Ns env.locals mm := by
       refine lD fe.ns fun mm oL es ep hoL hdL r => ?_
       refine Ex (slots4 _ _ hoL (fun vs q => by rw [hdL] at q; cases q)) fun sl e' => ?_
       exact ⟨mm, _, es, ep, e', hdL, r⟩
      have al4 : ∀ c o, s₁.heap.get? c = some o -> (∀ vs, o.data ≠ .fields vs) -> ∃ o, ib.get? c = some o := fun c o e' hn => by refine Ex (slots4 c o e' hn) fun sl q => ?_; exact ⟨_, q⟩
      have v4 := w2.slots slots4
      have glo4 : ∀ {A' : Around} {E' : Value -> Shared -> Prop} {Q' : Value -> Shared -> Prop}, Q' (.type "StopIteration") { an with heap := ib } -> wpAny C.M A' (eval (.Name "StopIteration" psi) env) Q' E' { an with heap := ib } := fun hq => by
       refine Name_function_global fe.fn (show env.scope.names.lookup _ = _ from he ▸ ks) ?_ (by decide)
       have hG : ({ an with heap := ib } : Shared).heap.Ns env.globals C.mg := by rw [fe.gl]; exact ok.g.keeps fun b o e' => K4 _ _ (fe.base b o e')
       have hB : ({ an with heap := ib } : Shared).heap.Ns env.builtins C.mb := by rw [fe.bl]; exact ok.b.keeps fun b o e' => K4 _ _ (fe.base b o e')
       rcases gs with e' | ⟨e1, e2⟩
       . exact loadGlobal_global hG e' hq
       . exact loadGlobal_builtin hG e1 hB e2 hq
      refine glo4 (h9 rfl hT ?_)
      rw [if_pos rfl]
      refine wpAny_setFlight_noneW (s := { an with heap := ib }) Ab.1 Ab.2.2.1 Ab.2.2.2.at fun n7 b5 f5 t5 k5 => ?_
      have ac5 := k5 ac _ ac4 (fun vs q => by cases q)
      have v5 : dQ env n7 "codes" (.ref ac) := v4.slots fun c o e' hn => ⟨o.slots, k5 c o e' hn⟩
      have P5 : ∀ c o, P c = some o -> c ∉ Ls -> n7.get? c = some o := fun c o e' hn => b5 c o (by
       rw [TI.gone_get]
       . exact aq.inP c o e'
       . intro hm
         rcases List.mem_cons.mp hm with q | hm
         . rw [q, hI.p] at e'; exact nS e'
         . rcases List.mem_cons.mp hm with q | hm
           . rw [q, aq.lP] at e'; exact nS e'
           . exact hn hm)
      refine wpAny_execs_cons (wpAny_Return_some (wpAny_Name (ci fe.fn v5 ?_ (by decide)) (by decide)))
      refine ⟨(nu ac vs m rfl ac5 (pP _ w4 K) w6 w5), P5, fun c o e' hn => ?_, fun c o e' => b5 c o ?_, (sm.trans (bh.of k₁)).trans (m9.trans (j2 n7 an.toks rfl))⟩
      . refine Ex (slots4 c o (aq.inP c o e') hn) fun sl q => ?_
        exact ⟨sl, k5 c _ q hn⟩
      . rw [TI.gone_get]
        . exact fe.inH c o e'
        . intro hm
          rcases List.mem_cons.mp hm with q | hm
          . rw [q, hI.k] at e'; exact nS e'
          . rcases List.mem_cons.mp hm with q | hm
            . rw [q, aq.lK] at e'; exact nS e'
            . rw [(kLs c hm).1] at e'; exact nS e'
 . exact ⟨ρ, b8 (byteArr bs), [], F, bh.refl _, by rw [Nat.sub_self]; exact hit, Nat.le_refl _, by rw [Nat.sub_self]; rfl, hy, hc, htp, by simp, ld⟩
structure rG (K : KM) (Ls : List Addr) (s : Shared) (out : List Int) (v : Value) (s' : Shared) : Prop where
 ex : ∃ K', bw K s.heap K' /\ eV K' s'.heap /\ bJ K' (.list (out.map .int)) v
 keep : ∀ c o, s.heap.get? c = some o -> c ∉ Ls -> s'.heap.get? c = some o
 slots : ∀ c o, s.heap.get? c = some o -> (∀ vs, o.data ≠ .fields vs) -> ∃ sl, s'.heap.get? c = some { o with slots := sl }
 same : bh s s'
theorem x4 {aP : Addr} {ns out : List Int} {outer : List Env} (ok : C.Ok) (B : cw C)
 (gn : aw C "next" (.builtin "next")) (gs : aw C "StopIteration" (.type "StopIteration")) (gi : aw C "iter" (.builtin "iter")) (gb : aw C "bytes" (.type "bytes")) (gp : aw C "_parse_varint" (.ref aP))
 (fp : eB C aP ["iterator"] (bd ah 20) (aQ ah 20)) (fr : eB C a ["tape"] (bd ah 81) (aQ ah 81)) (hA : dg (n + 2) A) (hfr : A.frames = some outer)
 (ho : k9 (fun a => s.heap.get? a) Ls outer) (kLs : ∀ L ∈ Ls, K L = none /\ s.heap.get? L ≠ none) (hi : eV K s.heap) (bZ : ∀ a o, C.h₀.get? a = some o -> K a = some o)
 (hv : bJ K (.list ds) v) (hn : iS ds = some ns) (hr : ∀ n ∈ ns, 0 ≤ n /\ n < 256) (hl : ds.length ≤ 9000) (ld : ej (ds.length + 1) (b8 (byteArr ns)) [] = some out) :
 wpAny C.M A (call (.ref a) [v]) (rG K Ls s out) dq s := by
 refine fq fr.ex fun o fd hoa hd i9 iQ ms hsc hgl hbl jV => ?_
 have h₀ : ∀ b o, C.h₀.get? b = some o -> s.heap.get? b = some o := fun b o e => hi _ _ (bZ b o e)
 have hki : fd.scope.kind = .function := by rw [hsc]; exact fr.kind
 have gH : (fd.scope.names.all fun p => !(p.2 == .free)) = true := by rw [hsc]; exact fr.free
 have kr : (["tape"] : List Str).all (eI bf fd.scope []) = true := by rw [hsc]; kernel_rfl
 have H6 : fd.scope.names.lookup ("tape" : Str) = some NameKind.local := by rw [hsc]; kernel_rfl
 have df : ns.length = ds.length := by
  have : ∀ (ds : List D) (ns : List Int), iS ds = some ns -> ns.length = ds.length := by
   intro ds
   induction ds with
   | nil => intro ns h; cases h; rfl
   | cons d ds ih =>
    intro ns h
    cases d <;> (first | exact dK h | simp only [iS] at h)
    (refine ax (omE h) fun bs h1 q0 => ?_; subst q0)
    simp [ih bs h1]
  exact this ds ns hn
 refine wpAny_call (codeAny_call_cells (by have := hA.2; ((with_reducible refine Om.lm ‹_› ?_); simp +arith only)) (h₀ _ _ hoa) hd (ok.nolimit.keeps h₀) (i9.keeps h₀) iQ (jV [v] rfl) ms (fun p hp => ?_) (fun s₁ X => ?_) (by rw [hsc]; exact fr.co) (by rw [hsc]; exact fr.gen) hki)
 . have hp : p = (("tape" : Str), v) := by simpa using hp
   subst hp; exact .inl H6
 . generalize hE' : callEnvC fd s.heap.objs.size a = env at X ⊢
   have hsc' : env.scope = aQ ah 81 := by rw [<- hE', <- hsc]; rfl
   have nZ : env.frame = some env.locals := by rw [<- hE']; rfl
   have aq : bG bf C (fun a => s.heap.get? a) env [] K (upd (fun _ => none) "tape" (.list ds)) s₁.heap :=
    i5 (K := K) (a := a) (xs := ["tape"]) (ds := [.list ds]) (vs := [v]) hki gH hgl hbl hi bZ (ak.one hv) rfl kr hE' X
   have hA' : dg (n + 1) (A.deeper env) := ⟨hA.1, by show A.depth + 1 + (n + 1) < _; have := hA.2; ((with_reducible refine Om.lm ‹_› ?_); simp +arith only), by show A.units + 3 + 8 * (n + 1) + 256 < _; have := hA.3; ((with_reducible refine Om.lm ‹_› ?_); simp +arith only)⟩
   have hfr' : (A.deeper env).frames = some (env :: outer) := by show A.frames.map (env :: ·) = _; rw [hfr]; rfl
   refine eh (Q := fun f s' => rH (fun a => s.heap.get? a) K Ls s out f s') ?_ fun f s' p => ?_
   . show wpAny C.M (A.deeper env) (execs (bd ah 81) env) _ dq s₁
     refine wpAny_execs_cons (eh (xJ (A := A.deeper env) (sc := aQ ah 81) ok gi gb hA.1 hsc' aq dJ hn hr (by with_reducible exact Om.eN ‹_› (OfNat.ofNat _) ‹_› rfl) (by kernel_rfl) (by kernel_rfl) (by kernel_rfl) (by kernel_rfl) (by
      cases env; cases hsc'; with_unfolding_all rfl) (by cases env; cases hsc'; with_unfolding_all rfl)) fun f an p => ?_)
     (refine wR p fun q0 I ac t bE hit hI neI m9 => ?_; clear p; subst q0)
     refine wpAny_execs_cons (eh (AS (A := A.deeper env) (n := n) (sc := aQ ah 81) (fuel := ds.length + 1) (dt := .list ds) ok gn gs gp fp hA' hfr' nZ hsc' ho kLs bE hI neI hit dJ (by rw [cO (by decide)]; exact dJ) (by rw [cO (by decide), cO (by decide)]; exact dJ)
      (dP.of (bj.cmp (ab.call ok B.len (bg.builtin _) fK (aa.cons (ab.name _ _ (by kernel_rfl) (by kernel_rfl)) aa.nil) (by kernel_rfl)) (ab.call ok B.len (bg.builtin _) fK (aa.cons (ab.name _ _ (by kernel_rfl) (by kernel_rfl)) aa.nil) (by kernel_rfl)) j7))
      (fun ρ acc hc ht hlt => ?_) (by with_reducible exact Om.qN (OfNat.ofNat _) ‹_› rfl) ld (by kernel_rfl) (by kernel_rfl) fr.kind rfl) fun f cX p => ?_)
     . have h1 : acc.length < 16777216 := by exact Om.a8 hlt hl rfl
       have h2 : ds.length < 16777216 := by with_reducible exact Om.lL (OfNat.ofNat _) ‹_› rfl
       have h3 : (acc.length : Int) ≤ (ds.length : Int) := by exact Om.a9 hlt
       simp only [hc, ht, ai, ag, cB, Option.bind_some, GD, List.length_map, if_pos h1, if_pos h2, dLe, vc, jE, decide_eq_true h3]
     . obtain ⟨e1, e2, e3, e4, e5⟩ := p
       (refine mF e1 fun ac' vs m q0 r => ?_; clear e1; subst q0)
       exact ⟨(yM ac' vs m rfl r), e2, e3, e4, bh.trans (show bh s s₁ from X.toInCall.same) (m9.trans e5)⟩
   . obtain ⟨⟨ac, vs, m, rfl, hg, hr', hP, hK⟩, e2, e3, e4, e5⟩ := p
     show rG K Ls s out (.ref ac) s'
     refine ⟨(cF (bH K ac (aT vs m)) (iV hi hP) (fun c o e => ?_) ?_), e2, e3, e5⟩
     . unfold bH at e
       split at e
       . rename_i q; subst q; (replace e := siE e; subst e); exact hg
       . exact e4 c o e
     . simp only [bJ]
       exact (fD ac vs m rfl (by unfold bH; rw [if_pos rfl]) (hr'.mono (ed hK)))
theorem bG.framed (F : bG b C P env ow K ρ h) (hk : ∀ c o, c ≠ env.locals -> h.get? c = some o -> h'.get? c = some o)
 (hn : ∀ m, h.Ns env.locals m -> h'.Ns env.locals m) (g : bw K h K') (hi : eV K' h') : bG b C P env ow K' ρ h' := by
 have old : ∀ a o, h.get? a = some o -> K a = none -> K' a = none := fun a o e n => by
  cases q : K' a with
  | none => rfl
  | some o' => rcases g.2 a o' q with r | r
               . rw [n] at r; exact nS r
               . rw [e] at r; exact sN r
 have oldL : K' env.locals = none := by
  refine hY F.fe.ns fun m o es ep e _ => ?_
  exact old _ o e F.lK
 have hc : ∀ x c, env.cells.lookup x = some c -> c ≠ env.locals := fun x c e => (F.cel x c e).1
 have hv : ∀ {y v}, dQ env h y v -> dQ env h' y v := by
  intro y v z
  cases z with
  | loc m a1 a2 a3 => exact .loc m a1 (hn _ a2) a3
  | cell c a1 a2 a3 => (refine ax a3 fun o ho hd => ?_; clear a3); exact .cell c a1 a2 (bC o (hk _ o (hc _ _ a2) ho) hd)
  | free c a1 a2 a3 => (refine ax a3 fun o ho hd => ?_; clear a3); exact .free c a1 a2 (bC o (hk _ o (hc _ _ a2) ho) hd)
 refine ⟨⟨F.fe.fn, F.fe.gl, F.fe.bl, hi, fun a o e => g.1 _ _ (F.fe.base a o e), ?_, fun x d e => ?_, fun x e => ?_, fun x c e => ?_⟩, fun a o e => hk a o (fun q => by rw [q, F.lP] at e; exact nS e) (F.inP a o e), oldL, F.lP, fun x c e => ⟨hc x c e, fun hb => ?_⟩, F.apart, F.celAll, fun p hp => ?_, F.ownApart⟩
 . refine Ex F.fe.ns fun m q => ?_; exact ⟨m, hn _ q⟩
 . refine ax (F.fe.vars x d e) fun v a1 a2 => ?_; exact (bC v (hv a1) (a2.mono g.1))
 . refine Bw (F.fe.caps x e) fun c h1 o h2 => ?_; exact (yL c h1 o (hk _ _ (hc _ _ h1) h2))
 . refine Ex (F.fe.cl x c e) fun o h2 => ?_; exact ⟨o, hk _ _ (hc _ _ e) h2⟩
 . refine yz ((F.cel x c e).2 hb) fun k p v hv => ?_
   (refine ax hv fun o ho hd => ?_; clear hv)
   exact (rD (old _ o ho k) p v (bC o (hk _ _ (hc x c e) ho) hd))
 . refine aJ (F.own p hp) fun ds vs n h1 h2 h3 h4 h5 h6 h7 h8 => ?_
   exact (bN ds vs n h1 (hv h2) (hk _ _ h7 h3) (h4.mono g.1) (old _ _ h3 h5) h6 h7 h8)
def mJ : D -> Option (List Int)
 | .list ds => (iS ds).bind fun ns => if (ns.all fun n => decide (0 ≤ n) && decide (n < 256)) = true /\ ds.length ≤ 9000 then ej (ds.length + 1) (b8 (byteArr ns)) [] else none
 | _ => none
structure jK (C : dd) (a : Addr) : Prop where
 ok : C.Ok
 B : cw C
 gn : aw C "next" (.builtin "next")
 gs : aw C "StopIteration" (.type "StopIteration")
 gi : aw C "iter" (.builtin "iter")
 gb : aw C "bytes" (.type "bytes")
 fp : ∃ aP, aw C "_parse_varint" (.ref aP) /\ eB C aP ["iterator"] (bd ah 20) (aQ ah 20)
 fr : eB C a ["tape"] (bd ah 81) (aQ ah 81)
 gr : aw C "_law_read" (.ref a)
theorem pp {d : D} {out : List Int} (R : jK C a) (hA : dg (n + 2) A) (hfr : A.frames = some [env]) (nZ : env.frame = some env.locals)
 (he : env.scope = sc) (ho : ay ow = O) (F : bG bf C P env ow K ρ s.heap) (h : aM C (n + 2) sc O e f) (hf : f ρ = some d) (hd : mJ d = some out) (hx : x = "_law_read") (hk : sc.names.lookup x = some .globalImplicit)
 (hs : autoParam (starEach [e] env = (false, eval e env) :: starEach [] env) aR) :
 wpAny C.M A (eval (.Call (.Name x p) [e] [] pos) env) (fun v s' => ∃ K', fW K P K' /\ bG bf C P env ow K' ρ s'.heap /\ bJ K' (.list (out.map .int)) v /\ bh s s') dq s := by
 subst hx
 refine ax R.fp fun aP gp fp => ?_
 refine bk R.fr.ex fun o fd hoa hda _ => ?_
 refine Call_ (bx R.ok F.fe (he ▸ hk) R.gr (by decide) ((bg.func hoa hda).step (wpAny_items_cons (wpAny_mono (h.run A env P ow K ρ s d hA he ho F hf) (fun v s₁ q => ?_) fun _ _ x => x) hs) hs rfl))
 (refine gD q fun ap av aq aB k₁ => ?_; clear q)
 refine wpAny_items_nil ⟨aq.fe.h₀, ?_⟩
 cases d <;> (first | exact dK hd | simp only [mJ] at hd)
 rename_i ds
 refine ax (obE hd) fun ns h1 hd => ?_
 split at hd
 . rename_i hc
   refine lD aq.fe.ns fun mm oL es ep hoL hdL _ => ?_
   refine wpAny_mono (x4 (n := n) (Ls := [env.locals]) R.ok R.B R.gn R.gs R.gi R.gb gp fp R.fr hA hfr (fun e' he' => ?_) (fun L hL => ?_) aq.fe.inH aq.fe.base aB h1 (fun m hm => ?_) hc.2 hd) (fun r an q => ?_) fun _ _ x => x
   . have he' : e' = env := by simpa using he'
     subst he'
     exact (ql (by rw [aq.fe.fn]; decide) e'.locals oL (by simp) nZ hoL (fun vs q => by rw [hdL] at q; cases q))
   . have hL : L = env.locals := by simpa using hL
     subst hL
     exact ⟨aq.lK, by rw [hoL]; exact Option.some_ne_none _⟩
   . have := List.all_eq_true.mp hc.1 m hm
     simpa using this
   . obtain ⟨⟨K', g', i', r'⟩, keep, slots, sm⟩ := q
     have bE := aq.framed (fun c o hc' e' => keep c o e' (by simpa using hc')) (fun m hm => by
      (refine bv hm fun o' es' ep' e1 e2 r => ?_; clear hm)
      refine Ex (slots _ _ e1 (fun vs q => by rw [e2] at q; cases q)) fun sl e' => ?_
      exact (fD _ es' ep' e' e2 r)) g' i'
     exact (jt K' ((fW.of av F.inP).trans (fW.of g' aq.inP)) bE r' ((bh.of k₁).trans sm))
 . exact nS hd
structure dy (C : dd) (n : Nat) (sc : Scope) (O O' : List Str) (st : Stmt) (g : af -> Option (Fl × af)) : Prop where
 run : ∀ (A : Around) (env : Env) (P : KM) (ow : List (Str × Addr)) (K : KM) (ρ : af) (s : Shared) (fl : Fl) (ρ' : af), dg n A -> A.frames = some [env] -> env.frame = some env.locals -> env.scope = sc -> ay ow = O -> bG bf C P env ow K ρ s.heap ->
  g ρ = some (fl, ρ') -> wpAny C.M A (exec st env) (iK C P env O' K s ρ' fl) dq s
structure bz (C : dd) (n : Nat) (sc : Scope) (O O' : List Str) (ss : List Stmt) (g : af -> Option (Fl × af)) : Prop where
 run : ∀ (A : Around) (env : Env) (P : KM) (ow : List (Str × Addr)) (K : KM) (ρ : af) (s : Shared) (fl : Fl) (ρ' : af), dg n A -> A.frames = some [env] -> env.frame = some env.locals -> env.scope = sc -> ay ow = O -> bG bf C P env ow K ρ s.heap ->
  g ρ = some (fl, ρ') -> wpAny C.M A (execs ss env) (iK C P env O' K s ρ' fl) dq s
theorem dy.of {st : Stmt} (h : au C n sc O O' st g) : dy C n sc O O' st g := ⟨fun A env P ow K ρ s fl ρ' hA _ _ he ho F hg => h.run A env P ow K ρ s fl ρ' hA he ho F hg⟩
theorem bz.of {st : List Stmt} (h : ae C n sc O O' st g) : bz C n sc O O' st g := ⟨fun A env P ow K ρ s fl ρ' hA _ _ he ho F hg => h.run A env P ow K ρ s fl ρ' hA he ho F hg⟩
theorem bz.top {st : Stmt} (h : dy C n sc O O' st g) (h' : bz C n sc O' O'' ss g') : bz C n sc O O'' (st :: ss) (fun ρ => seqT (g ρ) g') := by
 constructor
 intro A env P ow K ρ s fl ρ' hA hf hm he ho F hg
 replace hg : seqT (g ρ) g' = some (fl, ρ') := hg
 unfold seqT at hg
 split at hg
 . rename_i ρ₁ e
   refine wpAny_execs_cons (wpAny_mono (h.run A env P ow K ρ s _ _ hA hf hm he ho F e) (fun f s₁ p => ?_) fun _ _ x => x)
   obtain ⟨⟨ap, g7, gJ, av, aq, rfl⟩, dl⟩ := p
   exact wpAny_mono (h'.run A env P g7 ap ρ₁ s₁ fl ρ' hA hf hm he (gJ rfl) aq hg) (fun f an p => p.after av dl) fun _ _ x => x
 . rename_i d ρ₁ e
   (refine sP hg fun q0 q1 => ?_; clear hg; subst q0 q1)
   refine wpAny_execs_cons (wpAny_mono (h.run A env P ow K ρ s _ _ hA hf hm he ho F e) (fun f s₁ p => ?_) fun _ _ x => x)
   obtain ⟨⟨ap, g7, gJ, av, aq, v, rfl, r⟩, dl⟩ := p
   exact ⟨⟨ap, g7, fun q => (by cases q), av, aq, v, rfl, r⟩, dl⟩
 . exact nS hg
theorem dy.read (R : jK C a) (h : aM C (n + 2) sc O e f) (hy : y = "_law_read") (hk : sc.names.lookup y = some .globalImplicit) (hx : eI bf sc O x = true)
 (hs : autoParam (∀ env, starEach [e] env = (false, eval e env) :: starEach [] env) aR)
 (hsw : autoParam (∀ env, swapsWith (.Call (.Name y p) [e] [] cpos) (some (.Name x px)) pos.line env = pure false) aR) :
 dy C (n + 2) sc O O (.Assign [.Name x px] (.Call (.Name y p) [e] [] cpos) pos) (fun ρ => ((f ρ).bind mJ).bind fun out => some (.next, upd ρ x (.list (out.map .int)))) := by
 constructor
 intro A env P ow K ρ s fl ρ' hA hf hm he ho F hg
 refine ax (obE hg) fun out am hg => ?_
 refine ax (obE am) fun d am ar => ?_
 (refine sP hg fun q0 q1 => ?_; clear hg; subst q0 q1)
 subst he
 refine Ea (cq hx) fun hx1 hx2 => ?_
 refine wpAny_Assign_Name (wpAny_mono (pp R hA hf hm rfl ho F h am ar hy hk (hs env)) (fun v s₁ q => ?_) fun _ _ x => x) (hsw env)
 (refine gD q fun ap av aq aB dl => ?_; clear q)
 refine aq.store aB (by rw [ho]; exact hx1) hx2 fun h' tk F' l' _ => ?_
 exact ⟨⟨ap, ow, fun _ => ho, av, F', rfl⟩, dl.trans (j2 h' tk rfl)⟩
def ot (f1 : Option Bool) (f : Unit -> Option D) (fr : Unit -> Option D) (f3 : Unit -> Option Bool) : Option Bool :=
 f1.bind fun b1 => if b1 then some true else ((f ()).bind mJ).bind fun out => (fr ()).bind fun d => ((Dj (.list (out.map .int)) d).bind jE).bind fun b2 => if b2 then some true else f3 ()
theorem dy.ifRead {e1 arg r : Expr} {qpos bpos : Pos} {f1 f3 : af -> Option Bool} (R : jK C a)
 (h1 : dP C (n + 2) sc O e1 f1) (h : aM C (n + 2) sc O arg f) (hr : aM C (n + 2) sc O r fr) (h3 : dP C (n + 2) sc O e3 f3) (hb : ae C (n + 2) sc O O body gb) (hy : y = "_law_read") (hk : sc.names.lookup y = some .globalImplicit)
 (hs : autoParam (∀ env, starEach [arg] env = (false, eval arg env) :: starEach [] env) aR) (hm : autoParam (behindInMarks .NotEq r = false) aW) :
 dy C (n + 2) sc O O (.If (.BoolOp .Or [e1, .Compare (.Call (.Name y p) [arg] [] cpos) [.NotEq] [r] qpos, e3] bpos) body [] pos)
  (fun ρ => (ot (f1 ρ) (fun _ => f ρ) (fun _ => fr ρ) (fun _ => f3 ρ)).bind fun t => if t then gb ρ else some (.next, ρ)) := by
 constructor
 intro A env P ow K ρ s fl ρ' hA hf hmf he ho F hg
 refine ax (obE hg) fun t et hg => ?_
 unfold ot at et
 refine ax (obE et) fun b1 am et => ?_
 have fin : ∀ (ap : KM) (s₁ : Shared), fW K P ap -> bh s s₁ -> bG bf C P env ow ap ρ s₁.heap ->
  if t = true then wpAny C.M A (execs body env) (iK C P env O K s ρ' fl) dq s₁ else wpAny C.M A (execs [] env) (iK C P env O K s ρ' fl) dq s₁ := by
  intro ap s₁ gK sm aq
  cases t with
  | true =>
   simp only [if_true] at hg ⊢
   exact wpAny_mono (hb.run A env P ow ap ρ s₁ fl ρ' hA he ho aq hg) (fun f an p => p.after gK sm) fun _ _ x => x
  | false =>
   simp only [Bool.false_eq_true, if_false, Option.some.injEq, Prod.mk.injEq] at hg ⊢
   (refine Ea hg fun q0 q1 => ?_; clear hg; subst q0 q1)
   exact wpAny_execs_nil ⟨⟨ap, ow, fun _ => ho, gK, aq, rfl⟩, sm⟩
 refine wpAny_If (wpAny_isTrue_BoolOp (wpAny_allTrue_Or_cons (wpAny_mono (h1.run A env P ow K ρ s b1 hA he ho F am) (fun aB s₁ q => ?_) fun _ _ x => x)))
 (refine n4 q fun q0 aq k₁ => ?_; clear q; subst q0)
 cases aB with
 | true =>
  simp only [if_true, Option.some.injEq] at et ⊢
  subst et
  exact fin K s₁ (fW.refl _ _) (bh.of k₁) aq
 | false =>
  simp only [Bool.false_eq_true, if_false] at et ⊢
  refine ax (obE et) fun out ar et => ?_
  refine ax (obE ar) fun d ar bO => ?_
  refine ax (obE et) fun dr gz et => ?_
  refine ax (obE et) fun b2 uZ et => ?_
  refine ax (obE uZ) fun db uZ GM => ?_
  obtain rfl := nB GM
  refine wpAny_allTrue_Or_cons (wpAny_isTrue_Compare1 (wpAny_mono (pp R hA hf hmf he ho aq h ar bO hy hk (hs env)) (fun v an q => ?_) fun _ _ x => x) hm)
  (refine gD q fun cI bV bE ek m9 => ?_; clear q)
  refine wpAny_mono (hr.run A env P ow cI ρ an dr hA he ho bE gz) (fun w cX q => ?_) fun _ _ x => x
  (refine gD q fun dX dN ce mz dR => ?_; clear q)
  refine wpAny_mono (j8 A dX cX v w _ _ _ (hA.le (Nat.zero_le _)) ce.fe.inH (ek.mono dN.1) mz uZ) (fun u cU q => ?_) fun _ _ x => x
  obtain ⟨⟨n5, mr, vg, vy⟩, eY⟩ := q
  rw [dW vy]
  have gw := ce.keeps eY.get mr vg
  have gK : fW K P n5 := (bV.trans (fW.of dN bE.inP)).trans (fW.of mr ce.inP)
  have ue : bh s cU := (bh.of k₁).trans (m9.trans (bh.of (dR.trans eY)))
  refine wpAny_truthy_bool ?_
  cases b2 with
  | true =>
   simp only [if_true, Option.some.injEq] at et ⊢
   subst et
   exact fin n5 cU gK ue gw
  | false =>
   simp only [Bool.false_eq_true, if_false] at et ⊢
   refine wpAny_allTrue_Or_cons (wpAny_mono (h3.run A env P ow n5 ρ cU t hA he ho gw et) (fun I3 B8 q => ?_) fun _ _ x => x)
   (refine n4 q fun q0 jD Hf => ?_; clear q; subst q0)
   have := fin n5 B8 gK (ue.trans (bh.of Hf)) jD
   cases I3 with
   | true => simp only [if_true] at this ⊢; exact this
   | false =>
    simp only [Bool.false_eq_true, if_false] at this ⊢
    exact wpAny_allTrue_Or_nil this
theorem bz.freeze (h : bz C n sc O O' ss g) : bz C n sc (x :: O) O' ss g := by
 constructor
 intro A env P ow K ρ s fl ρ' hA hfr hfm he ho F hg
 cases ow with
 | nil => simp [ay] at ho
 | cons p ow =>
  obtain ⟨y, a⟩ := p
  simp only [ay, List.map_cons, List.cons.injEq] at ho
  obtain ⟨rfl, ho⟩ := ho
  obtain ⟨ds, vs, k, h1, h2, h3, h4, h5, h6, h7, h8⟩ := F.own (y, a) List.mem_cons_self
  have le : kJ K (bH K a (aT vs k)) := ed h5
  have F' : bG bf C P env ow (bH K a (aT vs k)) ρ s.heap := by
   refine ⟨⟨F.fe.fn, F.fe.gl, F.fe.bl, fun b o e => ?_, fun b o e => le _ _ (F.fe.base b o e), F.fe.ns, fun z d e => ?_, F.fe.caps, F.fe.cl⟩, F.inP, ?_, F.lP, fun z c e => ⟨(F.cel z c e).1, fun hb => ?_⟩, F.apart, F.celAll, fun p hp => ?_, (List.pairwise_cons.mp F.ownApart).2⟩
   . unfold bH at e
     split at e
     . rename_i q; subst q; cases e; exact h3
     . exact F.fe.inH b o e
   . by_cases hz : z = y
     . subst hz
       unfold eD at e
       split at e
       . cases e
       . rw [h1] at e; cases e
         exact (bC _ h2 (by simp only [bJ]; exact (fD a vs k rfl (by unfold bH; rw [if_pos rfl]) (h4.mono le))))
     . have e' : eD (ay ((y, a) :: ow)) ρ z = some d := by
        unfold eD ay at e ⊢
        simp only [List.map_cons, List.contains_cons]
        have hb : (z == y) = false := by simpa using hz
        rw [hb, Bool.false_or]; exact e
       obtain ⟨v, q1, q2⟩ := F.fe.vars z d e'
       exact (bC v q1 (q2.mono le))
   . unfold bH; rw [if_neg (Ne.symm h7)]; exact F.lK
   . obtain ⟨q1, q2, q3⟩ := (F.cel z c e).2 hb
     refine (h9 ?_ q2 q3)
     unfold bH; rw [if_neg (fun q => h8 z c e q.symm)]; exact q1
   . obtain ⟨ds', vs', k', q1, q2, q3, q4, q5, q6, q7, q8⟩ := F.own p (List.mem_cons_of_mem _ hp)
     refine (bN ds' vs' k' q1 q2 q3 (q4.mono le) ?_ q6 q7 q8)
     unfold bH
     rw [if_neg (fun q => (List.pairwise_cons.mp F.ownApart).1 p hp q.symm)]; exact q5
  exact wpAny_mono (h.run A env P ow _ ρ s fl ρ' hA hfr hfm he ho F' hg) (fun f an p => p.after ⟨le, fun b o e => by
   unfold bH at e
   split at e
   . rename_i q; subst q; exact .inr h6
   . exact .inl e⟩ (bh.refl _)) fun _ _ x => x
theorem ab.globVal (ok : C.Ok) (hg : aw C x v) (hk : sc.names.lookup x = some .globalImplicit) (hd : autoParam ((x == ("__debug__" : Str)) = false) aD) : ab C n sc (.Name x p) (fun _ => some (.val v)) := by
 constructor
 intro A env K ρ s d hA he F hf
 (replace hf := siE hf; subst hf)
 exact bx ok F (he ▸ hk) hg hd (.flat F.inH (by simp only [bJ]) (Kp.refl _))
noncomputable def nF : D -> Option D
 | .tup _ => some (.bool true)
 | _ => none
theorem ab.isTup (ok : C.Ok) (hg : aw C x (.builtin "isinstance")) (hg' : aw C y (.type "tuple")) (h : ab C n sc e f)
 (hk : sc.names.lookup x = some .globalImplicit) (hk' : sc.names.lookup y = some .globalImplicit)
 (h1 : autoParam (∀ env, starEach [e, .Name y q] env = (false, eval e env) :: starEach [.Name y q] env) aR) (h2 : autoParam (∀ env, starEach [.Name y q] env = (false, eval (.Name y q) env) :: starEach [] env) aR)
 (h3 : autoParam (∀ env, (backTo pos (starEach [.Name y q] env)).any (·.1) = false) aR) (hd : autoParam ((x == ("__debug__" : Str)) = false) aD) (hd' : autoParam ((y == ("__debug__" : Str)) = false) aD) :
 ab C n sc (.Call (.Name x p) [e, .Name y q] [] pos) (fun ρ => (f ρ).bind nF) := by
 constructor
 intro A env K ρ s d hA he F hf
 refine ax (obE hf) fun a am ar => ?_
 cases a <;> (first | exact dK ar | simp only [nF] at ar)
 (replace ar := siE ar; subst ar)
 refine Call_ (bx ok F (he ▸ hk) hg hd ((bg.builtin "isinstance").step ?_ (h1 env) (h3 env)))
 refine wpAny_items_cons (wpAny_mono (h.run A env K ρ s _ hA he F am) (fun v s₁ p => ?_) fun _ _ x => x) (h1 env)
 obtain ⟨⟨ap, av, aA, aB⟩, k₁⟩ := p
 have aq := F.keeps k₁.get av.1 aA
 (refine bv (gZ aB) fun a vs k q0 e r => ?_; subst q0)
 refine wpAny_items_cons (bx ok aq (he ▸ hk') hg' hd' (wpAny_items_nil ⟨aq.h₀, ?_⟩)) (h2 env)
 exact PyProof.Rows.call_isinstance_yes (Tx := "tuple") (bC _ (aA _ _ e) rfl) PySem.F.isi_meta_tuple PySem.F.isi_self_tuple (.after av k₁ (.flat aA iN (Kp.refl _)))
def zK : D -> Option D
 | .list xs => if xs.all lh = true then some (.list xs) else none
 | _ => none
theorem aM.rev {st : Expr} {fs : af -> Option (Option Int)} (hs : eA C n sc (some st) fs) (hc : (x == ("__classdict__" : Str)) = false) (hd : (x == ("__debug__" : Str)) = false) :
 aM C n sc O (.Subscript (.Name x px) (.Slice none none (some st) p) pos) (fun ρ => (ρ x).bind fun a => (fs ρ).bind fun i => if i = some (-1) then (zK a).bind sY else none) := by
 constructor
 intro A env P ow K ρ s d hA he ho F hf
 refine ax (obE hf) fun a am hf => ?_
 refine ax (obE hf) fun l ar hf => ?_
 split at hf
 . rename_i hl
   subst hl
   refine ax (obE hf) fun a' bO gz => ?_
   have Fk := F.known
   refine ax (Fk.vars x _ am) fun v hv rv => ?_
   cases a <;> (first | exact dK bO | simp only [zK] at bO)
   rename_i xs
   split at bO
   . rename_i M3
     (replace bO := siE bO; subst bO)
     simp only [sY] at gz
     split at gz
     . rename_i df
       (replace gz := siE gz; subst gz)
       (refine bv (bu rv) fun al vs k q0 e r => ?_; subst q0)
       refine Subscript_ (wpAny_Name (ci F.fe.fn hv ?_ hc) hd)
       refine wpAny_Slice ?_
       rw [evalPart_none]
       refine wpAny_pure (wpAny_pure (wpAny_mono (hs.run A env _ ρ s _ hA he Fk ar) (fun vl an ii => ?_) fun _ _ x => x))
       (refine Ea ii fun q0 b7 => ?_; clear ii; obtain ⟨tl, rfl⟩ := q0)
       have bE := F.keeps b7.get (bw.refl _ _) fun a o e => b7.get _ _ (F.fe.inH a o e)
       have Ac : an.heap.get? al = some (aT vs k) := b7.get _ _ (Fk.inH _ _ e)
       have push : ∀ o' b o, an.heap.get? b = some o -> (an.heap.push o').get? b = some o := fun _ _ _ e => Heap.get?_push_of_some _ e
       have hL : (an.heap.push { cls := .type "slice", data := .fields #[Value.none, Value.none, partValue ((some (-1 : Int)).map fun i => (i, tl))] }).IsList al vs.toArray := (kH _ (push _ _ _ Ac) rfl k rfl)
       have hvl := r.length
       refine tail_any (ops := [.ref al, .ref an.heap.objs.size]) hL.typeIs slot_list_getitem.lookup (wpAny_getItem_list_slice hL (Heap.IsSliceOf.new ..) .none .none (ku (some (-1)) tl) (by simp) ?_
        (by rw [aO]; simp only [List.size_toArray]; with_reducible exact Om.eN ‹_› (OfNat.ofNat _) ‹_› rfl)) rfl
       rw [u6]
       have ce := bE.keeps (push { cls := .type "slice", data := .fields #[Value.none, Value.none, partValue ((some (-1 : Int)).map fun i => (i, tl))] }) (bw.refl _ _) fun a o e => push _ _ _ (bE.fe.inH a o e)
       have hr : ak K _ _ := (hV M3 r).reverse
       obtain ⟨⟨dX, dN, jW, mz⟩, dR⟩ := dH (s := { an with heap := an.heap.push { cls := .type "slice", data := .fields #[Value.none, Value.none, partValue ((some (-1 : Int)).map fun i => (i, tl))] } }) (tk := an.toks) ce.fe.inH hr
       have kk : Kp s { an with heap := an.heap.push { cls := .type "slice", data := .fields #[Value.none, Value.none, partValue ((some (-1 : Int)).map fun i => (i, tl))] } } := b7.trans (Kp.push _ _)
       exact (jt dX (bw.trans (bw.refl _ _) kk.get dN) (ce.keeps dR.get dN jW) mz (kk.trans dR))
     . exact nS gz
   . exact nS bO
 . exact nS hf
theorem uY (vs : List Value) (v : Value) (k : Nat) : Obj.mapSeq (fun xs => xs.eraseIdxIfInBounds ((vs ++ [v]).toArray.size - 1)) (aT (vs ++ [v]) k) = aT vs (k + 1) := by
 have e := PyProof.Rows.Copied.mapSeq_pop (vs ++ [v]).toArray k (by simp) none #[]
 have e2 : (vs ++ [v]).toArray.pop = vs.toArray := by simp
 rw [e2] at e
 exact e
theorem xK {d : D} {vs : List Value} (r : ak K (ds ++ [d]) vs) : ∃ us v, vs = us ++ [v] /\ ak K ds us /\ bJ K d v := by
 induction ds generalizing vs with
 | nil =>
  (refine ax (fT r) fun v q0 rv => ?_; subst q0)
  exact (d8 ([]) v rfl (by simp only [ak]) rv)
 | cons x ds ih =>
  simp only [List.cons_append, ak] at r
  (refine bk r fun w rest q0 rw' rr => ?_; clear r; subst q0)
  (refine bk (ih rr) fun us v q0 h1 h2 => ?_; subst q0)
  exact (d8 (w :: us) v rfl (by simp only [ak]; exact (d8 w us rfl rw' h1)) h2)
theorem wt {A : Around} {d : D} {Q : Value -> Shared -> Prop} (he : env.scope = sc) (ho : ay ow = O) (F : bG bf C P env ow K ρ s.heap)
 (am : yT (ρ x) = some (ds ++ [d])) (hl : ds.length < 10000) (hx : O.contains x = true) (hnd : O.Nodup) (hc : (x == ("__classdict__" : Str)) = false) (hd : (x == ("__debug__" : Str)) = false)
 (bZ : attributeBase (.Name x px) "pop" env (eval (.Name x px) env) = eval (.Name x px) env) (ia : (apos.endLine == pos.line) = true)
 (hQ : ∀ v h', bG bf C P env ow K (upd ρ x (.list ds)) h' -> bJ K d v -> Q v { s with heap := h' }) :
 wpAny C.M A (eval (.Call (.Attribute (.Name x px) "pop" apos) [] [] pos) env) Q dq s := by
 have hm : x ∈ ay ow := by rw [ho]; simpa using hx
 (refine ax (List.mem_map.mp hm) fun p hp q0 => ?_; subst q0)
 refine aJ (F.own p hp) fun ds' vs k h1 h2 h3 h4 h5 h6 h7 h8 => ?_
 rw [jN am] at h1; cases h1
 (refine bk (xK h4) fun us v q0 r1 r2 => ?_; subst q0)
 refine wpAny_Call_method bZ rfl ia PySem.F.plainAttrs_list PySem.F.slot_list_pop PySem.F.type_list_pop (wpAny_Name (ci F.fe.fn h2 (h9 (bC _ h3 rfl) (fun a e => by cases e; exact (bC _ h3 rfl)) ?_) hc) hd)
 have df := r1.length
 refine PySem.P.pop_list (items := (us ++ [v]).toArray) (n := k) (y := v) h3 (by simp) ?_ (by simp only [List.size_toArray, List.length_append, List.length_singleton]; rw [aO]; exact Om.a4 df hl rfl)
 refine hQ v _ (F.ownSet hp (by rw [ho]; exact hnd) (vs' := us) (k' := k + 1) ?_ (Heap.SameBut.update ..) r1) r2
 have := uY us v k
 rw [Heap.get?_update_self _ h3 (by rw [this]; rfl), this]
theorem wO (ρ : af) (x : Str) (d e : D) : upd (upd ρ x d) x e = upd ρ x e := by
 funext y; unfold upd; split <;> rfl
noncomputable def lZ (ds : List D) : Option (List D × D × D) := match ds.reverse with
 | a :: b :: r => some (r.reverse, b, a)
 | _ => none
theorem r5 {r : List D} {a b : D} (h : lZ ds = some (r, b, a)) : ds = (r ++ [b]) ++ [a] := by
 unfold lZ at h
 split at h
 . rename_i a' b' r' e
   cases h
   have := congrArg List.reverse e
   simpa using this
 . exact nS h
theorem au.appendPop {fpos px1 apos1 pos1 px2 apos2 pos2 : Pos} {elt : Expr} {fn : Value} {G : List D -> Option D} (ok : C.Ok) (hg : aw C y fn) (hw : bg C fn) (LX : ga C n fn G) (hky : sc.names.lookup y = some .globalImplicit)
 (h : aM C n sc O elt f) (hx : O.contains x = true) (hnd : O.Nodup) (hc : (x == ("__classdict__" : Str)) = false) (hd : (x == ("__debug__" : Str)) = false) (hdy : (y == ("__debug__" : Str)) = false)
 (bZ : autoParam (∀ env, attributeBase (.Name x px) "append" env (eval (.Name x px) env) = eval (.Name x px) env) aR)
 (hb1 : autoParam (∀ env, attributeBase (.Name x px1) "pop" env (eval (.Name x px1) env) = eval (.Name x px1) env) aR)
 (hb2 : autoParam (∀ env, attributeBase (.Name x px2) "pop" env (eval (.Name x px2) env) = eval (.Name x px2) env) aR)
 (GZ : autoParam (∀ env, ((backTo cpos (starEach [.Call (.Name y py) [elt, .Call (.Attribute (.Name x px1) "pop" apos1) [] [] pos1, .Call (.Attribute (.Name x px2) "pop" apos2) [] [] pos2] [] fpos] env)).all (fun x => !x.1) && (backToKw cpos (keywordEach [] env)).all (fun x => x.1.isSome)
  && decide (([.Call (.Name y py) [elt, .Call (.Attribute (.Name x px1) "pop" apos1) [] [] pos1, .Call (.Attribute (.Name x px2) "pop" apos2) [] [] pos2] [] fpos] : List Expr).length + ([] : List Keyword).length + (if ([] : List Keyword).isEmpty then 0 else 1) < 30)) = true) aR)
 (ia : autoParam ((apos.endLine == cpos.line) = true) aR) (hl1 : autoParam ((apos1.endLine == pos1.line) = true) aR) (hl2 : autoParam ((apos2.endLine == pos2.line) = true) aR)
 (v8 : autoParam (∀ env, backTo cpos (starEach [.Call (.Name y py) [elt, .Call (.Attribute (.Name x px1) "pop" apos1) [] [] pos1, .Call (.Attribute (.Name x px2) "pop" apos2) [] [] pos2] [] fpos] env) = [(false, eval (.Call (.Name y py) [elt, .Call (.Attribute (.Name x px1) "pop" apos1) [] [] pos1, .Call (.Attribute (.Name x px2) "pop" apos2) [] [] pos2] [] fpos) env)]) aR)
 (h1 : autoParam (∀ env, starEach [elt, .Call (.Attribute (.Name x px1) "pop" apos1) [] [] pos1, .Call (.Attribute (.Name x px2) "pop" apos2) [] [] pos2] env = (false, eval elt env) :: starEach [.Call (.Attribute (.Name x px1) "pop" apos1) [] [] pos1, .Call (.Attribute (.Name x px2) "pop" apos2) [] [] pos2] env) aR)
 (h3 : autoParam (∀ env, (backTo fpos (starEach [.Call (.Attribute (.Name x px1) "pop" apos1) [] [] pos1, .Call (.Attribute (.Name x px2) "pop" apos2) [] [] pos2] env)).any (·.1) = false) aR)
 (hsw : autoParam (∀ env, swapsWith (.Call (.Attribute (.Name x px) "append" apos) [.Call (.Name y py) [elt, .Call (.Attribute (.Name x px1) "pop" apos1) [] [] pos1, .Call (.Attribute (.Name x px2) "pop" apos2) [] [] pos2] [] fpos] [] cpos) none pos.line env = pure false) aR) (hki : autoParam (sc.kind = .function) aR) :
 au C n sc O O (.Expr (.Call (.Attribute (.Name x px) "append" apos) [.Call (.Name y py) [elt, .Call (.Attribute (.Name x px1) "pop" apos1) [] [] pos1, .Call (.Attribute (.Name x px2) "pop" apos2) [] [] pos2] [] fpos] [] cpos) pos)
  (fun ρ => (yT (ρ x)).bind fun ds => (lZ ds).bind fun p => (f ρ).bind fun c => (G [c, p.2.2, p.2.1]).bind fun d => if ds.length < 10000 then some (.next, upd ρ x (.list (p.1 ++ [d]))) else none) := by
 constructor
 intro A env P ow K ρ s fl ρ' hA he ho F hg'
 refine ax (obE hg') fun ds am hg' => ?_
 (refine ax (obE hg') fun q0 ar hg' => ?_; obtain ⟨r, b, a⟩ := q0)
 refine ax (obE hg') fun c bO hg' => ?_
 refine ax (obE hg') fun d gz hg' => ?_
 split at hg'
 . rename_i hl
   (refine sP hg' fun q0 q1 => ?_; clear hg'; subst q0 q1)
   have uZ := r5 ar
   subst uZ
   simp only [List.length_append, List.length_singleton] at hl
   have hm : x ∈ ay ow := by rw [ho]; simpa using hx
   (refine ax (List.mem_map.mp hm) fun p hp q0 => ?_; subst q0)
   refine aJ (F.own p hp) fun ds' vs k q1 q2 q3 q4 q5 q6 q7 q8 => ?_
   refine wpAny_Expr_any (wpAny_Call_append (bZ env) (GZ env) ia (v8 env) (wpAny_Name (ci F.fe.fn q2 (d8 p.2 vs.toArray rfl (eR _ k q3 rfl rfl rfl) ?_) hc) hd)) (by unfold interactive; rw [he, hki]; rfl) (hsw env)
   refine Call_ (bx ok F.fe (he ▸ hky) hg hdy (hw.step (wpAny_items_cons (wpAny_mono (h.run A env P ow K ρ s c hA he ho F bO) (fun v s₁ q => ?_) fun _ _ x => x) (h1 env)) (h1 env) (h3 env)))
   (refine gD q fun ap av aq aB k₁ => ?_; clear q)
   refine wpAny_items_cons (wt (sc := sc) he ho aq am (by simp; ((with_reducible refine Om.lm ‹_› ?_); simp +arith only)) hx hnd hc hd (hb1 env) hl1 fun va ca bE ra => ?_) rfl
   refine wpAny_items_cons (wt (sc := sc) (s := { s₁ with heap := ca }) he ho bE (ds := r) (d := b) (by unfold upd; rw [if_pos rfl]; rfl) (by ((with_reducible refine Om.lm ‹_› ?_); simp +arith only)) hx hnd hc hd (hb2 env) hl2 fun vb dU ce rb => ?_) rfl
   refine wpAny_items_nil ⟨ce.fe.h₀, ?_⟩
   refine wpAny_mono (LX A ap { s₁ with heap := dU } [c, a, b] [v, va, vb] d hA ce.fe.inH ce.fe.base (by simp only [ak]; exact ⟨v, [va, vb], rfl, aB, va, [vb], rfl, ra, vb, [], rfl, rb, rfl⟩) gz) (fun w cU q => ?_) fun _ _ x => x
   obtain ⟨⟨n5, mr, vg, vy⟩, eY⟩ := q
   have gw := ce.keeps eY.get mr vg
   refine aJ (gw.own p hp) fun t7 n3 Dx z1 z2 z3 z4 z5 z6 z7 z8 => ?_
   have : t7 = r := by unfold upd at z1; rw [if_pos rfl] at z1; cases z1; rfl
   subst this
   refine wpAny_list_append_plain (items := n3.toArray) ⟨_, z3⟩ (fun h' hl' hs' => ?_) (by have := z4.length; simp only [List.size_toArray]; rw [aO]; exact Nat.le_of_lt (Om.a4 this (Nat.lt_of_succ_lt (Nat.lt_of_succ_lt hl)) rfl))
   (refine Ex hl' fun m' GM => ?_; clear hl')
   have jD := gw.ownSet hp (by rw [ho]; exact hnd) (vs' := n3 ++ [w]) (k' := m') (by rw [GM]; simp [aT]) hs' (z4.append (ak.one vy))
   rw [wO, wO] at jD
   exact ⟨⟨n5, ow, fun _ => ho, (fW.of av F.inP).trans (fW.of mr ce.inP), jD, rfl⟩, ((bh.of k₁).trans (j2 dU s₁.toks rfl)).trans ((bh.of eY).trans (j2 h' cU.toks rfl))⟩
 . exact nS hg'
end
section
open PySem PySem.Calls PyProof.Rows
noncomputable abbrev lq (hs : Int) (name : Str) (t : Tok) (v : Value) : Obj := { cls := .type "dict", data := .dict #[⟨hs, .str name t, v⟩] 1 }
section
variable {M : Model}
open Sem in
theorem xy {name : Str} {v : Value} {Q : Unit -> Shared -> Prop} (ho : s.heap.get? a = some { cls := .type "dict", data := .dict #[] })
 (h : ∀ hs t h', h'.get? a = some (lq hs name t v) -> Heap.SameBut a s.heap h' -> Q () { s with heap := h', toks := s.toks + 1 }) : wpAny M A (nsSet a name v) Q E s := by
 intro Γ p _
 simp only [nsSet, strHash, wp_bind', wp_cmd_ask, wp_pure', wp_cmd_mkText]
 rw [wp_loadPart_of M Γ _ p { s with toks := s.toks + 1 } (o := { cls := .type "dict", data := .dict #[] }) _ ho]
 simp only [aRefKeyMayBeTheName_eq, aRefKeyMayBeTheNameByArray, List.any_toArray, List.any_nil, Bool.and_false, Bool.false_eq_true, if_false, wp_cmd_updatePart]
 have e : ∀ (hs : Int) (t : Tok), Obj.putName name hs (.str name t) v { cls := .type "dict", data := .dict #[] } = lq hs name t v := fun hs t => by
  rw [Obj.putName_eq]
  simp [Obj.putNameByArray]
 exact ⟨by rw [ho]; rfl, h (if name.cps.isEmpty = true then 0 else reduceHash (M.w.params.strHash name.cps)) s.toks _ ((Heap.get?_update_self _ ho (by rw [e]; rfl)).trans (congrArg some (e _ _))) (Heap.SameBut.update ..)⟩
end
end
section
open PySem PySem.Calls PyProof.Rows
section
variable {M : Model}
end
noncomputable def Ap (x y z : Str) (u v : Value) (k : Str) (w : Value) : Sem (List (Str × Value)) := do
 let mut binds := [(x, u), (y, v)]
 let d <- alloc { cls := .type "dict", data := .dict #[] }
 for (k, v) in [(k, w)] do nsSet d k v
 binds := binds ++ [(z, .ref d)]
 return binds
theorem Bp {M : Model} {A : Around} {α : Type} {t t' : Sem α} {Q : α -> Shared -> Prop} {E : Value -> Shared -> Prop} {s : Shared} (e : t = t') (h : wpAny M A t' Q E s) : wpAny M A t Q E s := e ▸ h
section
variable {M : Model}
theorem BD {k : Str} {w : Value} {Q : List (Str × Value) -> Shared -> Prop} (hb : bindArgs fd ⟨[u, v], [(k, w)]⟩ = Ap x y z u v k w)
 (h : ∀ hs t h', h'.get? s.heap.objs.size = some (lq hs k t w) -> (∀ b o, s.heap.get? b = some o -> h'.get? b = some o) -> Q [(x, u), (y, v), (z, .ref s.heap.objs.size)] { s with heap := h', toks := s.toks + 1 }) :
 wpAny M A (bindArgs fd ⟨[u, v], [(k, w)]⟩) Q E s := by
 refine Bp hb (wpAny_bind (wpAny_alloc (wpAny_bind (Bp (List.forIn_cons ..) (wpAny_bind (wpAny_bind (xy (Heap.get?_push_size _ rfl) fun hs t h' e1 e2 => wpAny_pure ?_)))))))
 refine wpAny_pure (wpAny_pure (h hs t h' e1 fun b o e => (e2.2 b ?_).trans (Heap.get?_push_of_some _ e)))
 exact Nat.ne_of_lt (Heap.lt_size e)
end
end
section
open PySem PySem.Calls PyProof.Rows
section
variable {M : Model}
theorem An {f : Value} {k : Str} {t : Tok} {w : Value} {Q : List (Str × Value) -> Shared -> Prop} (ho : s.heap.get? a = some (lq hs k t w)) (h : Q [(k, w)] s) : wpAny M A (keywordsIn f a) Q E s := by
 unfold keywordsIn
 refine wpAny_bind (wpAny_dictEntries ho rfl ?_)
 exact Bp (t' := pure [(k, w)]) (by kernel_rfl) (wpAny_pure h)
end
end
section
open PySem PySem.Calls PyProof.Rows
section
variable {M : Model}
theorem nL {d : Addr} {hs : Int} {k : Str} {t : Tok} {Q : Option Nat -> Shared -> Prop} (ho : s.heap.get? d = some { cls := .type "dict", data := .dict #[] }) (h : Q none s) : wpAny M A (dictFind d (.str k t) hs) Q E s := by
 unfold dictFind
 refine wpAny_holding (wpAny_bind (wpAny_dictEntries ho rfl ?_))
 dsimp only
 rw [if_pos (by simp)]
 have e : Array.findIdx? (fun x : DictEntry => x.key.isStr k) #[] = none := by simp
 unfold foundByValue
 rw [e]
 exact wpAny_pure h
theorem xE {d : Addr} {hs : Int} {k : Str} {t : Tok} {w : Value} {Q : Unit -> Shared -> Prop} (ho : s.heap.get? d = some { cls := .type "dict", data := .dict #[] })
 (h : ∀ h', h'.get? d = some (lq hs k t w) -> Heap.SameBut d s.heap h' -> Q () { s with heap := h' }) : wpAny M A (dictPut d hs (.str k t) w) Q E s := by
 unfold dictPut
 refine wpAny_bind (nL ho ?_)
 refine wpAny_updateDictKeysTo ho rfl (h _ ?_ (Heap.SameBut.update ..)) (by rw [aO]; simp)
 exact Heap.get?_update_self _ ho rfl
end
end
section
open PySem PySem.Calls PyProof.Rows
section
variable {M : Model}
theorem xw {d : Addr} {k : Str} {t : Tok} {w : Value} {Q : Unit -> Shared -> Prop} (ha : s.heap.get? a = some (lq hs k t w)) (hd : s.heap.get? d = some { cls := .type "dict", data := .dict #[] }) (hne : a ≠ sysModules) (had : a ≠ d)
 (h : ∀ h', h'.get? d = some (lq hs k t w) -> Heap.SameBut d s.heap h' -> Q () { s with heap := h' }) : wpAny M A (mergeMapping d (.ref a) true) Q E s := by
 have hT : s.TypeIs (.ref a) "dict" := (bC _ ha rfl)
 unfold mergeMapping
 refine wpAny_bind (wpAny_isInstance hT PySem.F.sub_dict_dict ?_)
 dsimp only
 rw [if_pos rfl]
 refine wpAny_bind (wpAny_specialOf hT PySem.F.slot_dict_iter.lookup ?_)
 refine wpAny_bind (wpAny_pure ?_)
 simp only [beq_self_eq_true]
 rw [if_neg (by simpa using hne)]
 refine wpAny_bind (wpAny_dictEntries hd rfl ?_)
 rw [if_pos (by rfl)]
 refine wpAny_bind (wpAny_dictEntries ha rfl ?_)
 simp only [List.forIn_toArray, List.forIn_cons, List.forIn_nil, pure_bind]
 refine wpAny_bind (wpAny_dictEntries ha rfl ?_)
 refine wpAny_bind (wpAny_dictEpoch ha rfl ?_)
 have e1 : List.range (#[(⟨hs, .str k t, w⟩ : DictEntry)]).size = [0] := rfl
 rw [e1]
 simp only [List.forIn_cons, List.forIn_nil, bind_assoc]
 refine wpAny_bind (wpAny_dictEntries ha rfl ?_)
 have e2 : (#[(⟨hs, .str k t, w⟩ : DictEntry)])[0]? = some ⟨hs, .str k t, w⟩ := rfl
 rw [e2]
 dsimp only
 refine wpAny_bind (wpAny_bind (wpAny_holding ?_))
 rw [if_pos trivial]
 refine wpAny_bind (nL hd ?_)
 rw [if_neg (by simp)]
 refine xE hd fun h' k1 k2 => ?_
 have ha' : h'.get? a = some (lq hs k t w) := (k2.2 a had).trans ha
 refine wpAny_bind (wpAny_dictEpoch (s := { s with heap := h' }) ha' rfl ?_)
 rw [if_neg (by simp)]
 exact wpAny_pure (wpAny_pure (h h' k1 k2))
end
end
section
open PySem PySem.Calls PyProof.Rows
section
variable {M : Model}
theorem oO {f : Value} {x m : Sem Value} {Q : Args -> Shared -> Prop}
 (h : wpAny M A (spliced [(false, x)]) (fun vs s₁ => wpAny M A m (fun v an => ∃ a hs k t w, v = .ref a /\ an.heap.get? a = some (lq hs k t w) /\ a ≠ sysModules /\ a ≠ s₁.heap.objs.size /\
  an.heap.get? s₁.heap.objs.size = some { cls := .type "dict", data := .dict #[] } /\ ∀ h', Heap.SameBut s₁.heap.objs.size an.heap h' -> Q ⟨vs, [(k, w)]⟩ { an with heap := h' }) E { s₁ with heap := s₁.heap.push { cls := .type "dict", data := .dict #[] } }) E s) :
 wpAny M A (evalArgs f true [(false, x)] [(none, m)]) Q E s := by
 unfold evalArgs
 show wpAny M A (spliced [(false, x)] >>= _) Q E s
 refine wpAny_bind (wpAny_mono h (fun vs s₁ cR => ?_) fun _ _ x => x)
 refine wpAny_bind (wpAny_pure ?_)
 refine wpAny_holding ?_
 rw [if_neg (by simp)]
 refine wpAny_bind (m := mergedKeywords f [(none, m)]) ?_
 unfold mergedKeywords
 refine wpAny_bind (wpAny_alloc ?_)
 refine wpAny_bind (wpAny_holding ?_)
 refine wpAny_bind ?_
 rw [List.forIn_cons]
 refine wpAny_bind ?_
 refine wpAny_bind ?_
 refine wpAny_ite ?_
 refine (if_pos (show ([] : List (Str × Sem Value)).isEmpty = true from rfl)).mpr ?_
 refine wpAny_pure ?_
 refine wpAny_bind (wpAny_mono cR (fun v an ca => ?_) fun _ _ x => x)
 (refine rC ca fun a hs k t w q0 ha hne had hd hQ => ?_; clear ca; subst q0)
 refine wpAny_bind (wpAny_onRaise (wpAny_holding (wpAny_tryCatch (wpAny_onRaise (xw ha hd hne had fun h' k1 k2 => ?_)))))
 refine wpAny_pure (wpAny_pure ?_)
 refine wpAny_bind (wpAny_pure ?_)
 refine wpAny_pure (wpAny_pure ?_)
 refine wpAny_bind (wpAny_pure ?_)
 refine wpAny_bind (wpAny_holding (An (s := { an with heap := h' }) k1 ?_))
 exact wpAny_pure (hQ h' k2)
end
theorem yZ {vs us : List Value} {kw : List (Str × Value)} {d : D} (ok : C.Ok) (hA : dg (n + 1) A)
 (ho : s.heap.get? a = some o) (hd : o.data = .func fd) (i9 : s.heap.CodeRec fd.code fd.qualname) (iQ : fd.body = .expr e) (ms : fd.closure = []) (hsc : fd.scope = sc) (hgl : fd.globals = mainGlobals) (hbl : fd.builtins = builtinsNs)
 (jV : bindArgs fd ⟨us, kw⟩ = pure (xs.zip vs)) (kind : sc.kind = .function) (co : sc.isCoroutine = false) (gen : sc.isGenerator = false) (free : (sc.names.all fun p => !(p.2 == .free)) = true)
 (kr : xs.all (eI bf sc []) = true) (hi : eV K s.heap) (bZ : ∀ a o, C.h₀.get? a = some o -> K a = some o) (hr : ak K ds vs) (am : dI (fun _ => none) xs ds = some ρ)
 (hb : ab C n sc e f) (ar : f ρ = some d) : wpAny C.M A (call (.ref a) us kw) (dS K s d) dq s := by
 subst hsc
 have h₀ : ∀ b o, C.h₀.get? b = some o -> s.heap.get? b = some o := fun b o e => hi _ _ (bZ b o e)
 have hkd : ∀ x ∈ xs, fd.scope.names.lookup x = some .local \/ fd.scope.names.lookup x = some .cell := fun x hx => by
  have := List.all_eq_true.mp kr x hx
  unfold eI at this
  simp only [Bool.and_eq_true, Bool.or_eq_true, beq_iff_eq] at this
  rcases this.2 with h | h
  . exact .inl h
  . exact .inr h.2
 have jk : ∀ x, fd.scope.names.lookup x = some .cell -> ((cellsFrom (s.heap.objs.size + 1) fd.scope.names []).lookup x).isSome = true := fun x hx => by
  refine Ex (d9 (n := s.heap.objs.size + 1) (mem_of_lookup hx)) fun c hc => ?_
  refine Ex (da hc) fun c' hc' => ?_
  rw [hc']; rfl
 refine wpAny_call (PySem.W.kla_callFunE (by have := hA.2; ((with_reducible refine Om.lm ‹_› ?_); simp +arith only)) ho hd co gen iQ i9 ?_)
 rw [jV, ms]
 refine wpAny_pure (wpAny_newFunctionEnv_cells kind (fun p hp => ?_) fun env he s₁ X => ?_)
 . have : p.1 ∈ xs := (List.of_mem_zip (show (p.1, p.2) ∈ xs.zip vs from hp)).1
   rcases hkd _ this with h | h
   . exact .inl h
   . exact .inr ⟨h, jk _ h⟩
 . subst he
   refine ⟨(ok.nolimit.keeps h₀).keeps X.toInCall.keep, PySem.W.kla_codeExpr ?_⟩
   have F := i5 (C := C) (K := K) (a := a) kind free hgl hbl hi bZ hr am kr rfl X
   have Fe := F.fe
   rw [show ay ([] : List (Str × Addr)) = [] from rfl, bb] at Fe
   refine eh (hb.run (A.deeper _) _ K ρ s₁ d ⟨hA.1, by show A.depth + 1 + n < _; have := hA.2; ((with_reducible refine Om.lm ‹_› ?_); simp +arith only), by show A.units + 3 + 8 * n + 256 < _; have := hA.3; ((with_reducible refine Om.lm ‹_› ?_); simp +arith only)⟩ rfl Fe ar) fun v an p => ?_
   obtain ⟨⟨K', g', i', r'⟩, k'⟩ := p
   (refine Br X.toInCall.same fun cR kG q0 => ?_; subst q0)
   refine ⟨⟨K', ⟨g'.1, fun a o e => (g'.2 a o e).elim .inl fun q => .inr (fN X.toInCall.keep q)⟩, i', r'⟩, ?_⟩
   exact Kp.trans ⟨_, _, rfl, X.toInCall.keep⟩ k'
theorem x5 {g i : Str} {pg pi px kp pos : Pos} {b : Addr} {k : Str} {t : Tok} {w : Value} {Q : Value -> Shared -> Prop}
 (F : bG bf C P env ow K ρ s.heap) (hg : dQ env s.heap g (.ref a)) (ho : K a = some o) (hd : o.data = .func fd) (hi : dQ env s.heap i u) (hx : dQ env s.heap x (.ref b)) (hb : K b = some (lq hs k t w)) (hne : b ≠ sysModules)
 (hcg : (g == ("__classdict__" : Str)) = false) (hdg : (g == ("__debug__" : Str)) = false) (hci : (i == ("__classdict__" : Str)) = false) (hdi : (i == ("__debug__" : Str)) = false) (hcx : (x == ("__classdict__" : Str)) = false) (hdx : (x == ("__debug__" : Str)) = false)
 (hQ : ∀ h', (∀ b o, s.heap.get? b = some o -> h'.get? b = some o) -> wpAny C.M A (call (.ref a) [u] [(k, w)]) Q E { s with heap := h' }) :
 wpAny C.M A (eval (.Call (.Name g pg) [.Name i pi] [⟨none, .Name x px, kp⟩] pos) env) Q E s := by
 have he : eval (.Call (.Name g pg) [.Name i pi] [⟨none, .Name x px, kp⟩] pos) env = (do callWith pos (<- eval (.Name g pg) env) [] (backTo pos (starEach [.Name i pi] env)) (backToKw pos (keywordEach [⟨none, .Name x px, kp⟩] env))) := by rfl
 rw [he]
 refine wpAny_bind (wpAny_Name (ci F.fe.fn hg ?_ hcg) hdg)
 have hoa := F.fe.inH _ _ ho
 have hob := F.fe.inH _ _ hb
 refine callWith_function_kw (o := o) (fd := fd) (oO ?_)
 refine wpAny_items_cons (wpAny_Name (ci F.fe.fn hi (wpAny_items_nil ?_) hci) hdi) rfl
 refine wpAny_bind (wpAny_Name ?_ hdx)
 have push : ∀ c o', s.heap.get? c = some o' -> (s.heap.push { cls := .type "dict", data := .dict #[] }).get? c = some o' := fun _ _ e => Heap.get?_push_of_some _ e
 refine ci (s := { s with heap := s.heap.push { cls := .type "dict", data := .dict #[] } }) F.fe.fn (hx.keeps push) ?_ hcx
 refine wpAny_bind (wpAny_standAt (wpAny_pure ?_))
 have hlt := Heap.lt_size hob
 refine ⟨b, hs, k, t, w, rfl, push _ _ hob, hne, Nat.ne_of_lt hlt, Heap.get?_push_size _ rfl, fun h' k' => ⟨⟨?_, hd⟩, ?_⟩⟩
 . exact (k'.2 _ (Nat.ne_of_lt (Heap.lt_size hoa))).trans (push _ _ hoa)
 . exact hQ h' fun c o' e => (k'.2 _ (Nat.ne_of_lt (Heap.lt_size e))).trans (push _ _ e)
structure yG (C : dd) (a : Addr) (x y z k : Str) (body : List Stmt) (sc : Scope) : Prop where
 ex : ∃ o fd, C.h₀.get? a = some o /\ o.data = .func fd /\ C.h₀.CodeRec fd.code fd.qualname /\ fd.body = .stmts body /\ fd.closure = [] /\ fd.scope = sc /\ fd.globals = mainGlobals /\ fd.builtins = builtinsNs /\
  ∀ u v w, bindArgs fd ⟨[u, v], [(k, w)]⟩ = Ap x y z u v k w
 kind : sc.kind = .function
 co : sc.isCoroutine = false
 gen : sc.isGenerator = false
 free : (sc.names.all fun p => !(p.2 == .free)) = true
noncomputable def xC (k : Str) (w : Value) : D := .opq fun K v => ∃ a hs t, v = .ref a /\ K a = some (lq hs k t w) /\ a ≠ sysModules
theorem vU {k : Str} {w : Value} {du dv d : D} (ok : C.Ok) (fa : yG C a x y z k body sc) (hA : dg (n + 1) A) (hi : eV K s.heap) (bZ : ∀ a o, C.h₀.get? a = some o -> K a = some o)
 (hu : bJ K du u) (hv : bJ K dv v) (kr : [x, y, z].all (eI bf sc []) = true)
 (am : dI (fun _ => none) [x, y, z] [du, dv, xC k w] = some ρ)
 (h : ∀ (env : Env) (ap : KM) (s₁ : Shared), dg n (A.deeper env) -> env.scope = sc -> (∀ b o, s.heap.get? b = some o -> s₁.heap.get? b = some o) -> bw K s.heap ap -> bG bf C (fun a => s.heap.get? a) env [] ap ρ s₁.heap ->
  wpAny C.M (A.deeper env) (execs body env) (fun f s' => ∃ K' v, f = .ret v /\ bw K s.heap K' /\ eV K' s'.heap /\ bJ K' d v /\ (∀ b o, s.heap.get? b = some o -> s'.heap.get? b = some o) /\ bh s₁ s') dq s₁) :
 wpAny C.M A (call (.ref a) [u, v] [(k, w)]) (dS K s d) dq s := by
 (refine fq fa.ex fun o fd ho hd i9 iQ ms q0 hgl hbl hb => ?_; subst q0)
 have h₀ : ∀ b o, C.h₀.get? b = some o -> s.heap.get? b = some o := fun b o e => hi _ _ (bZ b o e)
 have hkd : ∀ x' ∈ [x, y, z], fd.scope.names.lookup x' = some .local \/ fd.scope.names.lookup x' = some .cell := fun x' hx => by
  have := List.all_eq_true.mp kr x' hx
  unfold eI at this
  simp only [Bool.and_eq_true, Bool.or_eq_true, beq_iff_eq] at this
  rcases this.2 with h | h
  . exact .inl h
  . exact .inr h.2
 refine wpAny_call (codeAny_call_function (by have := hA.2; ((with_reducible refine Om.lm ‹_› ?_); simp +arith only)) (h₀ _ _ ho) hd fa.co fa.gen iQ (i9.keeps h₀) (BD (hb u v w) fun hs t h' e1 e2 => ?_))
 have jk : ∀ x', fd.scope.names.lookup x' = some .cell -> ((cellsFrom (h'.objs.size + 1) fd.scope.names []).lookup x').isSome = true := fun x' hx => by
  refine Ex (d9 (n := h'.objs.size + 1) (mem_of_lookup hx)) fun c hc => ?_
  refine Ex (da hc) fun c' hc' => ?_
  rw [hc']; rfl
 rw [ms]
 refine wpAny_newFunctionEnv_cells (s := { s with heap := h', toks := s.toks + 1 }) fa.kind (fun p hp => ?_) fun env he an X => ?_
 . have : p.1 ∈ [x, y, z] := by
    simp only [List.mem_cons, List.not_mem_nil, or_false] at hp
    rcases hp with rfl | rfl | rfl <;> simp
   rcases hkd _ this with h | h
   . exact .inl h
   . exact .inr ⟨h, jk _ h⟩
 . subst he
   have hfr : s.heap.get? s.heap.objs.size = none := bt _
   have hn : K s.heap.objs.size = none := aX hi hfr
   have hi' : eV (bH K s.heap.objs.size (lq hs k t w)) h' := fun b o' e => by
    unfold bH at e
    split at e
    . rename_i q; subst q; (replace e := siE e; subst e); exact e1
    . exact e2 _ _ (hi b o' e)
   have g : bw K s.heap (bH K s.heap.objs.size (lq hs k t w)) := iV hi hfr
   have l9 : sysModules < s.heap.objs.size := by
    refine mF ok.g fun o es ep e _ => ?_
    have := Heap.lt_size (h₀ _ _ e)
    have h3 : sysModules < mainGlobals := by decide
    exact Nat.lt_trans h3 this
   have hr : ak (bH K s.heap.objs.size (lq hs k t w)) [du, dv, xC k w] [u, v, .ref s.heap.objs.size] := by
    refine .cons (hu.mono g.1) (.cons (hv.mono g.1) (.cons ?_ .nil))
    unfold xC
    simp only [bJ]
    exact ⟨_, fun _ _ e => e, _, hs, t, rfl, by unfold bH; rw [if_pos rfl], Ne.symm (Nat.ne_of_lt l9)⟩
   have b7 := X.toInCall.keep
   have F := i5 (C := C) (K := bH K s.heap.objs.size (lq hs k t w)) (s := { s with heap := h', toks := s.toks + 1 }) (a := a) (xs := [x, y, z]) (ds := [du, dv, xC k w]) (vs := [u, v, .ref s.heap.objs.size]) fa.kind fa.free hgl hbl hi' (fun a o e => g.1 _ _ (bZ a o e)) hr am kr rfl X
   have ks : ∀ b o, s.heap.get? b = some o -> an.heap.get? b = some o := fun b o e => b7 _ _ (e2 _ _ e)
   have F' := F.lessP (P' := fun a => s.heap.get? a) fun b o e => e2 _ _ e
   refine ⟨(ok.nolimit.keeps h₀).keeps ks, codeAny_func ?_⟩
   refine eh (h _ _ an ⟨hA.1, by show A.depth + 1 + n < _; have := hA.2; ((with_reducible refine Om.lm ‹_› ?_); simp +arith only), by show A.units + 3 + 8 * n + 256 < _; have := hA.3; ((with_reducible refine Om.lm ‹_› ?_); simp +arith only)⟩ rfl ks g F') fun f s' q => ?_
   (refine lC q fun K' r q0 g' i' r' ks' sm => ?_; clear q; subst q0)
   refine ⟨⟨K', g', i', r'⟩, ?_⟩
   (refine Br X.toInCall.same fun cR kG q0 => ?_; subst q0)
   (refine Br sm fun ca n9 q0 => ?_; clear sm; subst q0)
   exact ⟨ca, n9, rfl, ks'⟩
end
section
open PySem PySem.Calls PyProof.Rows PySem.W
noncomputable def Aq : List Stmt -> Option (Arguments × Expr × Scope × Pos)
 | .Assign _ (.Tuple [_, .Lambda a b s p] _ _) _ :: _ => some (a, b, s, p)
 | _ => none
noncomputable def Hh : Option (Arguments × Expr × Scope × Pos) -> Arguments × Expr × Scope × Pos
 | some x => x
 | none => ⟨default, .Constant .none 0 default, default, default⟩
noncomputable abbrev xt : Arguments := (Hh (Aq (bd ah 84))).1
noncomputable abbrev vh : Expr := (Hh (Aq (bd ah 84))).2.1
noncomputable abbrev vi : Scope := (Hh (Aq (bd ah 84))).2.2.1
noncomputable def eZ : D := .opq fun K v => ∃ a q pm c' ctv oc vs t, v = .ref a /\ K a = some (kla_obj "<lambda>" q xt vh vi [] pm c' ctv) /\ K c' = some oc /\ oc.data = .fields vs /\ vs[1]? = some (.str q t)
theorem Ar {q : Str} {pm cv ctv w : Value} : bindArgs (kla_fn "<lambda>" q xt vh vi [] pm cv ctv) ⟨[u], [("names", w)]⟩ = pure ((["place", "names"] : List Str).zip [u, w]) := by
 with_unfolding_all rfl
theorem BX : ab C n vi vh (fun ρ => (ρ "names").bind fun a => (ρ "place").bind fun b => ef a b) :=
 ab.item nA nA
theorem A2 {w : Value} {i : Int} (ok : C.Ok) (fa : yG C a "name_index" "get_name" "extrainfo" "names" (bd ah 19) (aQ ah 19)) (hU : aw C "UNKNOWN" (.ref aU)) (hA : dg (n + 1) A)
 (hi : eV K s.heap) (bZ : ∀ a o, C.h₀.get? a = some o -> K a = some o) (hu : bJ K (.int i) u) :
 wpAny C.M A (call (.ref a) [u, .none] [("names", w)]) (dS K s (.tup [.val (.ref aU), .str []])) dq s := by
 refine vU (n := n) (du := .int i) (dv := .none) ok fa hA hi bZ hu tP (by kernel_rfl) rfl fun env ap s₁ tq he ks g F => ?_
 have tst : dP C n (aQ ah 19) [] _ _ := dP.of (bj.cmp (pos := ⟨50, 7, 50, 27⟩) (ab.name (n := n) (sc := aQ ah 19) (C := C) "get_name" ⟨50, 7, 50, 15⟩ (by kernel_rfl) (by kernel_rfl)) (ab.none_ 0 ⟨50, 23, 50, 27⟩) p9)
 refine wpAny_execs_cons (wpAny_If (wpAny_mono (tst.run (A.deeper env) env _ [] ap _ s₁ false tq he rfl F rfl) (fun r an q => ?_) fun _ _ x => x))
 (refine n4 q fun q0 bE b7 => ?_; clear q; subst q0)
 have ret : ae C n (aQ ah 19) [] [] _ _ := ae.top (au.ret (pos := ⟨54, 8, 54, 28⟩) (aM.of (ab.tuple (k := 0) (pos := ⟨54, 15, 54, 28⟩) (aa.cons (ab.globVal (p := ⟨54, 16, 54, 23⟩) ok hU (by kernel_rfl)) (aa.cons (ab.str "" 0 ⟨54, 25, 54, 27⟩) aa.nil))))) ae.nil
 refine eh (ret.run (A.deeper env) env _ [] ap _ an (.ret (.tup [.val (.ref aU), .str []])) _ tq he rfl bE rfl) fun f cX p => ?_
 obtain ⟨⟨K', ow', _, gK, F', hfl⟩, sm⟩ := p
 (refine ax hfl fun v q0 rv => ?_; clear hfl; subst q0)
 exact (iJ K' v rfl ⟨g.1.trans gK.1, fun a o e => (gK.2 a o e).elim (g.2 a o) .inr⟩ F'.fe.inH rv (fun b o e => F'.inP b o e) ((bh.of b7).trans sm))
theorem A1 {w : Value} {i : Int} {d : D} (ok : C.Ok) (fa : yG C a "name_index" "get_name" "extrainfo" "names" (bd ah 19) (aQ ah 19)) (hA : dg (n + 2) A)
 (hi : eV K s.heap) (bZ : ∀ a o, C.h₀.get? a = some o -> K a = some o) (hu : bJ K (.int i) u) (hv : bJ K eZ v) (hw : bJ K (.tup ds) w) (hd : ef (.tup ds) (.int i) = some d) :
 wpAny C.M A (call (.ref a) [u, v] [("names", w)]) (dS K s (.tup [d, d])) dq s := by
 refine vU (n := n + 1) (du := .int i) (dv := eZ) ok fa hA hi bZ hu hv (by kernel_rfl) rfl fun env ap s₁ tq he ks g F => ?_
 have G := F.fe.vars
 rw [show ay ([] : List (Str × Addr)) = [] from rfl, bb] at G
 refine ax (G "get_name" eZ rfl) fun v' V1 R1 => ?_
 refine ax (G "name_index" (.int i) rfl) fun u' V2 R2 => ?_
 refine ax (G "extrainfo" (xC "names" w) rfl) fun x' V3 R3 => ?_
 have R1' := R1
 unfold eZ at R1'
 simp only [bJ] at R1'
 obtain ⟨rF, Mv, aL, q, pm, c', ctv, oc, vs, t, rfl, k1, k2, k3, k4⟩ := R1'
 unfold xC at R3
 simp only [bJ] at R3
 (refine yB R3 fun K₀' Mw b hs t' q0 k5 k6 => ?_; clear R3; subst q0)
 have kL := Mv _ _ k1
 have kC := Mv _ _ k2
 have kX := Mw _ _ k5
 refine wpAny_execs_cons (wpAny_If ?_)
 refine wpAny_isTrue_Compare1 (wpAny_Name (ci F.fe.fn V1 ?_ (by kernel_rfl)) (by kernel_rfl)) (by with_unfolding_all rfl)
 refine wpAny_Constant_none (isNot_none (wpAny_truthy_bool ?_))
 show wpAny C.M (A.deeper env) (execs _ env) _ dq s₁
 refine wpAny_execs_cons (wpAny_Assign_Name (x5 F V1 kL rfl V2 V3 kX k6 (by kernel_rfl) (by kernel_rfl) (by kernel_rfl) (by kernel_rfl) (by kernel_rfl) (by kernel_rfl) fun h' kh => ?_) (by cases env; cases he; with_unfolding_all rfl))
 have Fh := F.keeps (h' := h') kh (bw.refl _ _) fun a o e => kh _ _ (F.fe.inH a o e)
 refine eh (yZ (C := C) (n := n) (K := ap) (s := { s₁ with heap := h' }) (xs := ["place", "names"]) (ds := [.int i, .tup ds]) (vs := [u', w]) (d := d) (ρ := upd (upd (fun _ => none) "place" (.int i)) "names" (.tup ds)) ok tq (kh _ _ (F.fe.inH _ _ kL)) rfl (nv c' oc vs t rfl (kh _ _ (F.fe.inH _ _ kC)) k3 k4) rfl rfl rfl rfl rfl
  Ar (by kernel_rfl) (by kernel_rfl) (by kernel_rfl) (by kernel_rfl) (by kernel_rfl) Fh.fe.inH Fh.fe.base (.cons R2 (.cons (hw.mono g.1) .nil)) rfl BX ?_) fun r an p => ?_
 . show (Option.bind _ _) = _
   rw [dJ, Option.bind_some, cO (by decide), dJ]
   exact hd
 . obtain ⟨⟨cI, bV, bW, ek⟩, b7⟩ := p
   have bE := Fh.keeps b7.get bV bW
   refine bE.store (x := "argval") ek rfl (.inl (by unfold Env.kindOf; rw [he]; kernel_rfl)) fun dU tk ce l₃ _ => ?_
   have ret : ae C (n + 1) (aQ ah 19) [] [] _ _ := ae.top (au.ret (pos := ⟨52, 8, 52, 31⟩) (aM.of (ab.tuple (k := 0) (pos := ⟨52, 15, 52, 31⟩) (aa.cons (ab.name "argval" ⟨52, 16, 52, 22⟩ (by kernel_rfl) (by kernel_rfl)) (aa.cons (ab.name "argval" ⟨52, 24, 52, 30⟩ (by kernel_rfl) (by kernel_rfl)) aa.nil))))) ae.nil
   refine eh (ret.run (A.deeper env) env _ [] cI _ { an with heap := dU, toks := tk } (.ret (.tup [d, d])) _ tq he rfl ce rfl) fun f cX p => ?_
   obtain ⟨⟨K', ow', _, gK, F', hfl⟩, sm⟩ := p
   (refine ax hfl fun v q0 rv => ?_; clear hfl; subst q0)
   refine (iJ K' v rfl ⟨(g.1.trans bV.1).trans gK.1, fun a o e => (gK.2 a o e).elim (fun e => (bV.2 a o e).elim (g.2 a o) fun q => .inr (fN (fun b o e => kh _ _ (ks b o e)) q)) .inr⟩ F'.fe.inH rv (fun b o e => F'.inP b o e) ?_)
   exact (bh.trans (s' := { s₁ with heap := h' }) (j2 h' s₁.toks rfl) ((bh.of b7).trans (j2 dU tk rfl))).trans sm
def uI (C : dd) (n : Nat) (f : Value) (k : Str) (G : List D -> D -> Option D) : Prop :=
 ∀ (A : Around) (K : KM) (s : Shared) (ds : List D) (c : D) (vs : List Value) (w : Value) (d : D), dg n A -> eV K s.heap -> (∀ a o, C.h₀.get? a = some o -> K a = some o) -> ak K ds vs -> bJ K c w -> G ds c = some d ->
  wpAny C.M A (call f vs [(k, w)]) (dS K s d) dq s
theorem ab.callKw {k : Str} {kp : Pos} {G : List D -> D -> Option D} (ok : C.Ok) (hg : aw C x (.ref a)) (ho : C.h₀.get? a = some o) (hdat : o.data = .func fd) (hc : uI C n (.ref a) k G)
 (h : aa C n sc pos (e :: rest) fl) (h3 : ab C n sc e3 f3) (hk : sc.names.lookup x = some .globalImplicit)
 (h1 : autoParam (∀ env, starEach (e :: rest) env = (false, eval e env) :: starEach rest env) aR) (hd : autoParam ((x == ("__debug__" : Str)) = false) aD) :
 ab C n sc (.Call (.Name x p) (e :: rest) [⟨some k, e3, kp⟩] pos) (fun ρ => (fl ρ).bind fun ds => (f3 ρ).bind fun c => G ds c) := by
 constructor
 intro A env K ρ s d hA he F hf
 refine ax (obE hf) fun ds am hf => ?_
 refine ax (obE hf) fun c ar bO => ?_
 have heq : eval (.Call (.Name x p) (e :: rest) [⟨some k, e3, kp⟩] pos) env = (do callWith pos (<- eval (.Name x p) env) [] (backTo pos (starEach (e :: rest) env)) (backToKw pos (keywordEach [⟨some k, e3, kp⟩] env))) := by rfl
 rw [heq]
 refine wpAny_bind (bx ok F (he ▸ hk) hg hd ?_)
 have qW := h.run A env K ρ s ds hA he F am
 rw [h1 env] at qW ⊢
 refine callWith_def_kw (o := o) (fd := fd) hdat (evalArgs_kw rfl (wpAny_mono qW (fun vs s₁ q => ?_) fun _ _ x => x))
 (refine Ea q fun q0 k₁ => ?_; clear q; obtain ⟨ap, av, aA, aB⟩ := q0)
 have aq := F.keeps k₁.get av.1 aA
 refine wpAny_evalAll_cons (wpAny_bind (wpAny_mono (h3.run A env ap ρ s₁ c hA he aq ar) (fun w an q => ?_) fun _ _ x => x))
 obtain ⟨⟨cI, bV, bW, ek⟩, b7⟩ := q
 have bE := aq.keeps b7.get bV.1 bW
 refine wpAny_bind (wpAny_standAt (wpAny_pure (wpAny_evalAll_nil ⟨bE.h₀ _ _ ho, ?_⟩)))
 have BS := av.trans k₁.get bV
 exact wpAny_mono (hc A cI an ds c vs w d hA bW bE.base (aB.mono bV.1) ek bO) (fun v cX p => .after BS (k₁.trans b7) p) fun _ _ x => x
open Classical in
def nW (aU : Addr) (ds : List D) (c : D) : Option D :=
 match ds, c with
 | [.int i, dv], .tup es => if dv = .none then some (.tup [.val (.ref aU), .str []]) else if dv = eZ then (ef (.tup es) (.int i)).map fun d => .tup [d, d] else none
 | _, _ => none
theorem A0 (ok : C.Ok) (fa : yG C a "name_index" "get_name" "extrainfo" "names" (bd ah 19) (aQ ah 19)) (hU : aw C "UNKNOWN" (.ref aU)) : uI C (n + 2) (.ref a) "names" (nW aU) := by
 intro A K s ds c vs w d hA hi hb r rw' hg
 obtain ⟨x, dv, rfl, hq⟩ := rA (G := fun ds => nW aU ds c) rfl (fun a => by cases a <;> rfl) (fun a b _ _ => by cases a <;> rfl) hg
 clear hg
 cases x <;> first | exact dK hq | skip
 cases c <;> first | exact dK hq | skip
 . rename_i i es
   (delta nW at hq; dsimp only at hq)
   (refine bk (u4 r) fun u v q0 ru rv => ?_; subst q0)
   split at hq
   . rename_i h; subst h; (replace hq := siE hq; subst hq)
     rw [iX rv]
     exact A2 (n := n + 1) ok fa hU hA hi hb ru
   . split at hq
     . rename_i h h'; subst h'
       (refine ax (omE hq) fun d' e q0 => ?_; subst q0)
       exact A1 ok fa hA hi hb ru rv rw' e
     . exact nS hq
theorem bG.but {T : Addr} (F : bG b C P env ow K ρ h) (hk : ∀ c o, c ≠ T -> h.get? c = some o -> h'.get? c = some o) (kT : K T = none) (pT : P T = none)
 (lT : T ≠ env.locals) (cT : ∀ x, env.cells.lookup x ≠ some T) (oT : ∀ p ∈ ow, p.2 ≠ T) : bG b C P env ow K ρ h' := by
 have hn : ∀ {m}, h.Ns env.locals m -> h'.Ns env.locals m := fun ⟨o, es, ep, e, r⟩ => ⟨o, es, ep, hk _ _ (Ne.symm lT) e, r⟩
 have hc : ∀ x c, env.cells.lookup x = some c -> c ≠ T := fun x c e q => cT x (q ▸ e)
 have hv : ∀ {y v}, dQ env h y v -> dQ env h' y v := by
  intro y v z
  cases z with
  | loc m a1 a2 a3 => exact .loc m a1 (hn a2) a3
  | cell c a1 a2 a3 => (refine ax a3 fun o ho hd => ?_; clear a3); exact .cell c a1 a2 (bC o (hk _ o (hc _ _ a2) ho) hd)
  | free c a1 a2 a3 => (refine ax a3 fun o ho hd => ?_; clear a3); exact .free c a1 a2 (bC o (hk _ o (hc _ _ a2) ho) hd)
 refine ⟨⟨F.fe.fn, F.fe.gl, F.fe.bl, fun a o e => hk a o (fun q => by rw [q, kT] at e; cases e) (F.fe.inH a o e), F.fe.base, let ⟨m, q⟩ := F.fe.ns; ⟨m, hn q⟩, fun x d e => let ⟨v, a1, a2⟩ := F.fe.vars x d e; ⟨v, hv a1, a2⟩,
  fun x e => let ⟨c, h1, o, h2⟩ := F.fe.caps x e; ⟨c, h1, o, hk _ _ (hc _ _ h1) h2⟩, fun x c e => let ⟨o, h2⟩ := F.fe.cl x c e; ⟨o, hk _ _ (hc _ _ e) h2⟩⟩,
  fun a o e => hk a o (fun q => by rw [q, pT] at e; exact nS e) (F.inP a o e), F.lK, F.lP, fun x c e => ⟨(F.cel x c e).1, fun hb => ?_⟩, F.apart, F.celAll, fun p hp => ?_, F.ownApart⟩
 . refine qg ((F.cel x c e).2 hb) fun k p v o ho hd => ?_
   exact (qk k p v o (hk _ _ (hc x c e) ho) hd)
 . refine aJ (F.own p hp) fun ds vs n h1 h2 h3 h4 h5 h6 h7 h8 => ?_
   exact (bN ds vs n h1 (hv h2) (hk _ _ (oT p hp) h3) h4 h5 h6 h7 h8)
theorem bG.know {T : Addr} (F : bG b C P env ow K ρ h) (ho : h.get? T = some o) (kT : K T = none)
 (lT : T ≠ env.locals) (cT : ∀ x, env.cells.lookup x ≠ some T) (oT : ∀ p ∈ ow, p.2 ≠ T) : bG b C P env ow (bH K T o) ρ h := by
 have le := ed (o := o) kT
 have ne : ∀ c, c ≠ T -> K c = none -> bH K T o c = none := fun c q e => by unfold bH; rw [if_neg q]; exact e
 refine ⟨⟨F.fe.fn, F.fe.gl, F.fe.bl, fun a o' e => ?_, fun a o e => le _ _ (F.fe.base a o e), F.fe.ns, fun x d e => let ⟨v, a1, a2⟩ := F.fe.vars x d e; ⟨v, a1, a2.mono le⟩, F.fe.caps, F.fe.cl⟩,
  F.inP, ne _ (Ne.symm lT) F.lK, F.lP, fun x c e => ⟨(F.cel x c e).1, fun hb => ?_⟩, F.apart, F.celAll, fun p hp => ?_, F.ownApart⟩
 . unfold bH at e
   split at e
   . rename_i q; subst q; (replace e := siE e; subst e); exact ho
   . exact F.fe.inH a o' e
 . refine Ea ((F.cel x c e).2 hb) fun k p => ?_
   exact ⟨ne c (fun q => cT x (q ▸ e)) k, p⟩
 . refine oX (F.own p hp) fun ds vs n h1 h2 h3 h4 h5 h6 => ?_
   exact ⟨ds, vs, n, h1, h2, h3, h4.mono le, ne _ (oT p hp) h5, h6⟩
theorem Aj (hi : eV K h) (hf : o.isFreed = false) : eV (bH K h.objs.size o) (h.push o) := fun b o' e => by
 unfold bH at e
 split at e
 . rename_i q; subst q; (replace e := siE e; subst e); exact Heap.get?_push_size _ hf
 . exact Heap.get?_push_of_some _ (hi b o' e)
theorem bG.offT {T : Addr} {ps : Array Value} (F : bG bf C P env ow K ρ h) (hT : h.get? T = some (tabObj ps)) :
 T ≠ env.locals /\ (∀ x, env.cells.lookup x ≠ some T) /\ ∀ p ∈ ow, p.2 ≠ T := by
 refine (h9 (fun q => ?_) (fun x q => ?_) (fun p hp q => ?_))
 . refine lD F.fe.ns fun m o es ep e hd _ => ?_
   rw [<- q, hT] at e; (replace e := siE e; subst e); cases hd
 . refine qg ((F.cel x T q).2 rfl) fun _ _ v o ho hd => ?_
   rw [hT] at ho; (replace ho := siE ho; subst ho); cases hd
 . refine fh (F.own p hp) fun ds vs n h1 h2 h3 _ => ?_
   rw [q, hT] at h3; cases h3
theorem up {c T : Addr} {lp pv : Pos} (ok : C.Ok) (hA : A.handled = none) (he : env.scope = aQ ah 84) (i9 : env.code = .ref c) (F : bG bf C P env [] K ρ s.heap)
 (hC : CodeHd C.h₀ c T) (hT : s.heap.get? T = some (tabObj #[])) (PT : P T = none) (KT : K T = none) (hB : C.h₀.BuiltinsAt C.mg T)
 (hw : ∀ env, env.scope = aQ ah 84 -> swappedStores [.Tuple [.Name "pile" p1, .Name "look" p2] k pt] (.Tuple [.List [] lp, .Lambda xt vh vi lpos] k' pv) env = pure (some (["pile", "look"] : List Str)))
 (hs : ∀ env, env.scope = aQ ah 84 -> swapsWithSole [.Tuple [.Name "pile" p1, .Name "look" p2] k pt] (.Tuple [.List [] lp, .Lambda xt vh vi lpos] k' pv) pos.line env = pure false) :
 wpAny C.M A (exec (.Assign [.Tuple [.Name "pile" p1, .Name "look" p2] k pt] (.Tuple [.List [] lp, .Lambda xt vh vi lpos] k' pv) pos) env)
  (fun f s' => f = .next /\ ∃ K' pa, fW K P K' /\ bG bf C P env [("pile", pa)] K' (upd (upd ρ "look" eZ) "pile" (.list [])) s'.heap /\ (∃ ps, K' T = some (tabObj ps)) /\ bh s s') dq s := by
 refine PyProof.Rows.Assign_Tuple_swapped (names := ["pile", "look"]) (wpAny_Tuple ?_) (hs env he) (hw env he)
 refine wpAny_items_cons (wpAny_List (wpAny_items_nil ⟨by rw [aO]; simp, ?_⟩)) rfl
 have push : ∀ {h : Heap} o' b o, h.get? b = some o -> (h.push o').get? b = some o := fun _ _ _ e => Heap.get?_push_of_some _ e
 have n1 := bt s.heap
 have aq := F.keeps (push (aT [] 0)) (bw.refl _ _) fun a o e => push _ _ _ (F.fe.inH a o e)
 have wf := push (aT [] 0) _ _ hT
 have Ds : (s.heap.push (aT [] 0)).get? s.heap.objs.size = some (aT [] 0) := Heap.get?_push_size _ rfl
 refine n4 (F.offT hT) fun lT cT oT => ?_
 have h₀ : ∀ b o, C.h₀.get? b = some o -> (s.heap.push (aT [] 0)).get? b = some o := fun b o e => push _ _ _ (F.fe.h₀ b o e)
 have hTn : C.h₀.get? T = none := by
  cases q : C.h₀.get? T with
  | none => rfl
  | some o => have := F.fe.base T o q; rw [KT] at this; exact nS this
 have hgP : mainGlobals ≠ T := fun q => by
  refine mF ok.g fun o es ep e _ => ?_
  rw [q, hTn] at e; exact nS e
 (refine lC hB fun bm ob b1 b2 b3 b4 b5 b6 => ?_; clear hB)
 refine wpAny_items_cons (kla_eval rfl (kla_makeFunction (s := { s with heap := s.heap.push (aT [] 0) }) (clos := []) (by with_unfolding_all rfl) F.fe.gl (ok.g.keeps h₀) i9 (hC.keeps h₀) wf trivial (by rfl) hgP (iJ bm ob b1 b2 b3 b4 (h₀ _ _ b5) b6)
  fun c' ctv h' tk hx hge hlt Mg htb => ?_)) rfl
 refine wpAny_items_nil ⟨by rw [aO]; simp, ?_⟩
 (refine yF Mg fun c₂ oc vs t e2 hoc hdc hv => ?_; clear Mg)
 cases e2
 have keepT : ∀ a o, a ≠ T -> (s.heap.push (aT [] 0)).get? a = some o -> h'.get? a = some o := fun a o q e => hx a o q e
 have bE := aq.but keepT KT PT lT cT oT
 have ce := bE.know htb KT lT cT oT
 have cT' : c' ≠ T := fun q => by
  have := Heap.lt_size wf
  rw [<- q] at this
  exact absurd hge (Nat.not_le.mpr this)
 have gH : (s.heap.push (aT [] 0)).get? c' = none := by
  cases q : (s.heap.push (aT [] 0)).get? c' with
  | none => rfl
  | some o => exact absurd (Heap.lt_size q) (Nat.not_lt.mpr hge)
 have Kc : K c' = none := aX aq.fe.inH gH
 have Pc : P c' = none := eX aq.inP gH
 have offc : ∀ {a o}, s.heap.get? a = some o -> a ≠ c' := fun {a o} e q => by
  rw [q] at e; rw [push _ _ _ e] at gH; exact sN gH
 refine hY F.fe.ns fun mL oL esL epL hL _ => ?_
 have gw := ce.know (o := oc) hoc (by unfold bH; rw [if_neg cT']; exact Kc) (Ne.symm (offc hL)) (fun x q => by refine Ex (F.fe.cl x _ q) fun o ho => ?_; exact offc ho rfl) (fun p hp => nomatch hp)
 generalize hO : kla_obj "<lambda>" (env.qual ++ "<lambda>") xt vh vi [] ((C.mg "__name__").getD .none) c' ctv = lo at *
 have jD := gw.keeps (push lo) (iV gw.fe.inH (bt h')) (Aj gw.fe.inH (by rw [<- hO]; rfl))
 generalize hK5 : bH (bH (bH K T _) c' oc) h'.objs.size lo = nw at jD
 have gK : fW K P nw := by
  subst hK5
  refine ⟨(ed KT).trans ((ed (by unfold bH; rw [if_neg cT']; exact Kc)).trans (ed (aX gw.fe.inH (bt h')))), fun a o e => ?_⟩
  unfold bH at e
  split at e
  . rename_i q; subst q; exact .inr (eX bE.inP (bt h'))
  . split at e
    . rename_i q; subst q; exact .inr Pc
    . split at e
      . rename_i q; subst q; exact .inr PT
      . exact .inl e
 have hfT : T ≠ h'.objs.size := fun q => by rw [q, bt] at htb; exact nS htb
 have hfc : c' ≠ h'.objs.size := fun q => by rw [q, bt] at hoc; exact nS hoc
 have K5T : ∃ ps, nw T = some (tabObj ps) := ⟨_, by subst hK5; unfold bH; rw [if_neg hfT, if_neg (Ne.symm cT'), if_pos rfl]⟩
 have rl : bJ nw eZ (.ref h'.objs.size) := by
  unfold eZ
  simp only [bJ]
  refine ⟨nw, fun _ _ e => e, _, env.qual ++ "<lambda>", (C.mg "__name__").getD .none, c', ctv, oc, vs, t, rfl, ?_, ?_, hdc, hv⟩
  . subst hK5; unfold bH; rw [if_pos rfl, hO]
  . subst hK5; unfold bH; rw [if_neg hfc, if_pos rfl]
 have np : s.heap.objs.size ≠ T := fun q => by rw [<- q, n1] at hT; exact nS hT
 have o5 : h'.get? s.heap.objs.size = some (aT [] 0) := keepT _ _ np Ds
 have pc : s.heap.objs.size ≠ c' := fun q => by rw [<- q, Ds] at gH; exact sN gH
 have pf : s.heap.objs.size ≠ h'.objs.size := fun q => by rw [q, bt] at o5; exact nS o5
 have K5p : nw s.heap.objs.size = none := by
  subst hK5; unfold bH; rw [if_neg pf, if_neg pc, if_neg np]; exact aX F.fe.inH n1
 have Pp : P s.heap.objs.size = none := eX F.inP n1
 have Lp : s.heap.objs.size ≠ env.locals := fun q => by rw [<- q, n1] at hL; exact nS hL
 have Cp : ∀ x, env.cells.lookup x ≠ some s.heap.objs.size := fun x q => by refine Ex (F.fe.cl x _ q) fun o ho => ?_; rw [n1] at ho; exact nS ho
 have hTu : Heap.IsTuple ((h'.push lo).push { cls := .type "tuple", data := .seq [.ref s.heap.objs.size, .ref h'.objs.size].toArray }) (h'.push lo).objs.size [.ref s.heap.objs.size, .ref h'.objs.size].toArray := (kH _ (Heap.get?_push_size _ rfl) rfl 0 rfl)
 show wpAny C.M A (unpackItems (.ref (h'.push lo).objs.size) ([Value.ref s.heap.objs.size, .ref h'.objs.size].toArray.size) none) _ dq { s with heap := (h'.push lo).push { cls := .type "tuple", data := .seq [.ref s.heap.objs.size, .ref h'.objs.size].toArray }, toks := tk }
 refine wpAny_unpackItems_tuple (s := { s with heap := (h'.push lo).push { cls := .type "tuple", data := .seq [.ref s.heap.objs.size, .ref h'.objs.size].toArray }, toks := tk }) hA hTu fun v9 M1 => ?_
 have Hg : ∀ b o, (h'.push lo).get? b = some o -> v9.get? b = some o := fun b o e => M1 b o (fun q => by
  have q : @Eq Nat b ((h'.push lo).push { cls := .type "tuple", data := .seq [.ref s.heap.objs.size, .ref h'.objs.size].toArray }).objs.size := q
  rw [Heap.size_push] at q
  have := Heap.lt_size e
  have this : @LT.lt Nat _ b (h'.push lo).objs.size := this
  lia) (push _ _ _ e)
 have uJ := jD.keeps Hg (bw.refl _ _) fun a o e => Hg _ _ (jD.fe.inH a o e)
 show wpAny C.M A (do holding [.ref s.heap.objs.size] (bindName env "look" (.ref h'.objs.size)); assignInOrder [fun v => bindName env "pile" v] [.ref s.heap.objs.size]) _ dq { s with heap := v9, toks := tk }
 refine wpAny_bind (wpAny_holding (wpAny_bindName (bG.store (s := { s with heap := v9, toks := tk }) uJ rl rfl (.inl (by unfold Env.kindOf; rw [he]; kernel_rfl)) fun Ha Im Gg l₇ I1 => ?_)))
 have g₇ := I1 _ _ Lp Cp (Hg _ _ (push _ _ _ o5))
 show wpAny C.M A (do holding [] (bindName env "pile" (.ref s.heap.objs.size)); assignInOrder [] []) _ dq _
 refine wpAny_bind (wpAny_holding (wpAny_bindName (bG.store0 (s := { s with heap := Ha, toks := Im }) Gg rfl (.inl (by unfold Env.kindOf; rw [he]; kernel_rfl)) fun h₈ t₈ F₈ V₈ l₈ q₈ => ?_)))
 have O₈ := F₈.own1 rfl V₈ (q₈ _ _ Lp Cp g₇) (vs := []) (ds := []) (by simp only [ak]) K5p Pp Lp Cp (fun p hp => nomatch hp)
 exact wpAny_pure (ql rfl nw _ gK O₈ K5T (j2 h₈ t₈ rfl))
noncomputable def wD {α : Type} : List α -> List α
 | [] => []
 | _ :: r => r
def mo (aU : Addr) (gG : List D -> D -> Option D) (gM : List D -> Option D) : PSigma fun g => ∀ {C : dd} {n : Nat} {aG : Addr} {o : Obj} {fd : FuncData} {fM : Value} (ok : C.Ok) (B : cw C) (hTup : aw C "tuple" (.type "tuple")) (hU : aw C "UNKNOWN" (.ref aU))
 (hg : aw C "_get_name_info" (.ref aG)) (ho : C.h₀.get? aG = some o) (hd : o.data = .func fd) (hc : uI C n (.ref aG) "names" gG) (U : cZ C n "_law_mix" fM gM),
 ae C n (aQ ah 84) ["pile"] ["pile"] (wD (bd ah 84)) g := ⟨_, fun {C n aG o fd fM} ok B hTup hU hg ho hd hc U => (ae.top (au.for_ (bc.zip ok B.zip (aa.cons nA (aa.cons nA aa.nil))) (ae.cons (au.if_ (dP.of (bj.val (ab.item nA iA))) (ae.cons (au.ret (aM.rev (eA.some_ (ab.neg iA)) (by kernel_rfl) (by kernel_rfl)))
 ae.nil) ae.nil)
 (ae.cons (au.if_ (dP.of (bj.val (ab.item nA iA))) (ae.cons (au.assign (aM.of (ab.callKw ok hg ho hd hc (aa.cons (ab.bin nA iA fE) (aa.cons (ab.ifexp (bj.cmp nA iA bK) (ab.none_ _ _) nA) aa.nil)) (ab.tuple (aa.cons iA (aa.cons iA aa.nil))) (by kernel_rfl))))
 (ae.cons (au.assign (aM.of (ab.boolOp (cQ.and (ab.isTup ok B.isinstance hTup nA (by kernel_rfl) (by kernel_rfl)) (cQ.and (ab.cmp (ab.call ok B.len (bg.builtin _) fK (aa.cons nA aa.nil)) iA bK) (cQ.one (ab.ifexp (bj.cmp nA iA bK) (ab.boolOp (cQ.and (ab.cmp (ab.item nA iA) (ab.globVal ok hU (by kernel_rfl)) nE) (cQ.one (ab.cmp (ab.item nA iA) sA bK)))) (ab.cmp (ab.item nA iA) (ab.item nA iA) bK))))))))
 (ae.cons (au.append (aM.of (ab.ifexp (bj.not (bj.val nA)) (ab.neg iA) (ab.ifexp (bj.cmp nA iA bK) (ab.neg iA) (ab.item nA iA)))) (by kernel_rfl) (by decide))
 ae.nil))) (ae.cons (au.if_ (dP.of (bj.val (ab.item nA iA))) (ae.cons (au.appendPop ok U.1 U.2 U.3 (by kernel_rfl) (aM.of (ab.bin (ab.bin nA iA fE) iA bX)) (by kernel_rfl) (by decide) (by kernel_rfl) (by kernel_rfl) (by kernel_rfl))
 ae.nil) ae.nil)
 ae.nil))
 ae.nil)) ae.nil) ae.nil)⟩
noncomputable def qC (T : Addr) (h : Heap) : KM := fun a => if a = T then none else h.get? a
theorem wZ {T : Addr} (e : qC T h a = some o) : a ≠ T /\ h.get? a = some o := by
 unfold qC at e
 split at e
 . exact nS e
 . rename_i q; exact ⟨q, e⟩
theorem BE {T : Addr} (q : a ≠ T) (e : h.get? a = some o) : qC T h a = some o := by
 unfold qC; rw [if_neg q]; exact e
structure D6 (T : Addr) (K : KM) (s : Shared) (d : D) (v : Value) (s' : Shared) : Prop where
 ex : ∃ K', kJ K K' /\ (∀ a o, K' a = some o -> K a = some o \/ s.heap.get? a = none \/ a = T) /\ eV K' s'.heap /\ bJ K' d v
 keep : ∀ b o, b ≠ T -> s.heap.get? b = some o -> s'.heap.get? b = some o
 tab : ∃ ps, s'.heap.get? T = some (tabObj ps)
 same : bh s s'
noncomputable def vx (r : Fl × af) : Option D := match r.1 with
 | .ret d => some d
 | _ => none
theorem sC {c T : Addr} {vs : List Value} {d : D} (ok : C.Ok) (fa : eB C a ["back", "told"] (bd ah 84) (aQ ah 84))
 (hcd : ∀ o fd, C.h₀.get? a = some o -> o.data = .func fd -> fd.code = .ref c) (hC : CodeHd C.h₀ c T) (hB : C.h₀.BuiltinsAt C.mg T) (hb : ae C n (aQ ah 84) ["pile"] ["pile"] (wD (bd ah 84)) g)
 (hA : dg (n + 1) A) (hi : eV K s.heap) (bZ : ∀ a o, C.h₀.get? a = some o -> K a = some o) (hT : s.heap.get? T = some (tabObj #[])) (KT : K T = none) (hr : ak K ds vs)
 (hg : ((dI (fun _ => none) ["back", "told"] ds).bind fun ρ => (g (upd (upd ρ "look" eZ) "pile" (.list []))).bind vx) = some d) : wpAny C.M A (call (.ref a) vs) (D6 T K s d) dq s := by
 refine ax (obE hg) fun ρ am hg => ?_
 (refine ax (obE hg) fun q0 ar bO => ?_; obtain ⟨fl, ρ'⟩ := q0)
 refine fq fa.ex fun o fd ho hd i9 iQ ms hsc hgl hbl jV => ?_
 have hfc := hcd o fd ho hd
 have h₀ : ∀ b o, C.h₀.get? b = some o -> s.heap.get? b = some o := fun b o e => hi _ _ (bZ b o e)
 have df : vs.length = 2 := by rw [hr.length, <- jZ am]; rfl
 have hki : fd.scope.kind = .function := by rw [hsc]; exact fa.kind
 have gH : (fd.scope.names.all fun p => !(p.2 == .free)) = true := by rw [hsc]; exact fa.free
 have kr : (["back", "told"] : List Str).all (eI bf fd.scope []) = true := by rw [hsc]; kernel_rfl
 have hkd : ∀ x ∈ (["back", "told"] : List Str), fd.scope.names.lookup x = some .local := by rw [hsc]; intro x hx; simp only [List.mem_cons, List.not_mem_nil, or_false] at hx; rcases hx with rfl | rfl <;> kernel_rfl
 refine wpAny_call (codeAny_call_cells (by have := hA.2; ((with_reducible refine Om.lm ‹_› ?_); simp +arith only)) (h₀ _ _ ho) hd (ok.nolimit.keeps h₀) (i9.keeps h₀) iQ (jV vs df) ms (fun p hp => ?_) (fun s₁ X => ?_) (by rw [hsc]; exact fa.co) (by rw [hsc]; exact fa.gen) hki)
 . exact .inl (hkd _ (List.of_mem_zip (show (p.1, p.2) ∈ _ from hp)).1)
 . generalize hE : callEnvC fd s.heap.objs.size a = env at X ⊢
   have hsc' : env.scope = aQ ah 84 := by rw [<- hE, <- hsc]; rfl
   have hco : env.code = .ref c := by rw [<- hE, <- hfc]; rfl
   have F := i5 (K := K) (a := a) hki gH hgl hbl hi bZ hr am kr hE X
   have F' := F.lessP (P' := qC T s.heap) fun b o e => (wZ e).2
   have wf := X.toInCall.keep _ _ hT
   refine eh (Q := fun f s' => ∃ K' v, f = .ret v /\ fW K (qC T s.heap) K' /\ eV K' s'.heap /\ bJ K' d v /\ eV (qC T s.heap) s'.heap /\ (∃ ps, K' T = some (tabObj ps)) /\ bh s₁ s') ?_ fun f s' q => ?_
   . show wpAny C.M (A.deeper env) (execs (bd ah 84) env) _ dq s₁
     have hA' : dg n (A.deeper env) := ⟨hA.1, by show A.depth + 1 + n < _; have := hA.2; ((with_reducible refine Om.lm ‹_› ?_); simp +arith only), by show A.units + 3 + 8 * n + 256 < _; have := hA.3; ((with_reducible refine Om.lm ‹_› ?_); simp +arith only)⟩
     refine wpAny_execs_cons (eh (up (A := A.deeper env) (T := T) ok hA.1 hsc' hco F' hC wf (by unfold qC; rw [if_pos rfl]) KT hB (by intro env h; cases env; cases h; with_unfolding_all rfl) (by intro env h; cases env; cases h; with_unfolding_all rfl)) fun f an p => ?_)
     (refine vI p fun q0 ap pa gK bE q1 sm => ?_; clear p; subst q0; obtain ⟨ps, kT⟩ := q1)
     refine eh (hb.run (A.deeper env) env _ _ ap _ an fl ρ' hA' hsc' rfl bE ar) fun f cX p => ?_
     obtain ⟨⟨K', ow', _, gK', ce, hfl⟩, sm'⟩ := p
     unfold vx at bO
     cases fl <;> simp only [reduceCtorEq, Option.some.injEq] at bO
     . subst bO
       (refine ax hfl fun v q0 hv => ?_; clear hfl; subst q0)
       exact (ma K' v rfl (gK.trans gK') ce.fe.inH hv ce.inP ⟨ps, gK'.1 _ _ kT⟩ (sm.trans sm'))
   . (refine wT q fun K' v q0 gK i' hv hP q1 sm => ?_; clear q; subst q0; obtain ⟨ps, kT⟩ := q1)
     show D6 T K s d v s'
     refine ⟨(jt K' gK.1 (fun b o e => (gK.2 b o e).imp id fun q => ?_) i' hv), fun b o q e => hP _ _ (BE q e), ⟨ps, i' _ _ kT⟩, bh.trans X.toInCall.same sm⟩
     by_cases h : b = T
     . exact .inr h
     . unfold qC at q; rw [if_neg h] at q; exact .inl q
theorem bG.moreK (F : bG bf C P env [] K ρ h) (le : kJ K K') (hi : eV K' h) (hn : ∀ a o, K' a = some o -> K a = some o \/ (a ≠ env.locals /\ ∀ x, env.cells.lookup x ≠ some a)) : bG bf C P env [] K' ρ h := by
 refine ⟨⟨F.fe.fn, F.fe.gl, F.fe.bl, hi, fun a o e => le _ _ (F.fe.base a o e), F.fe.ns, fun x d e => let ⟨v, a1, a2⟩ := F.fe.vars x d e; ⟨v, a1, a2.mono le⟩, F.fe.caps, F.fe.cl⟩, F.inP, ?_, F.lP, fun x c e => ⟨(F.cel x c e).1, fun hb => ?_⟩, F.apart, F.celAll, fun p hp => (nomatch hp), F.ownApart⟩
 . cases q : K' env.locals with
   | none => rfl
   | some o =>
    rcases hn _ _ q with r | r
    . rw [F.lK] at r; exact nS r
    . exact absurd rfl r.1
 . refine Ea ((F.cel x c e).2 hb) fun k p => ?_
   refine ⟨?_, p⟩
   cases q : K' c with
   | none => rfl
   | some o =>
    rcases hn _ _ q with r | r
    . rw [k] at r; exact nS r
    . exact absurd e (r.2 x)
structure D4 (T : Addr) (P : KM) (s : Shared) (d : D) (f : Flow) (s' : Shared) : Prop where
 ex : ∃ K' v, f = .ret v /\ eV K' s'.heap /\ bJ K' d v
 keep : ∀ b o, b ≠ T -> P b = some o -> s'.heap.get? b = some o
 tab : ∃ ps, s'.heap.get? T = some (tabObj ps)
 same : bh s s'
theorem Au {c T : Addr} {a1 r : Expr} {d : D} (ok : C.Ok)
 (fa : eB C aL ["back", "told"] (bd ah 84) (aQ ah 84)) (hg : aw C x (.ref aL)) (hcd : ∀ o fd, C.h₀.get? aL = some o -> o.data = .func fd -> fd.code = .ref c) (hC : CodeHd C.h₀ c T) (hB : C.h₀.BuiltinsAt C.mg T)
 (hb : ae C n (aQ ah 84) ["pile"] ["pile"] (wD (bd ah 84)) g) (hl : aa C (n + 1) sc cp [a1, a2] fl) (hr : ab C (n + 1) sc r fr) (h3 : ab C (n + 1) sc e3 f3) (hA : dg (n + 1) A) (he : env.scope = sc) (F : bG bf C P env [] K ρ s.heap)
 (PT : P T = some (tabObj #[])) (KT : K T = none) (hk : sc.names.lookup x = some .globalImplicit) (e1 : fl ρ = some ds) (e2 : ((dI (fun _ => none) ["back", "told"] ds).bind fun ρ => (g (upd (upd ρ "look" eZ) "pile" (.list []))).bind vx) = some dT)
 (e4 : fr ρ = some dr) (e5 : oN dT dr = some (.bool true)) (e6 : f3 ρ = some d)
 (h1 : autoParam (∀ env, starEach [a1, a2] env = (false, eval a1 env) :: starEach [a2] env) aR) (h2 : autoParam (∀ env, (backTo cp (starEach [a2] env)).any (·.1) = false) aR) (hd : autoParam ((x == ("__debug__" : Str)) = false) aD) (hm : autoParam (behindInMarks .Eq r = false) aW) :
 wpAny C.M A (exec (.Return (some (.BoolOp .And [.Compare (.Call (.Name x tp) [a1, a2] [] cp) [.Eq] [r] qp, e3] bp)) pos) env) (D4 T P s d) dq s := by
 have hT := F.inP _ _ PT
 refine n4 (F.offT hT) fun lT cT oT => ?_
 have fe := F.fe
 rw [show ay ([] : List (Str × Addr)) = [] from rfl, bb] at fe
 refine wpAny_Return_some ?_
 show wpAny C.M A (boolOp bp .And (evalEach [.Compare (.Call (.Name x tp) [a1, a2] [] cp) [.Eq] [r] qp, e3] env)) _ _ s
 show wpAny C.M A (do
  let v <- eval (.Compare (.Call (.Name x tp) [a1, a2] [] cp) [.Eq] [r] qp) env
  standAt bp
  let t <- holding [v] (truthy v)
  match BoolOp.And, t with
  | .And, false | .Or, true => pure v
  | _, _ => boolOp bp .And (evalEach [e3] env)) _ _ s
 have KT' : ∀ {K' : KM} {h : Heap}, bw K h K' -> h.get? T = some (tabObj #[]) -> K' T = none := fun {K' h} g e => by
  cases q : K' T with
  | none => rfl
  | some o =>
   rcases g.2 _ _ q with w | w
   . rw [KT] at w; exact nS w
   . rw [e] at w; exact sN w
 refine bk fa.ex fun o fd hoa hda _ => ?_
 refine wpAny_bind (wpAny_Compare1 (hM ok hk hg (bg.func hoa hda) hl hA he fe e1 h1 h2 hd fun vs ap s₁ av aA aB k₁ aq => ?_) hm)
 have nr := F.keeps k₁.get av aA
 refine wpAny_mono (sC (K := ap) (T := T) ok fa hcd hC hB hb hA aA aq.base (k₁.get _ _ hT) (KT' av hT) aB e2) (fun v an q => ?_) fun _ _ x => x
 obtain ⟨⟨cI, l₂, n₂, bW, ek⟩, keep, ⟨ps, tab⟩, sm⟩ := q
 have bE := ((nr.lessP (P' := fun a => if a = T then none else P a) fun a o e => by
  by_cases q : a = T
  . simp only [if_pos q, reduceCtorEq] at e
  . simp only [if_neg q] at e; exact e).but keep (KT' av hT) (by simp) lT cT oT).moreK l₂ bW fun a o e => (n₂ a o e).imp id fun q => by
    rcases q with q | rfl
    . refine ⟨fun w => ?_, fun x w => ?_⟩
      . refine hY nr.fe.ns fun m o' _ _ e' _ => ?_
        rw [<- w, q] at e'; exact nS e'
      . refine Ex (nr.fe.cl x _ w) fun o' e' => ?_; rw [q] at e'; exact nS e'
    . exact ⟨lT, cT⟩
 have tf := bE.fe
 rw [show ay ([] : List (Str × Addr)) = [] from rfl, bb] at tf
 refine wpAny_mono (hr.run A env cI ρ an dr hA he tf e4) (fun w cX q => ?_) fun _ _ x => x
 obtain ⟨⟨dX, dN, jW, mz⟩, dR⟩ := q
 refine wpAny_mono (bK A dX cX v w dT dr _ (hA.le (Nat.zero_le _)) jW (ek.mono dN.1) mz e5) (fun u cU q => ?_) fun _ _ x => x
 obtain ⟨⟨n5, mr, vg, vy⟩, eY⟩ := q
 rw [dW vy]
 refine wpAny_bind (wpAny_standAt (wpAny_bind (wpAny_holding (wpAny_truthy_bool ?_))))
 show wpAny C.M A (eval e3 env) _ dq cU
 have gw := (bE.keeps dR.get dN jW).keeps eY.get mr vg
 have Dn := gw.fe
 rw [show ay ([] : List (Str × Addr)) = [] from rfl, bb] at Dn
 refine wpAny_mono (h3.run A env n5 ρ cU d hA he Dn e6) (fun u B8 q => ?_) fun _ _ x => x
 obtain ⟨⟨nw, GW, i₅, I3⟩, Hf⟩ := q
 have qZ := dR.trans (eY.trans Hf)
 exact ⟨(d8 nw u rfl i₅ I3), fun b o q e => qZ.get _ _ (keep _ _ q (k₁.get _ _ (F.inP _ _ e))), ⟨ps, qZ.get _ _ tab⟩, (bh.of k₁).trans (sm.trans (bh.of qZ))⟩
end
section
open PySem PySem.Calls PyProof.Rows
structure n6 where
 flags : Int -> Option D
 b3 : Int -> Option D
 exact : List Nat -> Option D
 ntOff : Int
 endM : Int
 b1 : Int -> Bool
 c6 : Int -> Bool
 c7 : Int -> Bool
 c8 : Int -> Bool
 c9 : Int -> Bool
structure cY (C : dd) (t : n6) : Prop where
 FLAGS : lG C "COMPILER_FLAG_NAMES" t.flags
 B3 : lG C "b3_exceptions" t.b3
 EXACT : nb C "EXACT_TOKEN_TYPES" t.exact
 NT_OFFSET : ∃ k, aw C "NT_OFFSET" (.int t.ntOff k)
 ENDMARKER : ∃ k, aw C "ENDMARKER" (.int t.endM k)
 b1_set : kU C "b1_set" t.b1
 c6_set : kU C "c6_set" t.c6
 c7_set : kU C "c7_set" t.c7
 c8_set : kU C "c8_set" t.c8
 c9_set : kU C "c9_set" t.c9
structure qs (C : dd) (n : Nat)  : Prop where
 nothing : True
noncomputable def lI (t : n6)  : PSigma fun g => ∀ {C : dd} {n : Nat}  (ok : C.Ok) (B : cw C) (G : cY C t) (U : qs C n ), ae C n (aQ ah 2) [] [] (bd ah 2) g := ⟨_, fun {C n}   ok B G U =>
 (ae.top (au.ret (aM.of (ab.inSet ok G.b1_set (ab.call ok B.ord (bg.builtin _) jb (aa.cons nA aa.nil)) (by kernel_rfl))))
 ae.nil)⟩
structure oH (C : dd) (n : Nat)  : Prop where
 nothing : True
noncomputable def kK (t : n6)  : PSigma fun g => ∀ {C : dd} {n : Nat}  (ok : C.Ok) (B : cw C) (G : cY C t) (U : oH C n ), ae C n (aQ ah 4) [] [] (bd ah 4) g := ⟨_, fun {C n}   ok B G U =>
 (ae.top (au.assign (aM.of (ab.get1 ok G.B3 (ab.call ok B.ord (bg.builtin _) jb (aa.cons nA aa.nil)) (by kernel_rfl))))
 (ae.top (au.if_ (dP.of (bj.cmp nA (ab.none_ _ _) p9)) (ae.cons (au.ret (aM.of nA))
 ae.nil) ae.nil)
 (ae.top (au.ret (aM.of (ab.lower nA)))
 ae.nil)))⟩
structure qt (C : dd) (n : Nat)  : Prop where
 nothing : True
noncomputable def lJ (t : n6)  : PSigma fun g => ∀ {C : dd} {n : Nat}  (ok : C.Ok) (B : cw C) (G : cY C t) (U : qt C n ), ae C n (aQ ah 5) [] [] (bd ah 5) g := ⟨_, fun {C n}   ok B G U =>
 (ae.top (au.assign (aM.of (ab.call ok B.ord (bg.builtin _) jb (aa.cons nA aa.nil))))
 (ae.top (au.if_ (dP.of (bj.cmp nA iA cu)) (ae.cons (au.ret (aM.of bA))
 ae.nil) ae.nil)
 (ae.top (au.if_ (dP.of (bj.cmp nA iA cu)) (ae.cons (au.ret (aM.of bA))
 ae.nil) ae.nil)
 (ae.top (au.ret (aM.of (ab.cmp (ab.bin (ab.call ok B.ord (bg.builtin _) jb (aa.cons nA aa.nil)) iA dZ) (ab.tuple (aa.cons iA (aa.cons iA aa.nil))) io)))
 ae.nil))))⟩
structure qu (C : dd) (n : Nat)  : Prop where
 nothing : True
noncomputable def lM (t : n6)  : PSigma fun g => ∀ {C : dd} {n : Nat}  (ok : C.Ok) (B : cw C) (G : cY C t) (U : qu C n ), ae C n (aQ ah 7) [] [] (bd ah 7) g := ⟨_, fun {C n}   ok B G U =>
 (ae.top (au.ret (aM.of (ab.inSet ok G.c6_set (ab.call ok B.ord (bg.builtin _) jb (aa.cons nA aa.nil)) (by kernel_rfl))))
 ae.nil)⟩
structure qv (C : dd) (n : Nat)  : Prop where
 nothing : True
noncomputable def lQ (t : n6)  : PSigma fun g => ∀ {C : dd} {n : Nat}  (ok : C.Ok) (B : cw C) (G : cY C t) (U : qv C n ), ae C n (aQ ah 9) [] [] (bd ah 9) g := ⟨_, fun {C n}   ok B G U =>
 (ae.top (au.ret (aM.of (ab.inSet ok G.c7_set (ab.call ok B.ord (bg.builtin _) jb (aa.cons nA aa.nil)) (by kernel_rfl))))
 ae.nil)⟩
structure qw (C : dd) (n : Nat)  : Prop where
 nothing : True
noncomputable def lR (t : n6)  : PSigma fun g => ∀ {C : dd} {n : Nat}  (ok : C.Ok) (B : cw C) (G : cY C t) (U : qw C n ), ae C n (aQ ah 11) [] [] (bd ah 11) g := ⟨_, fun {C n}   ok B G U =>
 (ae.top (au.ret (aM.of (ab.inSet ok G.c8_set (ab.call ok B.ord (bg.builtin _) jb (aa.cons nA aa.nil)) (by kernel_rfl))))
 ae.nil)⟩
structure qx (C : dd) (n : Nat)  : Prop where
 nothing : True
noncomputable def lU (t : n6)  : PSigma fun g => ∀ {C : dd} {n : Nat}  (ok : C.Ok) (B : cw C) (G : cY C t) (U : qx C n ), ae C n (aQ ah 13) [] [] (bd ah 13) g := ⟨_, fun {C n}   ok B G U =>
 (ae.top (au.ret (aM.of (ab.inSet ok G.c9_set (ab.call ok B.ord (bg.builtin _) jb (aa.cons nA aa.nil)) (by kernel_rfl))))
 ae.nil)⟩
structure oJ (C : dd) (n : Nat)  : Prop where
 nothing : True
noncomputable def iy (t : n6)  : PSigma fun g => ∀ {C : dd} {n : Nat}  (ok : C.Ok) (B : cw C) (G : cY C t) (U : oJ C n ), ae C n (aQ ah 16) [] [] (bd ah 16) g := ⟨_, fun {C n}   ok B G U =>
 (ae.top (au.own1 aa.nil (by kernel_rfl))
 (ae.top (au.for_ (bc.range ok B.range (aa.cons iA aa.nil)) (ae.cons (au.assign (aM.of (ab.bin iA nA qz)))
 (ae.cons (au.if_ (dP.of (bj.val (ab.bin nA nA dZ))) (ae.cons (au.append (aM.of (ab.get2 ok G.FLAGS nA (ab.call ok B.hex (bg.builtin _) zS (aa.cons nA aa.nil)) (by kernel_rfl))) (by kernel_rfl) (by decide))
 (ae.cons (au.augXor nA (by kernel_rfl) (by kernel_rfl))
 (ae.cons (au.if_ (dP.of (bj.not (bj.val nA))) (ae.cons au.brk
 ae.nil) ae.nil)
 ae.nil))) ae.nil)
 ae.nil)) (ae.cons (au.append (aM.of (ab.call ok B.hex (bg.builtin _) zS (aa.cons nA aa.nil))) (by kernel_rfl) (by decide))
 ae.nil))
 (ae.top (au.ret (aM.flat (ab.meth1 sA nA ni PySem.F.slot_str_join PySem.F.type_str_join)))
 ae.nil)))⟩
structure sn (C : dd) (n : Nat)  : Prop where
 nothing : True
noncomputable def jO (t : n6)  : PSigma fun g => ∀ {C : dd} {n : Nat}  (ok : C.Ok) (B : cw C) (G : cY C t) (U : sn C n ), ae C n (aQ ah 73) [] [] (bd ah 73) g := ⟨_, fun {C n}   ok B G U =>
 (ae.top (au.ret (aM.of (ab.cmp nA (ab.globInt ok G.NT_OFFSET (by kernel_rfl)) cu)))
 ae.nil)⟩
structure nz (C : dd) (n : Nat)  : Prop where
 nothing : True
noncomputable def i2 (t : n6)  : PSigma fun g => ∀ {C : dd} {n : Nat}  (ok : C.Ok) (B : cw C) (G : cY C t) (U : nz C n ), ae C n (aQ ah 74) [] [] (bd ah 74) g := ⟨_, fun {C n}   ok B G U =>
 (ae.top (au.ret (aM.of (ab.cmp nA (ab.globInt ok G.NT_OFFSET (by kernel_rfl)) zc)))
 ae.nil)⟩
structure Go (C : dd) (n : Nat)  : Prop where
 nothing : True
noncomputable def uR (t : n6)  : PSigma fun g => ∀ {C : dd} {n : Nat}  (ok : C.Ok) (B : cw C) (G : cY C t) (U : Go C n ), ae C n (aQ ah 75) [] [] (bd ah 75) g := ⟨_, fun {C n}   ok B G U =>
 (ae.top (au.ret (aM.of (ab.cmp nA (ab.globInt ok G.ENDMARKER (by kernel_rfl)) bK)))
 ae.nil)⟩
structure wV (C : dd) (n : Nat)  : Prop where
 nothing : True
noncomputable def d_law_mix (t : n6)  : PSigma fun g => ∀ {C : dd} {n : Nat}  (ok : C.Ok) (B : cw C) (G : cY C t) (U : wV C n ), ae C n (aQ ah 77) [] [] (bd ah 77) g := ⟨_, fun {C n}   ok B G U =>
 (ae.top (au.ret (aM.of (ab.bin (ab.bin (ab.bin (ab.bin (ab.bin nA iA dZ) (ab.bin (ab.bin iA nA fE) (ab.bin iA nA fE) dZ) ec) (ab.bin (ab.bin (ab.bin nA iA j5) iA dZ) (ab.bin (ab.bin iA nA fE) nA dZ) ec) uM) (ab.bin (ab.bin (ab.bin nA iA j5) iA dZ) (ab.bin nA (ab.bin iA nA fE) dZ) ec) uM) (ab.bin (ab.bin (ab.bin nA iA j5) iA dZ) (ab.bin nA nA dZ) ec) uM)))
 ae.nil)⟩
structure sp (C : dd) (n : Nat) (eJ : Value) (gf : List D -> Option D) : Prop where
 u_law_mix : cZ C n "_law_mix" eJ gf
noncomputable def d_law_items (t : n6) (gf : List D -> Option D) : PSigma fun g => ∀ {C : dd} {n : Nat} {eJ : Value} (ok : C.Ok) (B : cw C) (G : cY C t) (U : sp C n eJ gf), ae C n (aQ ah 78) [] [] (bd ah 78) g := ⟨_, fun {C n}  {eJ} ok B G U =>
 (ae.top (au.own1 aa.nil (by kernel_rfl))
 (ae.top (au.for_ (bc.name (ab.slice nA eA.none_ (eA.some_ (ab.bin iA (ab.bin (ab.item nA iA) iA bX) az)))) (ae.cons (au.assign (aM.of (ab.item (ab.tuple (aa.cons (ab.tuple (aa.cons iA (aa.cons iA aa.nil))) (aa.cons (ab.tuple (aa.cons iA (aa.cons iA aa.nil))) (aa.cons (ab.tuple (aa.cons iA (aa.cons iA aa.nil))) (aa.cons (ab.tuple (aa.cons iA (aa.cons iA aa.nil))) aa.nil))))) (ab.bin (ab.bin nA iA im) iA bX))))
 (ae.cons (au.append (aM.of (ab.tuple (aa.cons (ab.bin (ab.bin nA iA bX) iA az) (aa.cons nA (aa.cons (ab.call ok U.u_law_mix.1 U.u_law_mix.2 U.u_law_mix.3 (aa.cons (ab.bin nA iA bX) (aa.cons (ab.item (ab.tuple (aa.cons iA (aa.cons iA aa.nil))) (ab.item nA iA)) (aa.cons (ab.item (ab.tuple (aa.cons iA (aa.cons iA aa.nil))) (ab.item nA iA)) aa.nil)))) (aa.cons (ab.item (ab.tuple (aa.cons iA (aa.cons iA (aa.cons iA (aa.cons iA aa.nil))))) (ab.bin (ab.bin nA iA im) iA bX)) aa.nil)))))) (by kernel_rfl) (by decide))
 ae.nil)) ae.nil)
 (ae.freeze (ae.top (au.ret (aM.of nA))
 ae.nil))))⟩
structure oF (C : dd) (n : Nat) (eJ : Value) (gf : List D -> Option D) : Prop where
 u_law_mix : cZ C n "_law_mix" eJ gf
noncomputable def d_law_sayings (t : n6) (gf : List D -> Option D) : PSigma fun g => ∀ {C : dd} {n : Nat} {eJ : Value} (ok : C.Ok) (B : cw C) (G : cY C t) (U : oF C n eJ gf), ae C n (aQ ah 79) [] [] (bd ah 79) g := ⟨_, fun {C n}  {eJ} ok B G U =>
 (ae.top (au.own3 (x := "known") (y := "rows") (z := "done") (aa.cons iA (aa.cons iA aa.nil)) (aa.cons (ab.list (aa.cons iA aa.nil)) (aa.cons (ab.list (aa.cons iA aa.nil)) aa.nil)) iA (by kernel_rfl) (by kernel_rfl) (by kernel_rfl) (by kernel_rfl) (by intro env h; cases env; cases h; with_unfolding_all rfl))
 (ae.top (au.while_ (fun _ => 20) (dP.of (bj.boolOp (dz.and (bj.cmp nA (ab.call ok B.len (bg.builtin _) fK (aa.cons nA aa.nil)) cu) (dz.and (bj.cmp (ab.call ok B.len (bg.builtin _) fK (aa.cons nA aa.nil)) iA cu) dz.andNil)))) (ae.cons (au.for_ (bc.range ok B.range (aa.cons (ab.bin nA iA az) aa.nil)) (ae.cons (au.for_ (bc.names nA) (ae.cons (au.for_ (bc.name (ab.tuple (aa.cons (ab.tuple (aa.cons nA (aa.cons nA aa.nil))) (aa.cons (ab.tuple (aa.cons nA (aa.cons nA aa.nil))) aa.nil)))) (ae.cons (au.assign (aM.flat (ab.call ok U.u_law_mix.1 U.u_law_mix.2 U.u_law_mix.3 (aa.cons nA (aa.cons (ab.item nA (ab.item nA iA)) (aa.cons (ab.item nA (ab.item nA iA)) aa.nil))))))
 (ae.cons (au.if_ (dP.of (bj.cmp nA nA x7)) (ae.cons (au.append (aM.of nA) (by kernel_rfl) (by decide))
 (ae.cons (au.append (aM.fresh (ab.bin (ab.list (aa.cons nA aa.nil)) (ab.item nA (ab.item nA (ab.item nA iA))) az) (ab.item nA (ab.item nA (ab.item nA iA)))) (by kernel_rfl) (by decide))
 ae.nil)) ae.nil)
 ae.nil)) ae.nil)
 ae.nil) ae.nil)
 ae.nil) ae.nil)
 (ae.cons (au.assign (aM.of (ab.bin nA iA az)))
 ae.nil)) ae.nil)
 (ae.freeze (ae.freeze (ae.top (au.ret (aM.of (ab.tuple (aa.cons nA (aa.cons nA aa.nil)))))
 ae.nil)))))⟩
structure so (C : dd) (n : Nat)  : Prop where
 nothing : True
noncomputable def d_law_codes (t : n6)  : PSigma fun g => ∀ {C : dd} {n : Nat}  (ok : C.Ok) (B : cw C) (G : cY C t) (U : so C n ), ae C n (aQ ah 80) [] [] (bd ah 80) g := ⟨_, fun {C n}   ok B G U =>
 (ae.top (au.assign (aM.of (ab.meth1 sA sA tF PySem.F.slot_str_split PySem.F.type_str_split)))
 (ae.top (au.assign (aM.of (ab.meth1 sA (ab.comp (ba.one (bc.name nA) b9.nil (ab.ifexp (bj.cmp nA iA cu) (ab.bin (ab.item nA (ab.bin nA iA fE)) sA az) (ab.item sA (ab.bin nA iA fE))))) ni PySem.F.slot_str_join PySem.F.type_str_join)))
 (ae.top (au.assign (aM.of (ab.tuple (aa.cons iA (aa.cons (ab.neg iA) (aa.cons iA (aa.cons iA (aa.cons iA (aa.cons iA (aa.cons iA (aa.cons iA (aa.cons iA (aa.cons iA (aa.cons iA (aa.cons iA aa.nil)))))))))))))))
 (ae.top (au.assign (aM.of (ab.bin (ab.bin (ab.bin (ab.bin (ab.bin (ab.bin (ab.bin (ab.list (aa.cons iA (aa.cons iA (aa.cons iA (aa.cons iA (aa.cons iA aa.nil)))))) (ab.listRange ok B.list B.range (aa.cons iA (aa.cons iA aa.nil))) az) (ab.listRange ok B.list B.range (aa.cons iA (aa.cons iA aa.nil))) az) (ab.listRange ok B.list B.range (aa.cons iA (aa.cons iA aa.nil))) az) (ab.listRange ok B.list B.range (aa.cons iA (aa.cons iA aa.nil))) az) (ab.listRange ok B.list B.range (aa.cons iA (aa.cons iA aa.nil))) az) (ab.listRange ok B.list B.range (aa.cons iA (aa.cons iA aa.nil))) az) (ab.comp (ba.two (bc.range ok B.range (aa.cons iA (aa.cons iA aa.nil))) b9.nil (bc.name (ab.tuple (aa.cons iA (aa.cons iA aa.nil)))) b9.nil (ab.bin (ab.bin iA nA ec) nA az) (by kernel_rfl) (by kernel_rfl) (by kernel_rfl) (by kernel_rfl) (by kernel_rfl))) az)))
 (ae.top (au.assign (aM.of (ab.list (aa.cons (ab.tuple (aa.cons sA (aa.cons iA aa.nil))) (aa.cons (ab.tuple (aa.cons sA (aa.cons iA aa.nil))) (aa.cons (ab.tuple (aa.cons sA (aa.cons iA aa.nil))) (aa.cons (ab.tuple (aa.cons sA (aa.cons iA aa.nil))) (aa.cons (ab.tuple (aa.cons sA (aa.cons iA aa.nil))) (aa.cons (ab.tuple (aa.cons sA (aa.cons iA aa.nil))) aa.nil)))))))))
 (ae.top (au.assign (aM.of (ab.bin (ab.list (aa.cons iA (aa.cons iA (aa.cons iA (aa.cons iA (aa.cons iA (aa.cons iA (aa.cons iA (aa.cons iA (aa.cons iA (aa.cons iA (aa.cons iA aa.nil)))))))))))) (ab.listRange ok B.list B.range (aa.cons iA (aa.cons iA aa.nil))) az)))
 (ae.top (au.tupSet (xs := ["codes", "place"]) (aM.of (ab.tuple (aa.cons (ab.list aa.nil) (aa.cons iA aa.nil)))) (by kernel_rfl) (by kernel_rfl) (by intro env h; cases env; cases h; with_unfolding_all rfl) (by intro env h; cases env; cases h; with_unfolding_all rfl))
 (ae.top (au.while_ (fun _ => 100000) (dP.of (bj.cmp nA (ab.call ok B.len (bg.builtin _) fK (aa.cons nA aa.nil)) cu)) (ae.cons (au.swap (xs := ["draw", "sign"]) (aM.of (ab.tuple (aa.cons (ab.bin nA (ab.bin nA nA ec) az) (aa.cons (ab.item nA nA) aa.nil)))) (by kernel_rfl) (by intro env h; cases env; cases h; with_unfolding_all rfl))
 (ae.cons (au.compSet (ba.one (bc.name (ab.ifexp (bj.cmp nA sA io) nA (ab.list aa.nil))) (b9.one (bj.cmp (ab.slice nA (eA.some_ nA) (eA.some_ (ab.bin nA (ab.call ok B.len (bg.builtin _) fK (aa.cons (ab.item nA iA) aa.nil)) az))) (ab.item nA iA) bK)) nA) (by kernel_rfl) (by intro env h; cases env; cases h; with_unfolding_all rfl))
 (ae.cons (au.assign (aM.of (ab.bin (ab.bin nA iA im) (ab.ifexp (bj.cmp nA sA bK) (ab.call ok B.len (bg.builtin _) fK (aa.cons nA aa.nil)) (ab.ifexp (bj.cmp nA sA io) (ab.bin iA (ab.bin iA (ab.call ok B.len (bg.builtin _) fK (aa.cons nA aa.nil)) ec) az) iA)) bX)))
 (ae.cons (au.tupSet (xs := ["part", "code"]) (aM.of (ab.ifexp (bj.cmp nA sA bK) (ab.tuple (aa.cons nA (aa.cons (ab.item nA nA) aa.nil))) (ab.ifexp (bj.cmp nA iA cu) (ab.tuple (aa.cons nA (aa.cons (ab.bin (ab.call ok B.ord (bg.builtin _) jb (aa.cons nA aa.nil)) (ab.item nA nA) az) aa.nil))) (ab.item nA (ab.bin (ab.bin nA iA fE) (ab.call ok B.len (bg.builtin _) fK (aa.cons nA aa.nil)) bX))))) (by kernel_rfl) (by kernel_rfl) (by intro env h; cases env; cases h; with_unfolding_all rfl) (by intro env h; cases env; cases h; with_unfolding_all rfl))
 (ae.cons (au.tupSet (xs := ["codes", "place"]) (aM.of (ab.tuple (aa.cons (ab.bin (ab.bin nA (ab.list (aa.cons nA aa.nil)) az) (ab.slice (ab.slice nA (eA.some_ (ab.bin (ab.bin nA iA im) iA bX)) eA.none_) eA.none_ (eA.some_ iA)) az) (aa.cons (ab.bin nA (ab.call ok B.len (bg.builtin _) fK (aa.cons nA aa.nil)) az) aa.nil)))) (by kernel_rfl) (by kernel_rfl) (by intro env h; cases env; cases h; with_unfolding_all rfl) (by intro env h; cases env; cases h; with_unfolding_all rfl))
 ae.nil))))) ae.nil)
 (ae.top (au.ret (aM.of (ab.tuple (aa.cons nA (aa.cons nA aa.nil)))))
 ae.nil)))))))))⟩
structure qr (C : dd) (n : Nat) (gR : Value) (je : List D -> Option D) (gS : Value) (jf : List D -> Option D) (gU : Value) (jg : List D -> Option D) (gV : Value) (jh : List D -> Option D) (gW : Value) (ji : List D -> Option D) (gX : Value) (jj : List D -> Option D) : Prop where
 uin_table_b1 : cZ C n "in_table_b1" gR je
 uin_table_c4 : cZ C n "in_table_c4" gS jf
 uin_table_c6 : cZ C n "in_table_c6" gU jg
 uin_table_c7 : cZ C n "in_table_c7" gV jh
 uin_table_c8 : cZ C n "in_table_c8" gW ji
 uin_table_c9 : cZ C n "in_table_c9" gX jj
noncomputable def d_law_judged (t : n6) (je jf jg jh ji jj : List D -> Option D) : PSigma fun g => ∀ {C : dd} {n : Nat} {gR gS gU gV gW gX : Value} (ok : C.Ok) (B : cw C) (G : cY C t) (U : qr C n gR je gS jf gU jg gV jh gW ji gX jj), ae C n (aQ ah 82) [] [] (bd ah 82) g := ⟨_, fun {C n}  {gR} {gS} {gU} {gV} {gW} {gX} ok B G U =>
 (ae.top (au.assign (aM.of (ab.call ok B.chr (bg.builtin _) zR (aa.cons nA aa.nil))))
 (ae.top (au.assign (aM.of (ab.list (aa.cons (ab.boolOp (cQ.or (ab.cmp nA (ab.tuple (aa.cons iA (aa.cons iA (aa.cons iA (aa.cons iA (aa.cons iA aa.nil)))))) io) (cQ.or (ab.cmp2 iA nA iA cu cu) (cQ.or (ab.cmp2 iA nA iA cu cu) (cQ.one (ab.cmp2 iA nA iA cu cu)))))) (aa.cons (ab.boolOp (cQ.or (ab.cmp2 iA nA iA cu cu) (cQ.one (ab.cmp (ab.bin nA iA bX) iA qH)))) (aa.cons (ab.cmp2 iA nA iA cu cu) (aa.cons (ab.cmp2 iA nA iA cu cu) (aa.cons (ab.boolOp (cQ.or (ab.cmp nA (ab.tuple (aa.cons iA (aa.cons iA (aa.cons iA (aa.cons iA aa.nil))))) io) (cQ.or (ab.cmp2 iA nA iA cu cu) (cQ.one (ab.cmp2 iA nA iA cu cu))))) (aa.cons (ab.boolOp (cQ.or (ab.cmp nA iA bK) (cQ.one (ab.cmp2 iA nA iA cu cu)))) aa.nil)))))))))
 (ae.top (au.assign (aM.of (ab.list (aa.cons (ab.call ok U.uin_table_b1.1 U.uin_table_b1.2 U.uin_table_b1.3 (aa.cons nA aa.nil)) (aa.cons (ab.call ok U.uin_table_c4.1 U.uin_table_c4.2 U.uin_table_c4.3 (aa.cons nA aa.nil)) (aa.cons (ab.call ok U.uin_table_c6.1 U.uin_table_c6.2 U.uin_table_c6.3 (aa.cons nA aa.nil)) (aa.cons (ab.call ok U.uin_table_c7.1 U.uin_table_c7.2 U.uin_table_c7.3 (aa.cons nA aa.nil)) (aa.cons (ab.call ok U.uin_table_c8.1 U.uin_table_c8.2 U.uin_table_c8.3 (aa.cons nA aa.nil)) (aa.cons (ab.call ok U.uin_table_c9.1 U.uin_table_c9.2 U.uin_table_c9.3 (aa.cons nA aa.nil)) aa.nil)))))))))
 (ae.top (au.ret (aM.of (ab.ifexp (bj.boolOp (dz.and (bj.cmp nA nA bK) (dz.and (bj.val (ab.call ok B.all (bg.builtin _) nP (aa.cons (ab.comp (ba.one (bc.name nA) b9.nil (ab.boolOp (cQ.or (ab.cmp nA bA nE) (cQ.one (ab.cmp nA bA nE)))))) aa.nil))) dz.andNil))) nA (ab.list aa.nil))))
 ae.nil))))⟩
structure oG (C : dd) (n : Nat)  : Prop where
 nothing : True
noncomputable def d_law_symbols (t : n6)  : PSigma fun g => ∀ {C : dd} {n : Nat}  (ok : C.Ok) (B : cw C) (G : cY C t) (U : oG C n ), ae C n (aQ ah 83) [] [] (bd ah 83) g := ⟨_, fun {C n}   ok B G U =>
 (ae.top (au.assign (aM.of (ab.list aa.nil)))
 (ae.top (au.while_ (fun _ => 100000) (dP.of (bj.cmp nA sA j8)) (ae.cons (au.assign (aM.of (ab.item (ab.comp (ba.one (bc.name (ab.tuple (aa.cons iA (aa.cons iA (aa.cons iA aa.nil))))) (b9.one (bj.boolOp (dz.or (bj.inTab ok G.EXACT (ab.slice nA eA.none_ (eA.some_ nA)) (by kernel_rfl)) (dz.or (bj.cmp nA iA bK) dz.orNil)))) (ab.slice nA eA.none_ (eA.some_ nA)))) iA)))
 (ae.cons (au.tupSet (xs := ["row", "text"]) (aM.of (ab.tuple (aa.cons (ab.bin nA (ab.ifexp (bj.inTab ok G.EXACT nA (by kernel_rfl)) (ab.list (aa.cons (ab.itemTab ok G.EXACT nA (by kernel_rfl)) aa.nil)) (ab.comp (ba.one (bc.name nA) (b9.one (bj.cmp nA sA j8)) (ab.bin iA (ab.meth1 sA nA Aw PySem.F.slot_str_index PySem.F.type_str_index) az)))) az) (aa.cons (ab.slice nA (eA.some_ (ab.call ok B.len (bg.builtin _) fK (aa.cons nA aa.nil))) eA.none_) aa.nil)))) (by kernel_rfl) (by kernel_rfl) (by intro env h; cases env; cases h; with_unfolding_all rfl) (by intro env h; cases env; cases h; with_unfolding_all rfl))
 ae.nil)) ae.nil)
 (ae.top (au.ret (aM.of nA))
 ae.nil)))⟩
structure sq (C : dd) (n : Nat)  : Prop where
 nothing : True
noncomputable def d_law_keeps (t : n6)  : PSigma fun g => ∀ {C : dd} {n : Nat}  (ok : C.Ok) (B : cw C) (G : cY C t) (U : sq C n ), ae C n (aQ ah 85) [] [] (bd ah 85) g := ⟨_, fun {C n}   ok B G U =>
 (ae.top (au.tupSet (xs := ["a", "b", "c", "d"]) (aM.of (ab.comp (ba.one (bc.range ok B.range (aa.cons iA aa.nil)) b9.nil (ab.bin (ab.bin nA nA j5) iA dZ)))) (by kernel_rfl) (by kernel_rfl) (by intro env h; cases env; cases h; with_unfolding_all rfl) (by intro env h; cases env; cases h; with_unfolding_all rfl))
 (ae.top (au.swap (xs := ["meets", "joins"]) (aM.of (ab.tuple (aa.cons (ab.boolOp (cQ.and (ab.cmp nA (ab.bin nA nA ec) bK) (cQ.and (ab.cmp nA nA j7) (cQ.one (ab.cmp nA nA j7))))) (aa.cons (ab.boolOp (cQ.and (ab.cmp nA (ab.call ok B.max (bg.builtin _) GO (aa.cons nA (aa.cons nA aa.nil))) bK) (cQ.and (ab.cmp nA nA j7) (cQ.one (ab.cmp nA nA j7))))) aa.nil)))) (by kernel_rfl) (by intro env h; cases env; cases h; with_unfolding_all rfl))
 (ae.top (au.ret (aM.of (ab.list (aa.cons (ab.cmp nA iA bK) (aa.cons (ab.cmp nA iA bK) (aa.cons (ab.boolOp (cQ.and (ab.cmp2 nA nA nA j7 j7) (cQ.one (ab.cmp2 nA nA nA j7 j7)))) (aa.cons (ab.boolOp (cQ.and (ab.cmp nA nA j8) (cQ.one (ab.cmp nA nA j8)))) (aa.cons (ab.cmp (ab.bin (ab.bin (ab.bin (ab.bin nA nA az) nA az) nA az) iA bX) iA bK) (aa.cons (ab.boolOp (cQ.and (ab.cmp nA iA bK) (cQ.one (ab.cmp (ab.bin nA nA ec) iA bK)))) (aa.cons (ab.boolOp (cQ.and (ab.cmp nA iA bK) (cQ.one (ab.cmp (ab.bin nA nA az) iA qH)))) (aa.cons nA (aa.cons nA (aa.cons (ab.boolOp (cQ.or (ab.boolOp (cQ.and (ab.cmp nA nA bK) (cQ.one (ab.cmp nA nA bK)))) (cQ.one (ab.boolOp (cQ.and (ab.cmp nA nA bK) (cQ.one (ab.cmp nA nA bK))))))) aa.nil)))))))))))))
 ae.nil)))⟩
structure sr (C : dd) (n : Nat)  : Prop where
 nothing : True
noncomputable def d_law_words (t : n6)  : PSigma fun g => ∀ {C : dd} {n : Nat}  (ok : C.Ok) (B : cw C) (G : cY C t) (U : sr C n ), ae C n (aQ ah 86) [] [] (bd ah 86) g := ⟨_, fun {C n}   ok B G U =>
 (ae.top (au.swap (xs := ["high", "figures"]) (aM.of (ab.tuple (aa.cons (ab.bin nA iA j5) (aa.cons sA aa.nil)))) (by kernel_rfl) (by intro env h; cases env; cases h; with_unfolding_all rfl))
 (ae.top (au.while_ (fun _ => 100000) (dP.of (bj.cmp nA iA qH)) (ae.cons (au.swap (xs := ["high", "figures"]) (aM.of (ab.tuple (aa.cons (ab.bin nA iA im) (aa.cons (ab.bin (ab.item sA (ab.bin nA iA bX)) nA az) aa.nil)))) (by kernel_rfl) (by intro env h; cases env; cases h; with_unfolding_all rfl))
 ae.nil) ae.nil)
 (ae.top (au.ret (aM.of (ab.meth1 sA (ab.boolOp (cQ.or (ab.bin (ab.comp (ba.one (bc.enum ok B.enumerate (aa.cons nA aa.nil) (by kernel_rfl)) (b9.one (bj.val (ab.bin (ab.bin nA nA j5) iA dZ))) nA)) (ab.slice (ab.list (aa.cons (ab.bin sA nA az) aa.nil)) eA.none_ (eA.some_ (ab.bin nA iA j5))) az) (cQ.one (ab.list (aa.cons sA aa.nil))))) ni PySem.F.slot_str_join PySem.F.type_str_join)))
 ae.nil)))⟩
end
section
open PySem PySem.Calls PyProof.Rows PySem.W
noncomputable def pF : List Stmt -> Stmt
 | [] => .Pass default
 | [s] => s
 | _ :: r => pF r
noncomputable def As : Stmt -> Expr
 | .Return (some (.BoolOp _ [_, e] _)) _ => e
 | _ => .Constant .none 0 default
noncomputable def wl : Stmt -> Expr
 | .Return (some (.BoolOp _ [.Compare _ _ [r] _, _] _)) _ => r
 | _ => .Constant .none 0 default
noncomputable def jX : Stmt -> List Expr
 | .Return (some (.BoolOp _ [.Compare (.Call _ a _ _) _ _ _, _] _)) _ => a
 | _ => []
noncomputable def vj : Stmt -> Pos
 | .Return (some (.BoolOp _ [.Compare (.Call _ _ _ p) _ _ _, _] _)) _ => p
 | _ => default
structure su (C : dd) (n : Nat) (ge : Value) (jc : List D -> Option D) (bi : Value) (ch : List D -> Option D) (bP : Value) (dB : List D -> Option D) (bQ : Value) (dC : List D -> Option D) (bS : Value) (dD : List D -> Option D) (bD : Value) (d5 : List D -> Option D) (bT : Value) (dF : List D -> Option D) (bn : Value) (cy : List D -> Option D) (bo : Value) (cz : List D -> Option D) (bU : Value) (dG : List D -> Option D) (bq : Value) (cA : List D -> Option D) (br : Value) (cD : List D -> Option D) : Prop where
 uISEOF : cZ C n "ISEOF" ge jc
 uISNONTERMINAL : cZ C n "ISNONTERMINAL" bi ch
 uISTERMINAL : cZ C n "ISTERMINAL" bP dB
 u_law_codes : cZ C n "_law_codes" bQ dC
 u_law_items : cZ C n "_law_items" bS dD
 u_law_judged : cZ C n "_law_judged" bD d5
 u_law_keeps : cZ C n "_law_keeps" bT dF
 u_law_sayings : cZ C n "_law_sayings" bn cy
 u_law_symbols : cZ C n "_law_symbols" bo cz
 u_law_words : cZ C n "_law_words" bU dG
 umap_table_b3 : cZ C n "map_table_b3" bq cA
 upretty_flags : cZ C n "pretty_flags" br cD
noncomputable def zA (t : n6) (jc ch dB dC dD d5 dF cy cz dG cA cD : List D -> Option D) : PSigma fun g => ∀ {C : dd} {n : Nat} {ge bi bP bQ bS bD bT bn bo bU bq br : Value} (ok : C.Ok) (B : cw C) (G : cY C t) (U : su C (n + 2) ge jc bi ch bP dB bQ dC bS dD bD d5 bT dF bn cy bo cz bU dG bq cA br cD) {aR : Addr} (R : jK C aR), bz C (n + 2) (aQ ah 87) [] [] (bd ah 87).dropLast g := ⟨_, fun {C n ge bi bP bQ bS bD bT bn bo bU bq br} ok B G U {aR} R =>
 (bz.top (dy.of (au.own1 (aa.cons iA (aa.cons iA (aa.cons iA (aa.cons iA (aa.cons iA (aa.cons iA (aa.cons iA (aa.cons iA aa.nil)))))))) (by kernel_rfl)))
 (bz.top (dy.of (au.for_ (bc.enum ok B.enumerate (aa.cons (ab.slice nA eA.none_ (eA.some_ iA)) aa.nil) (by kernel_rfl)) (ae.cons (au.setItem (aM.flat (ab.bin (ab.bin (ab.item nA (ab.bin nA iA bX)) (ab.bin nA iA bX) az) iA az)) (aM.of (ab.bin nA iA bX)) (by kernel_rfl) (by decide) (by kernel_rfl) (by kernel_rfl))
 ae.nil) ae.nil))
 (bz.freeze (bz.top (dy.of (au.tupSet (xs := ["items", "goal", "shift"]) (aM.of (ab.tuple (aa.cons (ab.call ok U.u_law_items.1 U.u_law_items.2 U.u_law_items.3 (aa.cons nA aa.nil)) (aa.cons (ab.bin (ab.item nA iA) iA bX) (aa.cons (ab.bin (ab.item nA iA) iA bX) aa.nil))))) (by kernel_rfl) (by kernel_rfl) (by intro env h; cases env; cases h; with_unfolding_all rfl) (by intro env h; cases env; cases h; with_unfolding_all rfl)))
 (bz.top (dy.of (au.tupSet (xs := ["known", "rows"]) (aM.of (ab.call ok U.u_law_sayings.1 U.u_law_sayings.2 U.u_law_sayings.3 (aa.cons (ab.comp (ba.one (bc.name nA) (b9.one (bj.cmp (ab.item nA iA) iA bK)) nA)) aa.nil))) (by kernel_rfl) (by kernel_rfl) (by intro env h; cases env; cases h; with_unfolding_all rfl) (by intro env h; cases env; cases h; with_unfolding_all rfl)))
 (bz.top (dy.of (au.compSet (ba.one (bc.zip ok B.zip (aa.cons nA (aa.cons nA aa.nil))) (b9.one (bj.boolOp (dz.and (bj.cmp nA nA bK) (dz.and (bj.cmp (ab.call ok B.len (bg.builtin _) fK (aa.cons nA aa.nil)) iA cu) dz.andNil)))) nA) (by kernel_rfl) (by intro env h; cases env; cases h; with_unfolding_all rfl)))
 (bz.top (dy.of (au.compSet (ba.two (bc.name (ab.bin nA (ab.comp (ba.one (bc.names nA) b9.nil (ab.bin (ab.list (aa.cons nA (aa.cons (ab.bin iA (ab.item nA iA) az) (aa.cons (ab.bin iA (ab.item nA iA) az) aa.nil)))) (ab.bin (ab.list (aa.cons iA aa.nil)) nA ec) az))) az)) b9.nil (bc.name nA) b9.nil nA (by kernel_rfl) (by kernel_rfl) (by kernel_rfl) (by kernel_rfl) (by kernel_rfl)) (by kernel_rfl) (by intro env h; cases env; cases h; with_unfolding_all rfl)))
 (bz.top (dy.of (au.tupSet (xs := ["codes", "plain"]) (aM.of (ab.call ok U.u_law_codes.1 U.u_law_codes.2 U.u_law_codes.3 (aa.cons nA (aa.cons (ab.item nA iA) (aa.cons (ab.item nA iA) aa.nil))))) (by kernel_rfl) (by kernel_rfl) (by intro env h; cases env; cases h; with_unfolding_all rfl) (by intro env h; cases env; cases h; with_unfolding_all rfl)))
 (bz.top (dy.of (au.compSet (ba.one (bc.enum ok B.enumerate (aa.cons nA aa.nil) (by kernel_rfl)) b9.nil (ab.bin (ab.bin (ab.bin (ab.list (aa.cons iA aa.nil)) (ab.bin (ab.bin (ab.bin nA iA bX) iA im) iA ec) ec) (ab.comp (ba.one (bc.name (ab.tuple (aa.cons iA (aa.cons iA (aa.cons iA aa.nil))))) (b9.one (bj.cmp nA (ab.bin iA nA vQ) zc)) (ab.bin iA (ab.bin (ab.bin nA (ab.bin iA nA vQ) im) iA bX) az))) az) (ab.list (aa.cons (ab.bin nA iA bX) aa.nil)) az)) (by kernel_rfl) (by intro env h; cases env; cases h; with_unfolding_all rfl)))
 (bz.top (dy.of (au.compSet (ba.two (bc.enum ok B.enumerate (aa.cons nA aa.nil) (by kernel_rfl)) b9.nil (bc.name nA) b9.nil (ab.bin nA (ab.bin iA (ab.bin nA iA bX) ec) az) (by kernel_rfl) (by kernel_rfl) (by kernel_rfl) (by kernel_rfl) (by kernel_rfl)) (by kernel_rfl) (by intro env h; cases env; cases h; with_unfolding_all rfl)))
 (bz.top (dy.read R (aM.of nA) rfl (by kernel_rfl) (by kernel_rfl))
 (bz.top (dy.ifRead R (dP.of (bj.cmp nA nA j8)) (aM.of (ab.slice nA eA.none_ (eA.some_ (ab.neg iA)))) (aM.of (ab.slice nA eA.none_ (eA.some_ (ab.neg iA)))) (dP.of (bj.not (bj.val (ab.call ok B.all (bg.builtin _) nP (aa.cons (ab.comp (ba.one (bc.name nA) b9.nil (ab.isInt ok B.isinstance B.int nA (by kernel_rfl) (by kernel_rfl)))) aa.nil))))) (ae.cons (au.ret (aM.of bA))
 ae.nil) rfl (by kernel_rfl))
 (bz.top (dy.of (au.compSet (ba.one (bc.name nA) b9.nil (ab.call ok U.u_law_judged.1 U.u_law_judged.2 U.u_law_judged.3 (aa.cons nA aa.nil))) (by kernel_rfl) (by intro env h; cases env; cases h; with_unfolding_all rfl)))
 (bz.top (dy.of (au.compSet (ba.two (bc.zip ok B.zip (aa.cons nA (aa.cons nA aa.nil))) (b9.one (bj.cmp bA (ab.slice nA (eA.some_ iA) eA.none_) io)) (bc.name (ab.tuple (aa.cons (ab.bin nA iA fE) (aa.cons (ab.bin (ab.bin nA iA az) iA bX) aa.nil)))) b9.nil (ab.call ok U.u_law_judged.1 U.u_law_judged.2 U.u_law_judged.3 (aa.cons nA aa.nil)) (by kernel_rfl) (by kernel_rfl) (by kernel_rfl) (by kernel_rfl) (by kernel_rfl)) (by kernel_rfl) (by intro env h; cases env; cases h; with_unfolding_all rfl)))
 (bz.top (dy.of (au.assign (aM.of (ab.meth1 sA (ab.comp (ba.one (bc.zip ok B.zip (aa.cons nA (aa.cons nA aa.nil))) b9.nil (ab.ifexp (bj.cmp nA (ab.list aa.nil) bK) sA (ab.ifexp (bj.val (ab.item nA iA)) sA (ab.ifexp (bj.cmp bA nA io) sA (ab.call ok U.umap_table_b3.1 U.umap_table_b3.2 U.umap_table_b3.3 (aa.cons (ab.call ok B.chr (bg.builtin _) zR (aa.cons nA aa.nil)) aa.nil))))))) ni PySem.F.slot_str_join PySem.F.type_str_join))))
 (bz.top (dy.of (au.assign (aM.of (ab.bin (ab.rev nA (eA.some_ (ab.neg iA))) (ab.list (aa.cons iA (aa.cons iA (aa.cons (ab.neg iA) (aa.cons (ab.item nA iA) (aa.cons (ab.neg (ab.item nA iA)) (aa.cons (ab.bin (ab.bin (ab.item nA iA) iA bX) iA fE) aa.nil))))))) az))))
 (bz.top (dy.of (au.compSet (ba.one (bc.name nA) b9.nil (ab.tuple (aa.cons (ab.call ok U.uISEOF.1 U.uISEOF.2 U.uISEOF.3 (aa.cons nA aa.nil)) (aa.cons (ab.call ok U.uISTERMINAL.1 U.uISTERMINAL.2 U.uISTERMINAL.3 (aa.cons nA aa.nil)) (aa.cons (ab.call ok U.uISNONTERMINAL.1 U.uISNONTERMINAL.2 U.uISNONTERMINAL.3 (aa.cons nA aa.nil)) aa.nil))))) (by kernel_rfl) (by intro env h; cases env; cases h; with_unfolding_all rfl)))
 (bz.top (dy.of (au.if_ (dP.of (bj.boolOp (dz.or (bj.cmp (ab.list aa.nil) nA io) (dz.or (bj.cmp nA nA j8) (dz.or (bj.cmp (ab.call ok U.u_law_symbols.1 U.u_law_symbols.2 U.u_law_symbols.3 (aa.cons nA aa.nil)) nA j8) (dz.or (bj.cmp nA (ab.comp (ba.one (bc.name nA) b9.nil (ab.tuple (aa.cons (ab.cmp nA iA bK) (aa.cons (ab.cmp nA iA cu) (aa.cons (ab.cmp nA iA qH) aa.nil)))))) j8) (dz.or (bj.not (bj.val (ab.call ok B.all (bg.builtin _) nP (aa.cons (ab.comp (ba.two (bc.name nA) b9.nil (bc.name nA) b9.nil (ab.boolOp (cQ.or (ab.cmp nA bA nE) (cQ.one (ab.cmp nA bA nE)))) (by kernel_rfl) (by kernel_rfl) (by kernel_rfl) (by kernel_rfl) (by kernel_rfl))) aa.nil)))) dz.orNil))))))) (ae.cons (au.ret (aM.of bA))
 ae.nil) ae.nil))
 (bz.top (dy.of (au.assign (aM.of (ab.bin (ab.bin (ab.list (aa.cons nA aa.nil)) (ab.call ok B.len (bg.builtin _) fK (aa.cons nA aa.nil)) ec) (ab.comp (ba.two (bc.names nA) b9.nil (bc.name (ab.slice (ab.list (aa.cons nA (aa.cons (ab.neg iA) aa.nil))) eA.none_ (eA.some_ (ab.bin iA nA az)))) b9.nil nA (by kernel_rfl) (by kernel_rfl) (by kernel_rfl) (by kernel_rfl) (by kernel_rfl))) az))))
 (bz.top (dy.of (au.assign (aM.of (ab.comp (ba.one (bc.range ok B.range (aa.cons iA aa.nil)) b9.nil (ab.call ok U.u_law_keeps.1 U.u_law_keeps.2 U.u_law_keeps.3 (aa.cons nA aa.nil))))) (by kernel_rfl) (by intro env h; cases env; cases h; with_unfolding_all rfl)))
 (bz.top (dy.of (au.assign (aM.of (ab.comp (ba.one (bc.range ok B.range (aa.cons iA aa.nil)) (b9.one (bj.val (ab.call ok B.all (bg.builtin _) nP (aa.cons (ab.comp (ba.one (bc.names nA) (b9.one (bj.cmp nA iA bK)) (ab.item (ab.item nA nA) nA))) aa.nil)))) nA))) (by kernel_rfl) (by intro env h; cases env; cases h; with_unfolding_all rfl)))
 (bz.top (dy.of (au.assign (aM.of (ab.bin (ab.meth1 sA sA tF PySem.F.slot_str_split PySem.F.type_str_split) (ab.comp (ba.one (bc.range ok B.range (aa.cons iA (aa.cons iA aa.nil))) b9.nil (ab.bin (ab.bin sA (ab.item sA (ab.bin nA iA bX)) az) (ab.bin sA (ab.bin nA iA im) ec) az))) az))))
 (bz.top (dy.of (au.assign (aM.of (ab.call ok B.sum (bg.builtin _) zT (aa.cons (ab.comp (ba.one (bc.range ok B.range (aa.cons iA aa.nil)) (b9.one (bj.val (ab.call ok B.all (bg.builtin _) nP (aa.cons (ab.comp (ba.one (bc.name nA) b9.nil (ab.item (ab.item nA nA) nA))) aa.nil)))) (ab.bin iA (ab.bin nA nA az) qz))) aa.nil)))))
 (bz.of ae.nil))))))))))))))))))))))))⟩
noncomputable def nG (t : n6) (jc ch dB dC dD d5 dF cy cz dG cA cD : List D -> Option D) : PSigma fun g => ∀ {C : dd} {n : Nat} {ge bi bP bQ bS bD bT bn bo bU bq br : Value} (ok : C.Ok) (B : cw C) (G : cY C t) (U : su C (n + 2) ge jc bi ch bP dB bQ dC bS dD bD d5 bT dF bn cy bo cz bU dG bq cA br cD) {aR : Addr} (R : jK C aR), aa C (n + 2) (aQ ah 87) (vj (pF (bd ah 87))) (jX (pF (bd ah 87))) g := ⟨_, fun {C n ge bi bP bQ bS bD bT bn bo bU bq br} ok B G U {aR} R =>
 (aa.cons nA (aa.cons nA aa.nil))⟩
noncomputable def qJ (t : n6) (jc ch dB dC dD d5 dF cy cz dG cA cD : List D -> Option D) : PSigma fun g => ∀ {C : dd} {n : Nat} {ge bi bP bQ bS bD bT bn bo bU bq br : Value} (ok : C.Ok) (B : cw C) (G : cY C t) (U : su C (n + 2) ge jc bi ch bP dB bQ dC bS dD bD d5 bT dF bn cy bo cz bU dG bq cA br cD) {aR : Addr} (R : jK C aR), ab C (n + 2) (aQ ah 87) (wl (pF (bd ah 87))) g := ⟨_, fun {C n ge bi bP bQ bS bD bT bn bo bU bq br} ok B G U {aR} R =>
 nA⟩
noncomputable def uV (t : n6) (jc ch dB dC dD d5 dF cy cz dG cA cD : List D -> Option D) : PSigma fun g => ∀ {C : dd} {n : Nat} {ge bi bP bQ bS bD bT bn bo bU bq br : Value} (ok : C.Ok) (B : cw C) (G : cY C t) (U : su C (n + 2) ge jc bi ch bP dB bQ dC bS dD bD d5 bT dF bn cy bo cz bU dG bq cA br cD) {aR : Addr} (R : jK C aR), ab C (n + 2) (aQ ah 87) (As (pF (bd ah 87))) g := ⟨_, fun {C n ge bi bP bQ bS bD bT bn bo bU bq br} ok B G U {aR} R =>
 (ab.cmp (ab.call ok U.upretty_flags.1 U.upretty_flags.2 U.upretty_flags.3 (aa.cons (ab.call ok B.sum (bg.builtin _) zT (aa.cons (ab.comp (ba.one (bc.name nA) b9.nil (ab.bin iA (ab.bin nA nA az) qz))) aa.nil)) aa.nil)) (ab.call ok U.u_law_words.1 U.u_law_words.2 U.u_law_words.3 (aa.cons nA (aa.cons nA aa.nil))) bK)⟩
theorem xh (l r : List Stmt) (env : Env) : execs (l ++ r) env = (execs l env >>= fun f => match f with
 | .next => execs r env
 | f => pure f) := by
 induction l with
 | nil => rfl
 | cons a l ih =>
  rw [List.cons_append, arm_execs_cons, arm_execs_cons, bind_assoc]
  congr 1
  funext f
  cases f
  . exact ih
  all_goals rfl
theorem Io {M : Model} {l r : List Stmt} {Q : Flow -> Shared -> Prop} (h : wpAny M A (execs l env) (fun f s' => f = .next /\ wpAny M A (execs r env) Q E s') E s) : wpAny M A (execs (l ++ r) env) Q E s := by
 rw [xh]
 refine wpAny_bind (wpAny_mono h (fun f s' p => ?_) fun _ _ x => x)
 obtain ⟨rfl, p⟩ := p
 exact p
structure qq (T : Addr) (s : Shared) (d : D) (v : Value) (s' : Shared) : Prop where
 ex : ∃ K' : KM, bJ K' d v
 keep : ∀ b o, b ≠ T -> s.heap.get? b = some o -> s'.heap.get? b = some o
 tab : ∃ ps, s'.heap.get? T = some (tabObj ps)
 same : bh s s'
theorem za {L : List Stmt} {st : Stmt} {a1 r : Expr} {c T : Addr} {x : D} {d : D} {gA gT : af -> Option (Fl × af)} (ok : C.Ok) (fa : eB C a ["script"] (bd ah 87) (aQ ah 87))
 (ft : eB C aL ["back", "told"] (bd ah 84) (aQ ah 84)) (hgT : aw C "_law_tables" (.ref aL)) (hcd : ∀ o fd, C.h₀.get? aL = some o -> o.data = .func fd -> fd.code = .ref c) (hC : CodeHd C.h₀ c T) (hB : C.h₀.BuiltinsAt C.mg T)
 (hb : ae C (n + 1) (aQ ah 84) ["pile"] ["pile"] (wD (bd ah 84)) gT) (H8 : bd ah 87 = L ++ [st]) (hst : st = .Return (some (.BoolOp .And [.Compare (.Call (.Name "_law_tables" tp) [a1, a2] [] cp) [.Eq] [r] qp, e3] bp)) pos)
 (hA' : bz C (n + 2) (aQ ah 87) [] [] L gA) (hl : aa C (n + 2) (aQ ah 87) cp [a1, a2] fl)
 (hr : ab C (n + 2) (aQ ah 87) r fr) (h3 : ab C (n + 2) (aQ ah 87) e3 f3)
 (hA : dg (n + 3) A) (hfr : A.frames = some []) (hi : eV K s.heap) (bZ : ∀ a o, C.h₀.get? a = some o -> K a = some o) (hT : s.heap.get? T = some (tabObj #[])) (KT : K T = none) (rv : bJ K x v)
 (e0 : gA (upd (fun _ => none) "script" x) = some (.next, ρ')) (e1 : fl ρ' = some ds) (e2 : ((dI (fun _ => none) ["back", "told"] ds).bind fun ρ => (gT (upd (upd ρ "look" eZ) "pile" (.list []))).bind vx) = some dT)
 (e4 : fr ρ' = some dr) (e5 : oN dT dr = some (.bool true)) (e6 : f3 ρ' = some d)
 (h1 : ∀ env, starEach [a1, a2] env = (false, eval a1 env) :: starEach [a2] env) (h2 : ∀ env, (backTo cp (starEach [a2] env)).any (·.1) = false) (hm : behindInMarks .Eq r = false) : wpAny C.M A (call (.ref a) [v]) (qq T s d) dq s := by
 refine fq fa.ex fun o fd ho hd i9 iQ ms hsc hgl hbl jV => ?_
 have h₀ : ∀ b o, C.h₀.get? b = some o -> s.heap.get? b = some o := fun b o e => hi _ _ (bZ b o e)
 have hki : fd.scope.kind = .function := by rw [hsc]; exact fa.kind
 have gH : (fd.scope.names.all fun p => !(p.2 == .free)) = true := by rw [hsc]; exact fa.free
 have kr : (["script"] : List Str).all (eI bf fd.scope []) = true := by rw [hsc]; kernel_rfl
 have hkd : fd.scope.names.lookup ("script" : Str) = some .local := by rw [hsc]; kernel_rfl
 refine wpAny_call (codeAny_call_cells (by have := hA.2; ((with_reducible refine Om.lm ‹_› ?_); simp +arith only)) (h₀ _ _ ho) hd (ok.nolimit.keeps h₀) (i9.keeps h₀) iQ (jV [v] rfl) ms (fun p hp => ?_) (fun s₁ X => ?_) (by rw [hsc]; exact fa.co) (by rw [hsc]; exact fa.gen) hki)
 . have hp : p = (("script" : Str), v) := by simpa using hp
   subst hp; exact .inl hkd
 . generalize hE : callEnvC fd s.heap.objs.size a = env at X ⊢
   have hsc' : env.scope = aQ ah 87 := by rw [<- hE, <- hsc]; rfl
   have nZ : env.frame = some env.locals := by rw [<- hE]; rfl
   have F : bG bf C (fun a => s.heap.get? a) env [] K (upd (fun _ => none) "script" x) s₁.heap := i5 (K := K) (a := a) (xs := ["script"]) (ds := [x]) (vs := [v]) hki gH hgl hbl hi bZ (ak.one rv) rfl kr hE X
   have hAd : dg (n + 2) (A.deeper env) := ⟨hA.1, by show A.depth + 1 + (n + 2) < _; have := hA.2; ((with_reducible refine Om.lm ‹_› ?_); simp +arith only), by show A.units + 3 + 8 * (n + 2) + 256 < _; have := hA.3; ((with_reducible refine Om.lm ‹_› ?_); simp +arith only)⟩
   refine eh (Q := fun f s' => D4 T (fun a => s.heap.get? a) s₁ d f s') ?_ fun f s' q => ?_
   . show wpAny C.M (A.deeper env) (execs (bd ah 87) env) _ dq s₁
     rw [H8]
     refine Io (eh (hA'.run (A.deeper env) env _ [] K _ s₁ .next ρ' hAd (by show A.frames.map (env :: ·) = _; rw [hfr]; rfl) nZ hsc' rfl F e0) fun f an p => ?_)
     obtain ⟨⟨ap, g7, gJ, av, aq, rfl⟩, dl⟩ := p
     have how : g7 = [] := by
      have := gJ rfl
      cases g7 with
      | nil => rfl
      | cons p r => simp [ay] at this
     subst how
     have Ix : ap T = none := by
      cases q : ap T with
      | none => rfl
      | some o =>
       rcases av.2 _ _ q with w | w
       . rw [KT] at w; exact nS w
       . replace w : s.heap.get? T = none := w
         rw [hT] at w; exact sN w
     refine ⟨rfl, wpAny_execs_cons ?_⟩
     rw [hst]
     refine eh (Au (n := n + 1) (T := T) (sc := aQ ah 87) (x := "_law_tables") ok ft hgT hcd hC hB hb hl hr h3 hAd hsc' aq hT Ix (by kernel_rfl) e1 e2 e4 e5 e6 h1 h2 (by decide) hm) fun f cX q => ?_
     obtain ⟨⟨K', v', rfl, i', r'⟩, k', t', sm'⟩ := q
     exact ⟨(d8 K' v' rfl i' r'), k', t', dl.trans sm'⟩
   . obtain ⟨⟨K', v', rfl, i', r'⟩, k', t', sm'⟩ := q
     show qq T s d v' s'
     exact ⟨⟨K', r'⟩, k', t', bh.trans X.toInCall.same sm'⟩
end
section
open PySem PySem.W PyProof.Rows
noncomputable def AB : List Stmt -> Nat -> Arguments
 | [], _ => default
 | .FunctionDef _ a _ _ _ _ _ _ _ _ :: _, 0 => a
 | _ :: _, 0 => default
 | _ :: r, n + 1 => AB r n
noncomputable def uO : List Stmt -> Nat -> List Stmt
 | [], _ => []
 | .ClassDef _ _ _ b _ _ _ _ _ _ _ :: _, 0 => b
 | _ :: _, 0 => []
 | _ :: r, n + 1 => uO r n
noncomputable def fy : Nat -> List Stmt -> List Stmt
 | 0, l => l
 | _ + 1, [] => []
 | n + 1, _ :: l => fy n l
noncomputable def kR : Nat -> List Stmt -> List Stmt
 | 0, _ => []
 | _ + 1, [] => []
 | n + 1, a :: l => a :: kR n l
noncomputable abbrev st (l : List Nat) : Str := ⟨⟨l⟩⟩
noncomputable abbrev kh (P : Params) (l : List Nat) (t : Nat) (v : Value) : DictEntry := ⟨PyData.keyHash P (st l), .str (st l) t, v⟩
noncomputable abbrev pw : Program := PySem.Challenge.pw_kl0004_01
def kZ : Env := { scope := pw.main.scope, locals := mainNs, globals := mainNs, cells := [], code := .ref 13, frame := some 14 }
noncomputable abbrev cT : Code := .body (behindTheImports pw) kZ
noncomputable abbrev yw : List Frame := [topFrame ⟨0, 0, 0, 0⟩]
noncomputable abbrev gN : Option Value := some (.ref 6)
end
section
open PySem PySem.W PyProof.Rows
inductive TR (p : Program) (w : World) (n₀ : Nat) {α : Type} : Nat -> Pos -> Shared -> Sem α -> Pos -> Shared -> α -> Prop
 | pure {q s a : _} : TR p w n₀ 0 q s (.pure a) q s a
 | rule {n q s t k q' s' a : _} : TR p w n₀ n q s (k ()) q' s' a -> TR p w n₀ (n + 1) q s (.rule t k) q' s' a
 | at {n q s r k q' s' a : _} : TR p w n₀ n r s (k ()) q' s' a -> TR p w n₀ (n + 1) q s (.at r k) q' s' a
 | load {n q s x o part k q' s' a : _} : s.heap.get? x = some o -> TR p w n₀ n q s (k o) q' s' a -> TR p w n₀ (n + 1) q s (.load x part k) q' s' a
 | update {n q s x part f k q' s' a : _} : n₀ ≤ x -> (s.heap.get? x).isSome = true -> TR p w n₀ n q { s with heap := s.heap.update x f } (k ()) q' s' a -> TR p w n₀ (n + 1) q s (.update x part f k) q' s' a
 | alloc {n q s o k q' s' a : _} : TR p w n₀ n q { s with heap := s.heap.push o } (k s.heap.objs.size) q' s' a -> TR p w n₀ (n + 1) q s (.alloc o k) q' s' a
 | fresh {n q s k q' s' a : _} : TR p w n₀ n q { s with toks := s.toks + 1 } (k s.toks) q' s' a -> TR p w n₀ (n + 1) q s (.fresh k) q' s' a
 | ask {n q s k q' s' a : _} : TR p w n₀ n q s (k ⟨p, w.params⟩) q' s' a -> TR p w n₀ (n + 1) q s (.ask k) q' s' a
 | point {n q s l k q' s' a : _} : TR p w n₀ n q s (k ()) q' s' a -> TR p w n₀ (n + 1) q s (.point l k) q' s' a
 | hash {n q s i t h g l k q' s' a : _} : TR p w n₀ n q { s with toks := s.toks + 1 } (k (.ok (.ret (.int (rawHash i) s.toks)))) q' s' a ->
  TR p w n₀ (n + 4) q s (.call (.call (.builtin "int.__hash__") ⟨[.int i t], []⟩) h g l k) q' s' a
section
variable {p : Program} {α β : Type}
theorem TR.cast {x : Sem α} {a : α} (h : TR p w n₀ n q s x q' s' a) (e : n = m) : TR p w n₀ m q s x q' s' a := e ▸ h
theorem TR.wrap {K : α -> Sem β} {H : Value -> Sem β} {gd : Bool -> Bool} {lv : List Value -> List Value} {x : Sem α} {a : α} {b : β}
 (h : TR p w n₀ n q s x q' s' a) (h' : TR p w n₀ m q' s' (K a) q'' s'' b) : TR p w n₀ (n + m) q s (x.wrap K H gd lv) q'' s'' b := by
 induction h with
 | pure => exact h'.cast (Nat.zero_add m).symm
 | rule _ ih => exact (TR.rule (ih h')).cast (by simp +arith only)
 | «at» _ ih => exact (TR.at (ih h')).cast (by simp +arith only)
 | load e _ ih => exact (TR.load e (ih h')).cast (by simp +arith only)
 | update e1 e2 _ ih => exact (TR.update e1 e2 (ih h')).cast (by simp +arith only)
 | alloc _ ih => exact (TR.alloc (ih h')).cast (by simp +arith only)
 | fresh _ ih => exact (TR.fresh (ih h')).cast (by simp +arith only)
 | ask _ ih => exact (TR.ask (ih h')).cast (by simp +arith only)
 | point _ ih => exact (TR.point (ih h')).cast (by simp +arith only)
 | hash _ ih => exact (TR.hash (ih h')).cast (by simp +arith only)
theorem TR.bind {K : α -> Sem β} {x : Sem α} {a : α} {b : β}
 (h : TR p w n₀ n q s x q' s' a) (h' : TR p w n₀ m q' s' (K a) q'' s'' b) : TR p w n₀ (n + m) q s (x >>= K) q'' s'' b := by
 rw [Sem.bind_eq_wrap']; exact h.wrap h'
theorem TR.keep {vs : List Value} {x : Sem α} {a : α} (h : TR p w n₀ n q s x q' s' a) : TR p w n₀ n q s (x.keep vs) q' s' a := by
 rw [Sem.keep_eq_wrap]; exact h.wrap .pure
theorem TR.holding {vs : List Value} {x : Sem α} {a : α} (h : TR p w n₀ n q s x q' s' a) : TR p w n₀ n q s (holding vs x) q' s' a := by
 unfold PySem.holding
 split
 . exact h
 . exact h.keep
theorem TR.onRaise {f : Value -> Sem Unit} {x : Sem α} {a : α} (h : TR p w n₀ n q s x q' s' a) : TR p w n₀ n q s (x.onRaise f) q' s' a := by
 rw [Sem.onRaise_eq_wrap]; exact h.wrap .pure
theorem ij {tb : String -> Option Builtin} {ann : Option Value} {T T' : Thread} {r : Option (Shared × Thread)} (h1 : endAt 1 T = none) (h2 : stepOk n₀ ann T = true) (h3 : step (denote tb) p w s T = .go s₁ T')
 (h4 : segGo tb p w n₀ ann 1 n s₁ T' = r) : segGo tb p w n₀ ann 1 (n + 1) s T = r := by
 unfold segGo
 rw [h1]
 dsimp only
 rw [h2]
 dsimp only
 rw [h3]
 exact h4
theorem CL {den : Code -> Sem Fin} {x : Addr} {part : Option Value} {k : Obj -> Sem Fin} {c : Code} {st : List Frame} (e : s.heap.get? x = some o) : step den p w s ⟨.load x part k, c, q, st⟩ = .go s ⟨k o, c, q, st⟩ := by
 obtain ⟨heap, gens, drawn, toks, os⟩ := s
 have e' : heap.get? x = some o := e
 simp only [step, e']
theorem CM {den : Code -> Sem Fin} {x : Addr} {f : Obj -> Obj} {part : Option Value} {k : Unit -> Sem Fin} {c : Code} {st : List Frame} (e : (s.heap.get? x).isSome = true) :
 step den p w s ⟨.update x part f k, c, q, st⟩ = .go { s with heap := s.heap.update x f } ⟨k (), c, q, st⟩ := by
 obtain ⟨heap, gens, drawn, toks, os⟩ := s
 have e' : (heap.get? x).isSome = true := e
 simp only [step, e', if_true]
theorem TR.go {tb : String -> Option Builtin} (d1 : ∀ i t, denote tb (.call (.builtin "int.__hash__") ⟨[.int i t], []⟩) = .pure (.again (.builtin "int.__hash__" ⟨[.int i t], []⟩)))
 (d2 : ∀ i t, denote tb (.builtin "int.__hash__" ⟨[.int i t], []⟩) = .fresh fun tk => .pure (.done (.ret (.int (rawHash i) tk))))
 {ann : Option Value} {F : Frame} {c : Code} {K : α -> Sem Fin} {H : Value -> Sem Fin} {gd : Bool -> Bool} {lv : List Value -> List Value} {x : Sem α} {a : α} (h : TR p w n₀ n q s x q' s' a) :
 segGo tb p w n₀ ann 1 n s ⟨x.wrap K H gd lv, c, q, [F]⟩ = some (s', ⟨K a, c, q', [F]⟩) := by
 induction h with
 | pure => rfl
 | rule _ ih => exact ih
 | «at» _ ih => exact ih
 | load e _ ih => exact ij rfl rfl (CL e) ih
 | @update n q s x part f k q' s' a e1 e2 _ ih =>
  have e3 : stepOk n₀ ann ⟨(Sem.update x part f k).wrap K H gd lv, c, q, [F]⟩ = true := by
   show (true && (Nat.ble n₀ x || x == mainNs || x == cStatics || ann == some (.ref x))) = true
   rw [Nat.ble_eq_true_of_le e1]; rfl
  exact ij rfl e3 (CM e2) ih
 | alloc _ ih => exact ij rfl rfl rfl ih
 | fresh _ ih => exact ih
 | ask _ ih => exact ih
 | point _ ih => exact ih
 | @hash n q s i t h g l k q' s' a _ ih =>
  refine ij (T' := ⟨denote tb (.call (.builtin "int.__hash__") ⟨[.int i t], []⟩), .call (.builtin "int.__hash__") ⟨[.int i t], []⟩, q, .ret (fun r => (k r).wrap K H gd lv) h (gd g) (lv l) c q _ :: [F]⟩) rfl rfl rfl ?_
  rw [d1]
  refine ij rfl (by kernel_rfl) step_again ?_
  rw [d2]
  refine ij rfl rfl rfl ?_
  exact ij rfl rfl rfl ih
end
end
section
open PySem PySem.W PyProof.Rows
theorem den1 (i : Int) (t : Tok) : denote treeTable (.call (.builtin "int.__hash__") ⟨[.int i t], []⟩) = .pure (.again (.builtin "int.__hash__" ⟨[.int i t], []⟩)) := by
 rw [PySem.W.Fast.te14364793385576792824, PySem.W.Fast.te11892475500146522536]; kernel_rfl
theorem den2 (i : Int) (t : Tok) : denote treeTable (.builtin "int.__hash__" ⟨[.int i t], []⟩) = .fresh fun tk => .pure (.done (.ret (.int (rawHash i) tk))) := by
 rw [PySem.W.Fast.te14364793385576792824, PySem.W.Fast.te11892475500146522536]; kernel_rfl
noncomputable def Gq (x : Sem Int) (st : Setting) : Sem Int := match x with
 | .ask k => k st
 | x => x
noncomputable def cH (x : Sem Int) : Option Value := match x with
 | .call _ h _ _ _ => h
 | _ => none
noncomputable def cG (x : Sem Int) : Bool := match x with
 | .call _ _ g _ _ => g
 | _ => false
noncomputable def cV (x : Sem Int) : List Value := match x with
 | .call _ _ _ l _ => l
 | _ => []
noncomputable def cK (x : Sem Int) (r : Result) : Sem Int := match x with
 | .call _ _ _ _ k => k r
 | x => x
theorem LP (i : Int) (t : Tok) : pyHash (.int i t) = .ask (Gq (pyHash (.int i t))) := by kernel_rfl
theorem LQ (i : Int) (t : Tok) (p : Program) (w : World) (b : Bool) (x : Sem Int) (hx : x = Gq (pyHash (.int i t)) ⟨p, (w.withFollow "special-get-raises" b).params⟩) :
 x = .call (.call (.builtin "int.__hash__") ⟨[.int i t], []⟩) (cH x) (cG x) (cV x) (cK x) := by
 subst hx
 cases b
 . kernel_rfl
 . kernel_rfl
theorem LR (i j : Int) (t tk : Tok) (p : Program) (w : World) (b : Bool) : cK (Gq (pyHash (.int i t)) ⟨p, (w.withFollow "special-get-raises" b).params⟩) (.ok (.ret (.int j tk))) = pyHashByItsType.reduced j := by
 cases b
 . kernel_rfl
 . kernel_rfl
theorem CR {p : Program} {w : World} {b : Bool} {n₀ : Nat} {q : Pos} {s : Shared} (i : Int) (t : Tok) : TR p (w.withFollow "special-get-raises" b) n₀ 5 q s (pyHash (.int i t)) q { s with toks := s.toks + 1 } (hashInt i) := by
 rw [LP]
 refine TR.ask ?_
 have h2 := LQ i t p w b _ rfl
 rw [h2]
 refine TR.hash (n := 0) ?_
 rw [LR i (rawHash i) t s.toks p w b]
 unfold pyHashByItsType.reduced
 have hr := rawHash_range i
 rw [if_pos (by rw [decide_eq_true hr.1, decide_eq_true hr.2]; rfl)]
 exact TR.pure
noncomputable abbrev bF (es : List DictEntry) (ep : Nat) : Obj := { cls := .type "dict", data := .dict es.toArray ep }
section
variable {p : Program}
theorem jr {d : Addr} {es : List DictEntry} {part : Option Value} (ho : s.heap.get? d = some (bF es ep)) : TR p w n₀ 1 q s (dictEntries d part) q s es.toArray := by
 unfold dictEntries
 refine TR.bind (n := 1) (m := 0) (TR.load ho .pure) ?_
 exact .pure
theorem uq {d : Addr} {es : List DictEntry} {part : Option Value} (ho : s.heap.get? d = some (bF es ep)) : TR p w n₀ 1 q s (dictEpoch d part) q s ep := by
 unfold dictEpoch
 refine TR.bind (n := 1) (m := 0) (TR.load ho .pure) ?_
 exact .pure
theorem wI {d : Addr} {es : List DictEntry} {i h : Int} {t : Tok} (ho : s.heap.get? d = some (bF es ep)) (hn : ∀ e ∈ es, e.hash ≠ h) : TR p w n₀ 1 q s (dictFind d (.int i t) h) q s none := by
 unfold dictFind
 refine TR.holding (TR.bind (n := 1) (m := 0) (jr ho) ?_)
 have hp : placesWithHash es.toArray.size (fun i => es.toArray[i]?.map (·.hash)) h = [] := by
  unfold placesWithHash
  rw [List.filter_eq_nil_iff]
  intro j hj
  simp only [List.getElem?_toArray]
  cases e : es[j]? with
  | none => simp
  | some x =>
   have := hn x (List.mem_of_getElem? e)
   simpa using this
 dsimp only
 rw [hp]
 simp only [List.filterMap_nil, List.all_cons, List.all_nil, carriedByValue, Bool.and_true, if_true]
 unfold dictWalkPlain
 simp only [List.forIn_nil]
 exact .pure
theorem wK {d : Addr} {es : List DictEntry} {e : DictEntry} {part : Option Value} (ho : s.heap.get? d = some (bF es ep)) (hd : n₀ ≤ d) (hl : es.length < 10000) :
 TR p w n₀ 3 q s (updateDictKeys d (·.push e) part) q { s with heap := s.heap.update d (Obj.mapDictKeys (·.push e)) } () /\ (s.heap.update d (Obj.mapDictKeys (·.push e))).get? d = some (bF (es ++ [e]) (ep + 1)) := by
 have e1 : Obj.mapDictKeys (·.push e) (bF es ep) = bF (es ++ [e]) (ep + 1) := by
  show (_ : Obj) = _
  simp [Obj.mapDictKeys]
 have hg : (s.heap.update d (Obj.mapDictKeys (·.push e))).get? d = some (bF (es ++ [e]) (ep + 1)) := by
  rw [Heap.get?_update_self _ ho (by rw [e1]; rfl), e1]
 refine ⟨?_, hg⟩
 unfold updateDictKeys
 refine TR.bind (n := 1) (m := 2) (TR.load ho .pure) ?_
 show TR p w n₀ 2 q s (do updatePart d part (Obj.mapDictKeys (·.push e)); lookBehind d part) q _ ()
 refine TR.bind (n := 1) (m := 1) (TR.update hd (by rw [ho]; rfl) .pure) ?_
 unfold lookBehind
 refine TR.bind (n := 1) (m := 0) (TR.load (s := { s with heap := s.heap.update d (Obj.mapDictKeys (·.push e)) }) hg .pure) ?_
 have : (bF (es ++ [e]) (ep + 1)).data.pastItsLine = none := by
  show (if (es ++ [e]).toArray.size > sizeLine + 1 then _ else none) = none
  rw [if_neg]
  rw [sizeLine_eq]
  simp only [List.size_toArray, List.length_append, List.length_singleton]
  lia
 rw [this]
 exact .pure
end
end
section
open PySem PySem.W PyProof.Rows
noncomputable def eF (h : Heap) (d : Addr) (o : Obj) : Heap := h.update d fun _ => o
theorem vF {d : Addr} {g : Obj -> Obj} : (eF h d o).update d g = eF h d (g o) := by
 cases h
 simp only [eF, Heap.update, Heap.mk.injEq, and_true]
 apply Array.ext
 . simp
 . intro i h1 h2
   simp only [Array.getElem_modify]
   by_cases e : d = i <;> simp [e]
theorem mD {d : Addr} {g : Obj -> Obj} (e : h.get? d = some o) : h.update d g = eF h d (g o) := by
 have e' : h.objs[d]? = some o := (Heap.get?_some_iff.mp e).1
 cases h
 simp only [eF, Heap.update, Heap.mk.injEq, and_true]
 apply Array.ext
 . simp
 . intro i h1 h2
   simp only [Array.getElem_modify]
   by_cases q : d = i
   . subst q
     rw [if_pos rfl, if_pos rfl]
     have := Array.getElem?_eq_getElem (xs := ‹Array Obj›) (i := d) (by simpa using h2)
     rw [this] at e'
     rw [siE e']
   . rw [if_neg q, if_neg q]
theorem oq : eF (h.push o) h.objs.size o' = h.push o' := by
 cases h
 simp only [eF, Heap.update, Heap.push, Heap.mk.injEq, and_true]
 apply Array.ext
 . simp
 . intro i h1 h2
   simp only [Array.getElem_modify, Array.getElem_push]
   rename_i objs _
   by_cases q : objs.size = i
   . subst q; simp
   . have : i < objs.size := by simp at h2; exact Om.ne h2 fun a => q (id (Eq.symm a))
     simp [q, this]
theorem rh {d : Addr} (e : h.get? d = some o) (hf : o'.isFreed = false) : (eF h d o').get? d = some o' := Heap.get?_update_self _ e hf
theorem oo {d : Addr} (e : d ≠ a) : (eF h d o).get? a = h.get? a := Heap.get?_update_other h _ e
section
variable {p : Program}
theorem Ig {d : Addr} {es : List DictEntry} {i h : Int} {t : Tok} (ho : s.heap.get? d = some (bF es ep)) (hd : n₀ ≤ d) (hl : es.length < 10000) (hn : ∀ e ∈ es, e.hash ≠ h) :
 TR p w n₀ 4 q s (dictPut d h (.int i t) v) q { s with heap := eF s.heap d (bF (es ++ [⟨h, .int i t, v⟩]) (ep + 1)) } () := by
 unfold dictPut
 refine TR.bind (n := 1) (m := 3) (wI ho hn) ?_
 have := (wK (p := p) (w := w) (n₀ := n₀) (q := q) (e := ⟨h, .int i t, v⟩) (part := none) ho hd hl).1
 rw [mD ho] at this
 have e1 : Obj.mapDictKeys (·.push ⟨h, .int i t, v⟩) (bF es ep) = bF (es ++ [⟨h, .int i t, v⟩]) (ep + 1) := by simp [Obj.mapDictKeys]
 rw [e1] at this
 exact this
theorem Be {b : Bool} {d : Addr} {es : List DictEntry} {i : Int} {t : Tok} (ho : s.heap.get? d = some (bF es ep)) (hd : n₀ ≤ d) (hl : es.length < 10000) (hn : ∀ e ∈ es, e.hash ≠ hashInt i) :
 TR p (w.withFollow "special-get-raises" b) n₀ 10 q s (dictSet d (.int i t) v) q { s with heap := eF s.heap d (bF (es ++ [⟨hashInt i, .int i t, v⟩]) (ep + 1)), toks := s.toks + 1 } () := by
 unfold dictSet
 refine TR.holding (TR.bind (n := 5) (m := 5) (CR i t) ?_)
 unfold dictSetHashed
 refine TR.holding (TR.bind (n := 1) (m := 4) (wI (s := { s with toks := s.toks + 1 }) ho hn) ?_)
 dsimp only
 refine TR.bind (n := 1) (m := 3) (TR.rule .pure) ?_
 have := (wK (p := p) (w := w.withFollow "special-get-raises" b) (n₀ := n₀) (q := q) (s := { s with toks := s.toks + 1 }) (e := ⟨hashInt i, .int i t, v⟩) (part := keyPart (.int i t)) ho hd hl).1
 rw [show ({ s with toks := s.toks + 1 } : Shared).heap.update d (Obj.mapDictKeys (·.push ⟨hashInt i, .int i t, v⟩)) = s.heap.update d (Obj.mapDictKeys (·.push ⟨hashInt i, .int i t, v⟩)) from rfl, mD ho] at this
 have e1 : Obj.mapDictKeys (·.push ⟨hashInt i, .int i t, v⟩) (bF es ep) = bF (es ++ [⟨hashInt i, .int i t, v⟩]) (ep + 1) := by simp [Obj.mapDictKeys]
 rw [e1] at this
 exact this
noncomputable abbrev vT (pos : Pos) (x : Str) : Sem Value := do let y <- mkText x; standAt pos; pure y
theorem Bd {i : Int} : TR p w n₀ 1 q s (mkInt i) q { s with toks := s.toks + 1 } (.int i s.toks) := TR.fresh .pure
theorem Bg : TR p w n₀ 2 q s (vT pos x) pos { s with toks := s.toks + 1 } (.str x s.toks) := TR.fresh (TR.at .pure)
noncomputable def fH : List (Int × Str) -> Nat -> List DictEntry
 | [], _ => []
 | (i, x) :: r, k => ⟨hashInt i, .int i k, .str x (k + 1)⟩ :: fH r (k + 3)
theorem i3 : ∀ (L : List (Int × Str)) (k : Nat), (fH L k).length = L.length
 | [], _ => rfl
 | _ :: r, k => by simp [fH, i3 r]
theorem km : ∀ (L : List (Int × Str)) (k : Nat), (fH L k).map (·.hash) = L.map fun d => hashInt d.1
 | [], _ => rfl
 | _ :: r, k => by simp [fH, km r]
noncomputable abbrev fC (pos : Pos) (L : List (Int × Str)) : List (Sem Value × Sem Value) := L.map fun d => (mkInt d.1, vT pos d.2)
theorem oh {es : List DictEntry} {h : Int} {r : List Int} (hn : (es.map (·.hash) ++ h :: r).Nodup) : ∀ e ∈ es, e.hash ≠ h := fun e he q => by
 have := (List.nodup_append.mp hn).2.2 e.hash (List.mem_map.mpr (bC e he rfl)) h (by simp)
 exact this q
theorem ln {es : List DictEntry} {e : DictEntry} {h : Int} {r : List Int} (he : e.hash = h) (hn : (es.map (·.hash) ++ h :: r).Nodup) : ((es ++ [e]).map (·.hash) ++ r).Nodup := by
 simpa [he] using hn
theorem vw {d : Addr} (e : h.get? d = some o) : eF h d o = h := by
 have h1 : h.update d (fun o => o) = eF h d o := mD (g := fun o => o) e
 rw [<- h1]
 cases h
 simp only [Heap.update, Heap.mk.injEq, and_true]
 apply Array.ext
 . simp
 . intro i h1 h2
   simp [Array.getElem_modify]
theorem ri {d : Addr} : eF (eF h d o) d o' = eF h d o' := vF (g := fun _ => o')
theorem TR.to {α : Type} {q : Pos} {s : Shared} {x : Sem α} {a : α} (h : TR p w n₀ n q s x q' s' a) (e : n = m) (e' : s' = s'') : TR p w n₀ m q s x q' s'' a := e ▸ e' ▸ h
noncomputable abbrev DA (x : Sem Value × Sem Value) (d : Addr) : Sem (ForInStep PUnit) := do
 let kv <- x.1
 let vv <- PySem.holding [kv] x.2
 PySem.holding [kv, vv] (dictSet d kv vv)
 pure (ForInStep.yield PUnit.unit)
theorem wJ {b : Bool} {pos : Pos} {d : Addr} (hd : n₀ ≤ d) : ∀ (L : List (Int × Str)) (es : List DictEntry) (ep : Nat) (q : Pos) (s : Shared), s.heap.get? d = some (bF es ep) -> es.length + L.length < 10000 -> (es.map (·.hash) ++ L.map fun x => hashInt x.1).Nodup -> L ≠ [] \/ q = pos ->
 TR p (w.withFollow "special-get-raises" b) n₀ (13 * L.length) q s (forIn (fC pos L) PUnit.unit fun (x : Sem Value × Sem Value) (_ : PUnit) => DA x d) pos
  { s with heap := eF s.heap d (bF (es ++ fH L s.toks) (ep + L.length)), toks := s.toks + 3 * L.length } PUnit.unit
 | [], es, ep, q, s, ho, _, _, hq => by
  rcases hq with hq | rfl
  . exact absurd rfl hq
  simp only [List.map_nil, List.forIn_nil, fH, List.append_nil, List.length_nil, Nat.add_zero, Nat.mul_zero]
  rw [vw ho]
  exact .pure
 | (i, x) :: L, es, ep, q, s, ho, hl, hn, _ => by
  simp only [List.length_cons] at hl
  simp only [List.map_cons] at hn
  simp only [List.map_cons, List.forIn_cons, List.length_cons]
  have h1 := Be (p := p) (w := w) (n₀ := n₀) (q := pos) (b := b) (s := { s with toks := s.toks + 1 + 1 }) (i := i) (t := s.toks) (v := .str x (s.toks + 1)) ho hd (by ((with_reducible refine Om.lm ‹_› ?_); simp +arith only)) (oh hn)
  have ho' : (eF s.heap d (bF (es ++ [⟨hashInt i, .int i s.toks, .str x (s.toks + 1)⟩]) (ep + 1))).get? d = some (bF (es ++ [⟨hashInt i, .int i s.toks, .str x (s.toks + 1)⟩]) (ep + 1)) := rh ho rfl
  have ih := wJ (b := b) (pos := pos) hd L (es ++ [⟨hashInt i, .int i s.toks, .str x (s.toks + 1)⟩]) (ep + 1) pos
   { s with heap := eF s.heap d (bF (es ++ [⟨hashInt i, .int i s.toks, .str x (s.toks + 1)⟩]) (ep + 1)), toks := s.toks + 1 + 1 + 1 } ho' (by simp; ((with_reducible refine Om.lm ‹_› ?_); simp +arith only)) (ln (h := hashInt i) rfl hn) (.inr rfl)
  have body : TR p (w.withFollow "special-get-raises" b) n₀ 13 q s (DA (mkInt i, vT pos x) d) pos { s with heap := eF s.heap d (bF (es ++ [⟨hashInt i, .int i s.toks, .str x (s.toks + 1)⟩]) (ep + 1)), toks := s.toks + 1 + 1 + 1 } (ForInStep.yield PUnit.unit) :=
   TR.bind (n := 1) (m := 12) Bd (TR.bind (n := 2) (m := 10) (TR.holding Bg) (TR.bind (n := 10) (m := 0) (TR.holding h1) .pure))
  refine TR.to (TR.bind (n := 13) (m := 13 * L.length) body ih) (by simp +arith only) ?_
  have e3 : s.toks + 1 + 1 + 1 = s.toks + 3 := rfl
  simp only [ri, fH, List.append_assoc, List.cons_append, List.nil_append, e3]
  congr 1
  . congr 2
    with_reducible exact Om.s1 _ _
  . simp +arith only
end
end
section
open PySem PySem.W PyProof.Rows
section
variable {p : Program}
theorem Bf {b : Bool} (R : List (Int × Str)) (h1 : 15 < R.length) (h2 : R.length < 100) (hsz : n₀ ≤ s.heap.objs.size) (hn : (R.map fun x => hashInt x.1).Nodup) :
 TR p (w.withFollow "special-get-raises" b) n₀ (2 + 13 * R.length) q s (subDict (fC pos R)) pos { s with heap := s.heap.push (bF (fH R s.toks) R.length), toks := s.toks + 3 * R.length } s.heap.objs.size := by
 unfold subDict
 have hne : R ≠ [] := by intro e; subst e; simp at h1
 have ho : (s.heap.push (bF [] 0)).get? s.heap.objs.size = some (bF [] 0) := Heap.get?_push_size _ rfl
 refine TR.to (TR.bind (n := 1) (m := 1 + 13 * R.length) (TR.alloc .pure) ?_) (by simp +arith only) rfl
 refine TR.bind (n := 1 + 13 * R.length) (m := 0) (a := ()) (TR.holding ?_) .pure
 rw [if_neg (by simp; with_reducible assumption)]
 refine TR.bind (n := 1) (m := 13 * R.length) (TR.rule .pure) ?_
 have := wJ (p := p) (w := w) (b := b) (pos := pos) (n₀ := n₀) hsz R [] 0 q { s with heap := s.heap.push (bF [] 0) } ho (by simp; with_reducible exact Om.lS (OfNat.ofNat _) ‹_› rfl) (by simpa using hn) (.inl hne)
 refine TR.to (TR.bind (n := 13 * R.length) (m := 0) (a := PUnit.unit) this .pure) rfl ?_
 simp only [List.nil_append, Nat.zero_add, oq]
noncomputable def dx : List (Int × Str) -> Nat -> List (Value × Value)
 | [], _ => []
 | (i, x) :: r, k => (.int i k, .str x (k + 1)) :: dx r (k + 2)
noncomputable def eP : List (Int × Str) -> Nat -> List DictEntry
 | [], _ => []
 | (i, x) :: r, k => ⟨hashInt i, .int i k, .str x (k + 1)⟩ :: eP r (k + 2)
theorem kl : ∀ (L : List (Int × Str)) (k : Nat), (eP L k).length = L.length
 | [], _ => rfl
 | _ :: r, k => by simp [eP, kl r]
theorem nJ : ∀ (L : List (Int × Str)) (k : Nat), (eP L k).map (·.hash) = L.map fun d => hashInt d.1
 | [], _ => rfl
 | _ :: r, k => by simp [eP, nJ r]
theorem wH {pos : Pos} : ∀ (R : List (Int × Str)) (q : Pos) (s : Shared), R ≠ [] \/ q = pos -> TR p w n₀ (3 * R.length) q s (evalPairs (fC pos R)) pos { s with toks := s.toks + 2 * R.length } (dx R s.toks)
 | [], q, s, h => by
  rcases h with h | rfl
  . exact absurd rfl h
  exact .pure
 | (i, x) :: R, q, s, _ => by
  have ih := wH (pos := pos) R pos { s with toks := s.toks + 1 + 1 } (.inr rfl)
  refine TR.to (TR.bind (n := 1) (m := 2 + 3 * R.length) Bd (TR.bind (n := 2) (m := 3 * R.length) (TR.holding Bg) (TR.bind (n := 3 * R.length) (m := 0) (TR.holding ih) .pure))) (by simp only [List.length_cons]; simp +arith only) ?_
  simp only [List.length_cons]
  congr 1
  simp +arith only
theorem ut {b : Bool} {d : Addr} (hd : n₀ ≤ d) : ∀ (R : List (Int × Str)) (k : Nat) (es : List DictEntry) (ep : Nat) (q : Pos) (s : Shared), s.heap.get? d = some (bF es ep) -> es.length + R.length < 10000 -> (es.map (·.hash) ++ R.map fun x => hashInt x.1).Nodup ->
 TR p (w.withFollow "special-get-raises" b) n₀ (10 * R.length) q s (forIn (dx R k) PUnit.unit fun (x : Value × Value) (_ : PUnit) => (do dictSet d x.1 x.2; pure (ForInStep.yield PUnit.unit) : Sem (ForInStep PUnit))) q
  { s with heap := eF s.heap d (bF (es ++ eP R k) (ep + R.length)), toks := s.toks + R.length } PUnit.unit
 | [], k, es, ep, q, s, ho, _, _ => by
  simp only [dx, List.forIn_nil, eP, List.append_nil, List.length_nil, Nat.add_zero, Nat.mul_zero]
  rw [vw ho]
  exact .pure
 | (i, x) :: L, k, es, ep, q, s, ho, hl, hn => by
  simp only [List.length_cons] at hl
  simp only [List.map_cons] at hn
  simp only [dx, List.forIn_cons, List.length_cons]
  have h1 := Be (p := p) (w := w) (n₀ := n₀) (q := q) (b := b) (s := s) (i := i) (t := k) (v := .str x (k + 1)) ho hd (by ((with_reducible refine Om.lm ‹_› ?_); simp +arith only)) (oh hn)
  have ho' : (eF s.heap d (bF (es ++ [⟨hashInt i, .int i k, .str x (k + 1)⟩]) (ep + 1))).get? d = some (bF (es ++ [⟨hashInt i, .int i k, .str x (k + 1)⟩]) (ep + 1)) := rh ho rfl
  have ih := ut (b := b) hd L (k + 2) (es ++ [⟨hashInt i, .int i k, .str x (k + 1)⟩]) (ep + 1) q
   { s with heap := eF s.heap d (bF (es ++ [⟨hashInt i, .int i k, .str x (k + 1)⟩]) (ep + 1)), toks := s.toks + 1 } ho' (by simp; ((with_reducible refine Om.lm ‹_› ?_); simp +arith only)) (ln (h := hashInt i) rfl hn)
  refine TR.to (TR.bind (n := 10) (m := 10 * L.length) (TR.bind (n := 10) (m := 0) h1 .pure) ih) (by simp +arith only) ?_
  simp only [ri, eP, List.append_assoc, List.cons_append, List.nil_append]
  congr 1
  . congr 2
    with_reducible exact Om.s1 _ _
  . with_reducible exact Om.s1 _ _
theorem CW {b : Bool} (R : List (Int × Str)) (h1 : R ≠ []) (h2 : R.length ≤ 15) (hsz : n₀ ≤ s.heap.objs.size) (hn : (R.map fun x => hashInt x.1).Nodup) :
 TR p (w.withFollow "special-get-raises" b) n₀ (1 + 13 * R.length) q s (subDict (fC pos R)) pos { s with heap := s.heap.push (bF (eP R s.toks) R.length), toks := s.toks + 3 * R.length } s.heap.objs.size := by
 unfold subDict
 have ho : (s.heap.push (bF [] 0)).get? s.heap.objs.size = some (bF [] 0) := Heap.get?_push_size _ rfl
 refine TR.to (TR.bind (n := 1) (m := 13 * R.length) (TR.alloc .pure) ?_) (by simp +arith only) rfl
 refine TR.bind (n := 13 * R.length) (m := 0) (a := ()) (TR.holding ?_) .pure
 rw [if_pos (by simp; with_reducible assumption)]
 have e1 := wH (p := p) (w := w.withFollow "special-get-raises" b) (n₀ := n₀) (pos := pos) R q { s with heap := s.heap.push (bF [] 0) } (.inl h1)
 have e2 := ut (p := p) (w := w) (b := b) (n₀ := n₀) hsz R s.toks [] 0 pos { s with heap := s.heap.push (bF [] 0), toks := s.toks + 2 * R.length } ho (by simp; with_reducible exact Om.lL (OfNat.ofNat _) ‹_› rfl) (by simpa using hn)
 refine TR.to (TR.bind (n := 3 * R.length) (m := 10 * R.length) e1 (TR.holding (TR.bind (n := 10 * R.length) (m := 0) (a := PUnit.unit) e2 .pure))) (by simp +arith only) ?_
 simp only [List.nil_append, Nat.zero_add, oq]
 congr 1
 simp +arith only
end
end
section
open PySem PySem.W PyProof.Rows
noncomputable def PQ {α : Type} (x : Sem α) (o : Obj) : Sem α := match x with
 | .load _ _ k => k o
 | x => x
noncomputable def ldP {α : Type} (x : Sem α) : Option Value := match x with
 | .load _ p _ => p
 | _ => none
theorem Mo (a : Addr) : isInstance (.ref a) (.type "dict") = .load a (ldP (isInstance (.ref a) (.type "dict"))) (PQ (isInstance (.ref a) (.type "dict"))) := by kernel_rfl
theorem Mp (a : Addr) (es : List DictEntry) (ep : Nat) : PQ (isInstance (.ref a) (.type "dict")) (bF es ep) = .pure true := by kernel_rfl
theorem NX (a : Addr) : specialOf (.ref a) "__iter__" = .load a (ldP (specialOf (.ref a) "__iter__")) (PQ (specialOf (.ref a) "__iter__")) := by kernel_rfl
theorem NY (a : Addr) (es : List DictEntry) (ep : Nat) : PQ (specialOf (.ref a) "__iter__") (bF es ep) = .pure (some (.builtin "dict.__iter__")) := by kernel_rfl
section
variable {p : Program}
theorem CS {es : List DictEntry} (ho : s.heap.get? a = some (bF es ep)) : TR p w n₀ 1 q s (isInstance (.ref a) (.type "dict")) q s true := by
 rw [Mo]
 exact TR.load ho (by rw [Mp]; exact .pure)
theorem CV {es : List DictEntry} (ho : s.heap.get? a = some (bF es ep)) : TR p w n₀ 1 q s (specialOf (.ref a) "__iter__") q s (some (.builtin "dict.__iter__")) := by
 rw [NX]
 exact TR.load ho (by rw [NY]; exact .pure)
def Gi (e : DictEntry) : Prop := ∃ i t v, e = ⟨hashInt i, .int i t, v⟩
theorem t9 : ∀ (L : List (Int × Str)) (k : Nat), ∀ e ∈ fH L k, Gi e
 | [], _, e, h => by simp [fH] at h
 | (i, x) :: r, k, e, h => by
  simp only [fH, List.mem_cons] at h
  rcases h with rfl | h
  . exact (Gk i k _ rfl)
  . exact t9 r _ e h
theorem po : ∀ (L : List (Int × Str)) (k : Nat), ∀ e ∈ eP L k, Gi e
 | [], _, e, h => by simp [eP] at h
 | (i, x) :: r, k, e, h => by
  simp only [eP, List.mem_cons] at h
  rcases h with rfl | h
  . exact (Gk i k _ rfl)
  . exact po r _ e h
theorem uu {d a : Addr} (hd : n₀ ≤ d) (had : a ≠ d) {sub : List DictEntry} {k : Nat} {f : Nat -> PUnit -> Sem (ForInStep PUnit)}
 (hf : ∀ (i : Nat) (e : DictEntry) (es : List DictEntry) (ep : Nat) (s : Shared), sub[i]? = some e -> s.heap.get? a = some (bF sub k) -> s.heap.get? d = some (bF es ep) -> es.length < 10000 -> (∀ x ∈ es, x.hash ≠ e.hash) ->
  TR p w n₀ 6 q s (f i PUnit.unit) q { s with heap := eF s.heap d (bF (es ++ [e]) (ep + 1)) } (ForInStep.yield PUnit.unit)) :
 ∀ (m i : Nat) (es : List DictEntry) (ep : Nat) (s : Shared), i + m = sub.length -> s.heap.get? a = some (bF sub k) -> s.heap.get? d = some (bF es ep) -> es.length + m < 10000 -> (es.map (·.hash) ++ (sub.drop i).map (·.hash)).Nodup ->
 TR p w n₀ (6 * m) q s (forIn (List.range' i m) PUnit.unit f) q { s with heap := eF s.heap d (bF (es ++ sub.drop i) (ep + m)) } PUnit.unit
 | 0, i, es, ep, s, hi, _, ho, _, _ => by
  have : sub.drop i = [] := by rw [List.drop_eq_nil_iff]; exact Nat.le_of_eq (id (Eq.symm hi))
  simp only [List.range'_zero, List.forIn_nil, this, List.append_nil, Nat.add_zero, Nat.mul_zero]
  rw [vw ho]
  exact .pure
 | m + 1, i, es, ep, s, hi, ha, ho, hl, hn => by
  have hlt : i < sub.length := by exact Om.a6 hi
  have tt : sub.drop i = sub[i] :: sub.drop (i + 1) := List.drop_eq_getElem_cons hlt
  rw [tt] at hn ⊢
  simp only [List.map_cons] at hn
  have h1 := hf i sub[i] es ep s (List.getElem?_eq_getElem hlt) ha ho (by ((with_reducible refine Om.lm ‹_› ?_); simp +arith only)) (oh hn)
  have ha' : (eF s.heap d (bF (es ++ [sub[i]]) (ep + 1))).get? a = some (bF sub k) := (oo (Ne.symm had)).trans ha
  have ih := uu (d := d) (a := a) hd had hf m (i + 1) (es ++ [sub[i]]) (ep + 1) { s with heap := eF s.heap d (bF (es ++ [sub[i]]) (ep + 1)) } (Om.a7 hi) ha' (rh ho rfl) (by simp; ((with_reducible refine Om.lm ‹_› ?_); simp +arith only)) (ln (h := sub[i].hash) rfl hn)
  rw [List.range'_succ]
  simp only [List.forIn_cons]
  refine TR.to (TR.bind (n := 6) (m := 6 * m) h1 ih) (by simp +arith only) ?_
  simp only [ri, List.append_assoc, List.cons_append, List.nil_append]
  congr 3
  with_reducible exact Om.s1 _ _
theorem ur {d : Addr} {es : List DictEntry} (ha : s.heap.get? a = some (bF sub k)) (ho : s.heap.get? d = some (bF es ep)) (hd : n₀ ≤ d) (had : a ≠ d) (hs : a ≠ sysModules) (hes : es ≠ []) (hi : ∀ e ∈ sub, Gi e)
 (hl : es.length + sub.length < 10000) (hn : (es.map (·.hash) ++ sub.map (·.hash)).Nodup) :
 TR p w n₀ (5 + 6 * sub.length) q s (mergeMapping d (.ref a) false) q { s with heap := eF s.heap d (bF (es ++ sub) (ep + sub.length)) } () := by
 unfold mergeMapping
 refine TR.to (TR.bind (n := 1) (m := 4 + 6 * sub.length) (CS ha) ?_) (by simp +arith only) rfl
 dsimp only
 rw [if_pos rfl]
 refine TR.to (TR.bind (n := 1) (m := 3 + 6 * sub.length) (CV ha) ?_) (by simp +arith only) rfl
 refine TR.to (TR.bind (n := 0) (m := 3 + 6 * sub.length) .pure ?_) (by with_reducible exact Nat.zero_add _) rfl
 simp only [beq_self_eq_true]
 rw [if_neg (by simpa using hs)]
 refine TR.to (TR.bind (n := 1) (m := 2 + 6 * sub.length) (jr ho) ?_) (by simp +arith only) rfl
 rw [if_neg (by cases es with
  | nil => exact absurd rfl hes
  | cons x r => simp)]
 refine TR.to (TR.bind (n := 1) (m := 1 + 6 * sub.length) (jr ha) ?_) (by simp +arith only) rfl
 refine TR.bind (n := 1) (m := 6 * sub.length) (uq ha) ?_
 refine TR.bind (n := 6 * sub.length) (m := 0) (a := PUnit.unit) ?_ .pure
 rw [show sub.toArray.size = sub.length by simp, List.range_eq_range']
 refine TR.to (uu (k := k) hd had (fun i e es ep s hi' ha ho hl hn => ?_) sub.length 0 es ep s (by with_reducible exact Nat.zero_add _) ha ho hl (by simpa using hn)) rfl (by simp)
 obtain ⟨j, t, v, rfl⟩ := hi e (List.mem_of_getElem? hi')
 refine TR.to (TR.bind (n := 1) (m := 5) (jr ha) ?_) (by decide) rfl
 rw [show (sub.toArray)[i]? = sub[i]? by simp, hi']
 dsimp only
 rw [if_neg (show ¬ (false = true) by simp)]
 refine TR.bind (n := 4) (m := 1) (TR.holding (Ig ho hd hl hn)) ?_
 . refine TR.bind (n := 1) (m := 0) (uq (s := { s with heap := eF s.heap d _ }) ((oo (Ne.symm had)).trans ha)) ?_
   rw [if_neg (by simp)]
   exact .pure
end
end
section
open PySem PySem.W PyProof.Rows
def ew (h₀ : Heap) (es : List DictEntry) (ep : Nat) (subs : List Obj) : Heap := subs.foldl Heap.push (h₀.push (bF es ep))
theorem nY {h₀ : Heap} {es : List DictEntry} {subs : List Obj} : (ew h₀ es ep subs).push o = ew h₀ es ep (subs ++ [o]) := by
 unfold ew; rw [List.foldl_append]; rfl
theorem mW : ∀ (l : List Obj) (h : Heap), (l.foldl Heap.push h).objs.size = h.objs.size + l.length
 | [], _ => rfl
 | o :: l, h => by rw [List.foldl_cons, mW l, Heap.size_push, List.length_cons]; with_reducible exact Om.s1 _ _
theorem nX {h₀ : Heap} {es : List DictEntry} {subs : List Obj} : (ew h₀ es ep subs).objs.size = h₀.objs.size + 1 + subs.length := by
 unfold ew; rw [mW, Heap.size_push]
theorem om {a : Addr} {x : Obj} : ∀ (l : List Obj) (h : Heap), h.get? a = some x -> (l.foldl Heap.push h).get? a = some x
 | [], _, e => e
 | o :: l, h, e => om l _ (Heap.get?_push_of_some _ e)
theorem pA {h₀ : Heap} {es : List DictEntry} {subs : List Obj} : (ew h₀ es ep subs).get? h₀.objs.size = some (bF es ep) := om _ _ (Heap.get?_push_size _ rfl)
theorem tW {d : Addr} (hd : d < h.objs.size) : eF (h.push o) d o' = (eF h d o').push o := by
 cases h
 simp only [eF, Heap.update, Heap.push, Heap.mk.injEq, and_true]
 apply Array.ext
 . simp
 . intro i h1 h2
   have hd' : @LT.lt Nat _ d (Array.size ‹Array Obj›) := hd
   simp only [Array.getElem_modify, Array.getElem_push, Array.size_modify]
   by_cases q : d = i
   . subst q; simp [hd']
   . simp [q]
theorem on {d : Addr} {o : Obj} : ∀ (l : List Obj) (h : Heap), d < h.objs.size -> eF (l.foldl Heap.push h) d o = l.foldl Heap.push (eF h d o)
 | [], _, _ => rfl
 | x :: l, h, hd => by
  rw [List.foldl_cons, List.foldl_cons, on l _ (by rw [Heap.size_push]; exact Nat.lt_succ_of_lt hd), tW hd]
theorem pB {h₀ : Heap} {es es' : List DictEntry} {ep' : Nat} {subs : List Obj} : eF (ew h₀ es ep subs) h₀.objs.size (bF es' ep') = ew h₀ es' ep' subs := by
 unfold ew
 rw [on _ _ (by rw [Heap.size_push]; exact Nat.lt_succ_self _), oq]
noncomputable abbrev jm (pos : Pos) (L : List (Int × Str)) : List (Option (Sem Value) × Sem Value) := L.map fun d => (some (mkInt d.1), vT pos d.2)
noncomputable abbrev l6 (run : List (Sem Value × Sem Value)) (main : Option Addr) : Sem (Option Addr) :=
 if run.isEmpty = true then pure main
 else match main with
  | none => do
   let x <- subDict run
   pure (some x)
  | some d => do
   let sub <- PySem.holding [Value.ref d] (subDict run)
   (PySem.holding [Value.ref d, Value.ref sub] (mergeMapping d (Value.ref sub) false)).onRaise fun x => do
    let _ <- PySem.holding [Value.ref d, x] (runValue (Code.builtin "proto.let_go" {}))
    pure ()
   pure (some d)
section
variable {p : Program} {b : Bool} {h₀ : Heap}
theorem Bc (R : List (Int × Str)) (h1 : 15 < R.length) (h2 : R.length < 100) (hsz : n₀ ≤ s.heap.objs.size) (hn : (R.map fun x => hashInt x.1).Nodup) :
 TR p (w.withFollow "special-get-raises" b) n₀ (2 + 13 * R.length) q s (l6 (fC pos R) none) pos { s with heap := ew s.heap (fH R s.toks) R.length [], toks := s.toks + 3 * R.length } (some s.heap.objs.size) := by
 unfold l6
 have hne : (fC pos R).isEmpty = false := by cases R with
  | nil => simp at h1
  | cons => rfl
 rw [if_neg (by rw [hne]; exact Bool.false_ne_true)]
 exact TR.bind (n := 2 + 13 * R.length) (m := 0) (Bf R h1 h2 hsz hn) .pure
theorem CU {es : List DictEntry} {subs : List Obj} (R : List (Int × Str)) (h1 : 15 < R.length) (h2 : R.length < 100) (hh : s.heap = ew h₀ es ep subs) (hsz : n₀ ≤ h₀.objs.size) (l9 : sysModules < h₀.objs.size) (hes : es ≠ []) (hl : es.length + R.length < 10000)
 (hn : (es.map (·.hash) ++ R.map fun x => hashInt x.1).Nodup) :
 TR p (w.withFollow "special-get-raises" b) n₀ (7 + 19 * R.length) q s (l6 (fC pos R) (some h₀.objs.size)) pos { s with heap := ew h₀ (es ++ fH R s.toks) (ep + R.length) (subs ++ [bF (fH R s.toks) R.length]), toks := s.toks + 3 * R.length } (some h₀.objs.size) := by
 unfold l6
 have hne : (fC pos R).isEmpty = false := by cases R with
  | nil => simp at h1
  | cons => rfl
 rw [if_neg (by rw [hne]; exact Bool.false_ne_true)]
 have hnR : (R.map fun x => hashInt x.1).Nodup := (List.nodup_append.mp hn).2.1
 have hz : s.heap.objs.size = h₀.objs.size + 1 + subs.length := by rw [hh, nX]
 have z1 : s.heap.objs.size ≠ h₀.objs.size := by rw [hz]; exact Nat.ne_of_gt (Nat.lt_of_lt_of_le (Nat.lt_succ_self _) (Nat.le_add_right _ _))
 have z2 : s.heap.objs.size ≠ sysModules := by rw [hz]; exact Nat.ne_of_gt (Nat.lt_of_lt_of_le l9 (Nat.le_trans (Nat.le_succ _) (Nat.le_add_right _ _)))
 have e1 := Bf (p := p) (w := w) (b := b) (n₀ := n₀) (q := q) (s := s) (pos := pos) R h1 h2 (by rw [hz]; exact Om.d4 hsz) hnR
 have e2 := ur (p := p) (w := w.withFollow "special-get-raises" b) (n₀ := n₀) (q := pos) (s := { s with heap := s.heap.push (bF (fH R s.toks) R.length), toks := s.toks + 3 * R.length }) (d := h₀.objs.size) (a := s.heap.objs.size) (es := es) (ep := ep) (sub := fH R s.toks) (k := R.length)
  (Heap.get?_push_size _ rfl) (by rw [hh]; exact Heap.get?_push_of_some _ pA) hsz z1 z2 hes (t9 _ _) (by rw [i3]; exact hl) (by rw [km]; exact hn)
 refine TR.to (TR.bind (n := 2 + 13 * R.length) (m := 5 + 6 * R.length) (TR.holding e1) (TR.bind (n := 5 + 6 * R.length) (m := 0) (TR.onRaise (TR.holding (TR.to e2 (by rw [i3]) rfl))) .pure)) (by simp +arith only) ?_
 simp only [i3, hh, nY, pB]
theorem CT {es : List DictEntry} {subs : List Obj} (R : List (Int × Str)) (h1 : R ≠ []) (h2 : R.length ≤ 15) (hh : s.heap = ew h₀ es ep subs) (hsz : n₀ ≤ h₀.objs.size) (l9 : sysModules < h₀.objs.size) (hes : es ≠ []) (hl : es.length + R.length < 10000)
 (hn : (es.map (·.hash) ++ R.map fun x => hashInt x.1).Nodup) :
 TR p (w.withFollow "special-get-raises" b) n₀ (6 + 19 * R.length) q s (l6 (fC pos R) (some h₀.objs.size)) pos { s with heap := ew h₀ (es ++ eP R s.toks) (ep + R.length) (subs ++ [bF (eP R s.toks) R.length]), toks := s.toks + 3 * R.length } (some h₀.objs.size) := by
 unfold l6
 have hne : (fC pos R).isEmpty = false := by cases R with
  | nil => exact absurd rfl h1
  | cons => rfl
 rw [if_neg (by rw [hne]; exact Bool.false_ne_true)]
 have hnR : (R.map fun x => hashInt x.1).Nodup := (List.nodup_append.mp hn).2.1
 have hz : s.heap.objs.size = h₀.objs.size + 1 + subs.length := by rw [hh, nX]
 have z1 : s.heap.objs.size ≠ h₀.objs.size := by rw [hz]; exact Nat.ne_of_gt (Nat.lt_of_lt_of_le (Nat.lt_succ_self _) (Nat.le_add_right _ _))
 have z2 : s.heap.objs.size ≠ sysModules := by rw [hz]; exact Nat.ne_of_gt (Nat.lt_of_lt_of_le l9 (Nat.le_trans (Nat.le_succ _) (Nat.le_add_right _ _)))
 have e1 := CW (p := p) (w := w) (b := b) (n₀ := n₀) (q := q) (s := s) (pos := pos) R h1 h2 (by rw [hz]; exact Om.d4 hsz) hnR
 have e2 := ur (p := p) (w := w.withFollow "special-get-raises" b) (n₀ := n₀) (q := pos) (s := { s with heap := s.heap.push (bF (eP R s.toks) R.length), toks := s.toks + 3 * R.length }) (d := h₀.objs.size) (a := s.heap.objs.size) (es := es) (ep := ep) (sub := eP R s.toks) (k := R.length)
  (Heap.get?_push_size _ rfl) (by rw [hh]; exact Heap.get?_push_of_some _ pA) hsz z1 z2 hes (po _ _) (by rw [kl]; exact hl) (by rw [nJ]; exact hn)
 refine TR.to (TR.bind (n := 1 + 13 * R.length) (m := 5 + 6 * R.length) (TR.holding e1) (TR.bind (n := 5 + 6 * R.length) (m := 0) (TR.onRaise (TR.holding (TR.to e2 (by rw [kl]) rfl))) .pure)) (by simp +arith only) ?_
 simp only [kl, hh, nY, pB]
def uE : List (Int × Str) -> List (Int × Str) -> List DictEntry × Nat × List Obj × Nat -> List (Int × Str) × List DictEntry × Nat × List Obj × Nat
 | [], R, st => (R, st)
 | x :: L, R, (es, ep, subs, k) => if R.length + 1 = 17 then uE L [] (es ++ fH (R ++ [x]) k, ep + 17, subs ++ [bF (fH (R ++ [x]) k) 17], k + 51) else uE L (R ++ [x]) (es, ep, subs, k)
noncomputable def kY : List (Int × Str) -> Nat -> Nat
 | [], _ => 0
 | _ :: L, r => if r + 1 = 17 then 330 + kY L 0 else kY L (r + 1)
noncomputable abbrev vM := Option (Sem Value) × Sem Value -> Option Addr × List (Sem Value × Sem Value) -> Sem (ForInStep (Option Addr × List (Sem Value × Sem Value)))
def yJ (g : vM) : Prop := ∀ (k v : Sem Value) (main : Option Addr) (run : List (Sem Value × Sem Value)), g (some k, v) (main, run) =
 if ((run ++ [(k, v)]).length == 17) = true then (do let m <- l6 (run ++ [(k, v)]) main; pure (ForInStep.yield (m, []))) else pure (ForInStep.yield (main, run ++ [(k, v)]))
theorem vD {g : vM} (hg : yJ g) (hsz : n₀ ≤ h₀.objs.size) (l9 : sysModules < h₀.objs.size) : ∀ (L R : List (Int × Str)) (es : List DictEntry) (ep : Nat) (subs : List Obj) (s : Shared), R.length < 17 -> s.heap = ew h₀ es ep subs -> es ≠ [] -> es.length + R.length + L.length < 10000 ->
 (es.map (·.hash) ++ (R ++ L).map fun x => hashInt x.1).Nodup ->
 TR p (w.withFollow "special-get-raises" b) n₀ (kY L R.length) pos s (forIn (jm pos L) (some h₀.objs.size, fC pos R) g) pos
  { s with heap := ew h₀ (uE L R (es, ep, subs, s.toks)).2.1 (uE L R (es, ep, subs, s.toks)).2.2.1 (uE L R (es, ep, subs, s.toks)).2.2.2.1, toks := (uE L R (es, ep, subs, s.toks)).2.2.2.2 } (some h₀.objs.size, fC pos (uE L R (es, ep, subs, s.toks)).1)
 | [], R, es, ep, subs, s, _, hh, _, _, _ => by
  simp only [List.map_nil, List.forIn_nil, uE, kY]
  rw [<- hh]
  exact .pure
 | x :: L, R, es, ep, subs, s, hR, hh, hes, hl, hn => by
  simp only [List.map_cons, List.forIn_cons]
  rw [hg]
  have hrl : (fC pos R ++ [(mkInt x.1, vT pos x.2)]).length = R.length + 1 := by simp
  have hrp : fC pos R ++ [(mkInt x.1, vT pos x.2)] = fC pos (R ++ [x]) := by simp
  simp only [List.length_cons] at hl
  by_cases h17 : R.length + 1 = 17
  . rw [if_pos (by rw [hrl, h17]; rfl), hrp]
    have df : (R ++ [x]).length = 17 := by simp [h17]
    have hn' : (es.map (·.hash) ++ (R ++ [x]).map fun x => hashInt x.1).Nodup := by
     have : R ++ x :: L = (R ++ [x]) ++ L := by simp
     rw [this, List.map_append, <- List.append_assoc] at hn
     exact (List.nodup_append.mp hn).1
    have f1 := CU (p := p) (w := w) (b := b) (n₀ := n₀) (q := pos) (s := s) (pos := pos) (h₀ := h₀) (es := es) (ep := ep) (subs := subs) (R ++ [x]) (by rw [df]; decide) (by rw [df]; decide) hh hsz l9 hes (by rw [df]; exact Om.d3 hl h17) hn'
    rw [df] at f1
    have ih := vD hg hsz l9 L [] (es ++ fH (R ++ [x]) s.toks) (ep + 17) (subs ++ [bF (fH (R ++ [x]) s.toks) 17]) { s with heap := ew h₀ (es ++ fH (R ++ [x]) s.toks) (ep + 17) (subs ++ [bF (fH (R ++ [x]) s.toks) 17]), toks := s.toks + 51 } (by decide) rfl
     (by simp [hes]) (by simp [i3]; ((with_reducible refine Om.lm ‹_› ?_); simp +arith only)) (by
      rw [List.map_append, km, List.nil_append]
      have : R ++ x :: L = (R ++ [x]) ++ L := by simp
      rw [this, List.map_append, <- List.append_assoc] at hn
      exact hn)
    have e1 : uE (x :: L) R (es, ep, subs, s.toks) = uE L [] (es ++ fH (R ++ [x]) s.toks, ep + 17, subs ++ [bF (fH (R ++ [x]) s.toks) 17], s.toks + 51) := by simp only [uE]; rw [if_pos h17]
    have e2 : kY (x :: L) R.length = 330 + kY L 0 := by simp only [kY]; rw [if_pos h17]
    rw [e1, e2]
    exact TR.bind (n := 330) (m := kY L 0) (TR.bind (n := 330) (m := 0) f1 .pure) ih
  . rw [if_neg (by rw [hrl]; simp; exact Nat.add_one_ne_add_one_iff.mp h17), hrp]
    have ih := vD hg hsz l9 L (R ++ [x]) es ep subs s (by simp; exact Nat.lt_of_le_of_ne hR h17) hh hes (by simp; ((with_reducible refine Om.lm ‹_› ?_); simp +arith only)) (by simpa using hn)
    have e1 : uE (x :: L) R (es, ep, subs, s.toks) = uE L (R ++ [x]) (es, ep, subs, s.toks) := by simp only [uE]; rw [if_neg h17]
    have e2 : kY (x :: L) R.length = kY L (R ++ [x]).length := by simp only [kY]; rw [if_neg h17]; simp
    rw [e1, e2]
    exact TR.to (TR.bind (n := 0) (m := kY L (R ++ [x]).length) .pure ih) (by with_reducible exact Nat.zero_add _) rfl
end
end
section
open PySem PySem.W PyProof.Rows
section
variable {p : Program} {b : Bool} {h₀ : Heap}
def ei : List (Int × Str) -> List (Int × Str) -> Nat -> List (Int × Str) × List DictEntry × Nat × List Obj × Nat
 | [], R, k => (R, [], 0, [], k)
 | x :: L, R, k => if R.length + 1 = 17 then uE L [] (fH (R ++ [x]) k, 17, [], k + 51) else ei L (R ++ [x]) k
def jB : List (Int × Str) -> Nat -> Nat
 | [], _ => 0
 | _ :: L, r => if r + 1 = 17 then 223 + kY L 0 else jB L (r + 1)
theorem wG {g : vM} (hg : yJ g) (hsz : n₀ ≤ s.heap.objs.size) (l9 : sysModules < s.heap.objs.size) : ∀ (L R : List (Int × Str)), R.length < 17 -> 17 ≤ R.length + L.length -> R.length + L.length < 10000 -> ((R ++ L).map fun x => hashInt x.1).Nodup ->
 TR p (w.withFollow "special-get-raises" b) n₀ (jB L R.length) pos s (forIn (jm pos L) (none, fC pos R) g) pos
  { s with heap := ew s.heap (ei L R s.toks).2.1 (ei L R s.toks).2.2.1 (ei L R s.toks).2.2.2.1, toks := (ei L R s.toks).2.2.2.2 } (some s.heap.objs.size, fC pos (ei L R s.toks).1)
 | [], R, hR, h17, _, _ => by simp at h17; lia
 | x :: L, R, hR, h17, hl, hn => by
  simp only [List.map_cons, List.forIn_cons]
  rw [hg]
  have hrl : (fC pos R ++ [(mkInt x.1, vT pos x.2)]).length = R.length + 1 := by simp
  have hrp : fC pos R ++ [(mkInt x.1, vT pos x.2)] = fC pos (R ++ [x]) := by simp
  simp only [List.length_cons] at hl h17
  by_cases h : R.length + 1 = 17
  . rw [if_pos (by rw [hrl, h]; rfl), hrp]
    have df : (R ++ [x]).length = 17 := by simp [h]
    have hn' : ((R ++ [x]).map fun x => hashInt x.1).Nodup := by
     have : R ++ x :: L = (R ++ [x]) ++ L := by simp
     rw [this, List.map_append] at hn
     exact (List.nodup_append.mp hn).1
    have f1 := Bc (p := p) (w := w) (b := b) (n₀ := n₀) (q := pos) (s := s) (pos := pos) (R ++ [x]) (by rw [df]; decide) (by rw [df]; decide) hsz hn'
    rw [df] at f1
    have ih := vD (p := p) (w := w) (b := b) (pos := pos) (h₀ := s.heap) hg hsz l9 L [] (fH (R ++ [x]) s.toks) 17 [] { s with heap := ew s.heap (fH (R ++ [x]) s.toks) 17 [], toks := s.toks + 51 } (by decide) rfl
     (by intro e; have := congrArg List.length e; rw [i3, df] at this; simp at this) (by rw [i3, df]; simp; exact Om.d1 hl h) (by
      rw [km, List.nil_append]
      have : R ++ x :: L = (R ++ [x]) ++ L := by simp
      rw [this, List.map_append] at hn
      exact hn)
    have e1 : ei (x :: L) R s.toks = uE L [] (fH (R ++ [x]) s.toks, 17, [], s.toks + 51) := by simp only [ei]; rw [if_pos h]
    have e2 : jB (x :: L) R.length = 223 + kY L 0 := by simp only [jB]; rw [if_pos h]
    rw [e1, e2]
    exact TR.bind (n := 223) (m := kY L 0) (TR.bind (n := 223) (m := 0) f1 .pure) ih
  . rw [if_neg (by rw [hrl]; simp; exact Nat.add_one_ne_add_one_iff.mp h), hrp]
    have ih := wG hg hsz l9 L (R ++ [x]) (by simp; exact Nat.lt_of_le_of_ne hR h) (by simp; exact Om.d2 h17) (by simp; ((with_reducible refine Om.lm ‹_› ?_); simp +arith only)) (by simpa using hn)
    have e1 : ei (x :: L) R s.toks = ei L (R ++ [x]) s.toks := by simp only [ei]; rw [if_neg h]
    have e2 : jB (x :: L) R.length = jB L (R ++ [x]).length := by simp only [jB]; rw [if_neg h]; simp
    rw [e1, e2]
    exact TR.to (TR.bind (n := 0) (m := jB L (R ++ [x]).length) .pure ih) (by with_reducible exact Nat.zero_add _) rfl
theorem vC (L : List (Int × Str)) (hsz : n₀ ≤ s.heap.objs.size) (l9 : sysModules < s.heap.objs.size) (h17 : 17 ≤ L.length) (hl : L.length < 5000) (hn : (L.map fun x => hashInt x.1).Nodup)
 (hR : (ei L [] s.toks).1 ≠ []) (hR' : (ei L [] s.toks).1.length ≤ 15) (hes : (ei L [] s.toks).2.1 ≠ []) (hel : (ei L [] s.toks).2.1.length < 5000)
 (hn' : ((ei L [] s.toks).2.1.map (·.hash) ++ (ei L [] s.toks).1.map fun x => hashInt x.1).Nodup) :
 TR p (w.withFollow "special-get-raises" b) n₀ (jB L 0 + (6 + 19 * (ei L [] s.toks).1.length)) pos s (dictDisplay (jm pos L)) pos
  { s with heap := ew s.heap ((ei L [] s.toks).2.1 ++ eP (ei L [] s.toks).1 (ei L [] s.toks).2.2.2.2) ((ei L [] s.toks).2.2.1 + (ei L [] s.toks).1.length) ((ei L [] s.toks).2.2.2.1 ++ [bF (eP (ei L [] s.toks).1 (ei L [] s.toks).2.2.2.2) (ei L [] s.toks).1.length]), toks := (ei L [] s.toks).2.2.2.2 + 3 * (ei L [] s.toks).1.length } (.ref s.heap.objs.size) := by
 unfold dictDisplay
 dsimp only
 have h1 := fun (g : vM) (hg : yJ g) => wG (p := p) (w := w) (b := b) (pos := pos) (s := s) hg hsz l9 L [] (by decide) (by simpa using h17) (by simp; with_reducible exact Om.lS (OfNat.ofNat _) ‹_› rfl) (by simpa using hn)
 generalize hD : ei L [] s.toks = D at *
 obtain ⟨R, es, ep, subs, k⟩ := D
 have h2 := CT (p := p) (w := w) (b := b) (n₀ := n₀) (q := pos) (pos := pos) (h₀ := s.heap) (s := { s with heap := ew s.heap es ep subs, toks := k }) (es := es) (ep := ep) (subs := subs) R hR hR' rfl hsz l9 hes (by
  have a1 : es.length < 5000 := hel
  have a2 : R.length ≤ 15 := hR'
  with_reducible exact Om.aS (OfNat.ofNat _) (OfNat.ofNat _) ‹_› ‹_› rfl) hn'
 refine TR.bind (n := jB L 0) (m := 6 + 19 * R.length) (h1 _ ?_) (TR.bind (n := 6 + 19 * R.length) (m := 0) h2 .pure)
 intro k v main run
 rfl
end
end
section
open PySem PySem.W PyProof.Rows
noncomputable def vX : List Stmt -> List (Option Expr)
 | .Assign _ (.Dict ks _ _) _ :: _ => ks
 | _ => []
noncomputable def vY : List Stmt -> List Expr
 | .Assign _ (.Dict _ vs _) _ :: _ => vs
 | _ => []
noncomputable def zz : List (Option Expr) -> List Expr -> List (Int × Str)
 | some (.Constant (.int i) _ _) :: ks, .Constant (.str x) _ _ :: vs => (i, x) :: zz ks vs
 | _, _ => []
def sw : List (Int × Str) := zz (vX (fy 3 ah)) (vY (fy 3 ah))
def jv := ei sw [] 256
def Gr : List DictEntry := jv.2.1 ++ eP jv.1 jv.2.2.2.2
def Gs : Obj := bF Gr (jv.2.2.1 + jv.1.length)
def uK : List Obj := jv.2.2.2.1 ++ [bF (eP jv.1 jv.2.2.2.2) jv.1.length]
def cr (j : Nat) : Obj := uK.getD j default
noncomputable abbrev lf (o : Obj) : BT := .node o .nil .nil
noncomputable abbrev nd (o : Obj) (a b : BT) : BT := .node o a b
noncomputable abbrev E0 : BT := .nil
noncomputable abbrev i0 (i : Int) : Value := .int i 0
noncomputable abbrev rf (a : Addr) : Value := .ref a
noncomputable abbrev sv (l : List Nat) (t : Nat) : Value := .str (st l) t
noncomputable def vs : List Nat -> List Value
 | a :: b :: r => .int a b :: vs r
 | _ => []
noncomputable def PL : Nat -> Nat -> Nat -> List (Int × Value) -> List (Int × Value)
 | 0, _, _, r => r
 | n + 1, a, b, r => ((a : Int), .int a b) :: PL n (a + 1) (b + 1) r
def zs : List Nat -> List (Int × Value)
 | a :: b :: n :: r => PL n a b (zs r)
 | _ => []
noncomputable def MD : Nat -> Nat -> List Nat -> List Nat
 | 0, _, r => r
 | n + 1, a, r => a :: MD n (a + 1) r
def ns : List Nat -> List Nat
 | a :: n :: r => MD n a (ns r)
 | _ => []
noncomputable abbrev zO (l : List Nat) (n m : Nat) (p : List Nat) (k : Nat) (b : Bool) : Obj := ⟨.type "set", none, .set ⟨zs l⟩ n ⟨m, ⟨ns p⟩, ⟨[]⟩, 0, b, k, true⟩, ⟨[]⟩⟩
noncomputable abbrev gO (s : String) (l : List Value) : Obj := ⟨.type s, none, .fields ⟨l⟩, ⟨[]⟩⟩
noncomputable abbrev lO (s : String) (n : Nat) (l : List Value) : Obj := ⟨.type s, none, .seq ⟨l⟩ n, ⟨[]⟩⟩
noncomputable abbrev nO (l : List Value) : Obj := ⟨.none, none, .fields ⟨l⟩, ⟨[]⟩⟩
noncomputable abbrev kO (c : Value) (d : Data) : Obj := ⟨c, none, d, ⟨[]⟩⟩
noncomputable abbrev fO (l : List Nat) (k : Nat) (m : List Nat) (t c : Nat) : Data := .func { name := st l, qualname := st l, params := AB ah k, body := .stmts (bd ah k), scope := aQ ah k, globals := 3, closure := [], defaults := .none, kwdefaults := .none, doc := .none, pyModule := sv m t, annotations := none, code := .ref c, closureTuple := .none, builtins := 0 }
noncomputable abbrev pO (l : List Nat) (k : Nat) : Data := .func { name := st l, qualname := st l, params := AB ah k, body := .stmts (bd ah k), scope := aQ ah k, globals := 0, closure := [], defaults := .none, kwdefaults := .none, doc := .none, pyModule := .none, annotations := none, code := .none, closureTuple := .none, builtins := 0 }
noncomputable abbrev dE (l : List DictEntry) (n : Nat) : Obj := ⟨.type "dict", none, .dict ⟨l⟩ n, ⟨[]⟩⟩
noncomputable abbrev sh (t : Params -> BT) (a b : Nat) (w : World) (os : OsState) : SharedT := ⟨t w.params, a, {}, ⟨[]⟩, {}, b, os⟩
noncomputable abbrev aF (l : List Nat) := l
abbrev cs0 := aF [60,109,111,100,117,108,101,62]
abbrev gc := aF [47,99,108,97,105,109,47,99,117,116,46,112,121]
abbrev cs2 := aF [95,95,109,97,105,110,95,95]
abbrev Di := aF [99,112,121,51,49,51,46,115,116,114,105,110,103,112,114,101,112]
abbrev PM := aF [95,95,110,97,109,101,95,95]
abbrev cs5 := aF [95,95,100,111,99,95,95]
abbrev cs6 := aF [95,95,112,97,99,107,97,103,101,95,95]
abbrev cs7 := aF [95,95,108,111,97,100,101,114,95,95]
abbrev cs8 := aF [95,95,115,112,101,99,95,95]
abbrev cs9 := aF [95,95,97,110,110,111,116,97,116,105,111,110,115,95,95]
abbrev cs10 := aF [95,95,98,117,105,108,116,105,110,115,95,95]
abbrev cs11 := aF [95,95,102,105,108,101,95,95]
abbrev cs12 := aF [95,95,99,97,99,104,101,100,95,95]
abbrev cs13 := aF [98,49,95,115,101,116]
abbrev zf := aF [105,110,95,116,97,98,108,101,95,98,49]
abbrev uP := aF [99,111,100,101]
abbrev cs16 := aF [98,51,95,101,120,99,101,112,116,105,111,110,115]
abbrev zg := aF [109,97,112,95,116,97,98,108,101,95,98,51]
abbrev zj := aF [105,110,95,116,97,98,108,101,95,99,52]
abbrev cs19 := aF [114]
abbrev cs20 := aF [99]
abbrev cs21 := aF [99,54,95,115,101,116]
abbrev zl := aF [105,110,95,116,97,98,108,101,95,99,54]
abbrev cs23 := aF [99,55,95,115,101,116]
abbrev zm := aF [105,110,95,116,97,98,108,101,95,99,55]
abbrev cs25 := aF [99,56,95,115,101,116]
abbrev zn := aF [105,110,95,116,97,98,108,101,95,99,56]
abbrev cs27 := aF [99,57,95,115,101,116]
abbrev uQ := aF [99,112,121,51,49,51,46,100,105,115]
abbrev zo := aF [105,110,95,116,97,98,108,101,95,99,57]
abbrev cs30 := aF [67,79,77,80,73,76,69,82,95,70,76,65,71,95,78,65,77,69,83]
abbrev zp := aF [112,114,101,116,116,121,95,102,108,97,103,115]
abbrev cs32 := aF [79,80,84,73,77,73,90,69,68]
abbrev cs33 := aF [78,69,87,76,79,67,65,76,83]
abbrev cs34 := aF [86,65,82,65,82,71,83]
abbrev cs35 := aF [86,65,82,75,69,89,87,79,82,68,83]
abbrev cs36 := aF [78,69,83,84,69,68]
abbrev cs37 := aF [71,69,78,69,82,65,84,79,82]
abbrev cs38 := aF [78,79,70,82,69,69]
abbrev cs39 := aF [67,79,82,79,85,84,73,78,69]
abbrev cs40 := aF [73,84,69,82,65,66,76,69,95,67,79,82,79,85,84,73,78,69]
abbrev cs41 := aF [65,83,89,78,67,95,71,69,78,69,82,65,84,79,82]
abbrev cs42 := aF [102,108,97,103,115]
abbrev cs43 := aF [110,97,109,101,115]
abbrev cs44 := aF [105]
abbrev cs45 := aF [102,108,97,103]
abbrev sU := aF [95,85,110,107,110,111,119,110]
abbrev cs47 := aF [95,95,109,111,100,117,108,101,95,95]
abbrev cs48 := aF [95,95,113,117,97,108,110,97,109,101,95,95]
abbrev cs49 := aF [95,95,102,105,114,115,116,108,105,110,101,110,111,95,95]
abbrev BI := aF [95,95,114,101,112,114,95,95]
abbrev cs51 := aF [95,95,115,116,97,116,105,99,95,97,116,116,114,105,98,117,116,101,115,95,95]
abbrev cs52 := aF [115,101,108,102]
abbrev Gy := aF [95,85,110,107,110,111,119,110,46,95,95,114,101,112,114,95,95]
abbrev KO := aF [95,95,100,105,99,116,95,95]
abbrev KP := aF [95,95,119,101,97,107,114,101,102,95,95]
abbrev cs56 := aF [85,78,75,78,79,87,78]
abbrev zq := aF [95,103,101,116,95,110,97,109,101,95,105,110,102,111]
abbrev zr := aF [95,112,97,114,115,101,95,118,97,114,105,110,116]
abbrev cs59 := aF [110,97,109,101,95,105,110,100,101,120]
abbrev cs60 := aF [103,101,116,95,110,97,109,101]
abbrev cs61 := aF [101,120,116,114,97,105,110,102,111]
abbrev cs62 := aF [97,114,103,118,97,108]
abbrev KQ := aF [105,116,101,114,97,116,111,114]
abbrev cs64 := aF [98]
abbrev cs65 := aF [118,97,108]
abbrev BJ := aF [99,112,121,51,49,51,46,116,111,107,101,110]
abbrev cs67 := aF [69,78,68,77,65,82,75,69,82]
abbrev cs68 := aF [76,80,65,82]
abbrev cs69 := aF [82,80,65,82]
abbrev cs70 := aF [76,83,81,66]
abbrev cs71 := aF [82,83,81,66]
abbrev cs72 := aF [67,79,76,79,78]
abbrev cs73 := aF [67,79,77,77,65]
abbrev cs74 := aF [83,69,77,73]
abbrev cs75 := aF [80,76,85,83]
abbrev cs76 := aF [77,73,78,85,83]
abbrev cs77 := aF [83,84,65,82]
abbrev cs78 := aF [83,76,65,83,72]
abbrev cs79 := aF [86,66,65,82]
abbrev cs80 := aF [65,77,80,69,82]
abbrev cs81 := aF [76,69,83,83]
abbrev cs82 := aF [71,82,69,65,84,69,82]
abbrev cs83 := aF [69,81,85,65,76]
abbrev cs84 := aF [68,79,84]
abbrev cs85 := aF [80,69,82,67,69,78,84]
abbrev cs86 := aF [76,66,82,65,67,69]
abbrev cs87 := aF [82,66,82,65,67,69]
abbrev cs88 := aF [69,81,69,81,85,65,76]
abbrev cs89 := aF [78,79,84,69,81,85,65,76]
abbrev cs90 := aF [76,69,83,83,69,81,85,65,76]
abbrev cs91 := aF [71,82,69,65,84,69,82,69,81,85,65,76]
abbrev cs92 := aF [84,73,76,68,69]
abbrev cs93 := aF [67,73,82,67,85,77,70,76,69,88]
abbrev cs94 := aF [76,69,70,84,83,72,73,70,84]
abbrev cs95 := aF [82,73,71,72,84,83,72,73,70,84]
abbrev cs96 := aF [68,79,85,66,76,69,83,84,65,82]
abbrev cs97 := aF [80,76,85,83,69,81,85,65,76]
abbrev cs98 := aF [77,73,78,69,81,85,65,76]
abbrev cs99 := aF [83,84,65,82,69,81,85,65,76]
abbrev Jj := aF [83,76,65,83,72,69,81,85,65,76]
abbrev Jk := aF [80,69,82,67,69,78,84,69,81,85,65,76]
abbrev Jl := aF [65,77,80,69,82,69,81,85,65,76]
abbrev Jm := aF [86,66,65,82,69,81,85,65,76]
abbrev Jn := aF [67,73,82,67,85,77,70,76,69,88,69,81,85,65,76]
abbrev Jo := aF [76,69,70,84,83,72,73,70,84,69,81,85,65,76]
abbrev Jp := aF [82,73,71,72,84,83,72,73,70,84,69,81,85,65,76]
abbrev Jq := aF [68,79,85,66,76,69,83,84,65,82,69,81,85,65,76]
abbrev Jr := aF [68,79,85,66,76,69,83,76,65,83,72]
abbrev Js := aF [68,79,85,66,76,69,83,76,65,83,72,69,81,85,65,76]
abbrev Jt := aF [65,84]
abbrev Ju := aF [65,84,69,81,85,65,76]
abbrev Jv := aF [82,65,82,82,79,87]
abbrev Jw := aF [69,76,76,73,80,83,73,83]
abbrev Jx := aF [67,79,76,79,78,69,81,85,65,76]
abbrev Jy := aF [69,88,67,76,65,77,65,84,73,79,78]
abbrev Jz := aF [78,84,95,79,70,70,83,69,84]
abbrev JA := aF [69,88,65,67,84,95,84,79,75,69,78,95,84,89,80,69,83]
abbrev JB := aF [33]
abbrev JC := aF [33,61]
abbrev JD := aF [37]
abbrev JE := aF [37,61]
abbrev JF := aF [38]
abbrev JG := aF [38,61]
abbrev JH := aF [40]
abbrev JI := aF [41]
abbrev JJ := aF [42]
abbrev JK := aF [42,42]
abbrev JL := aF [42,42,61]
abbrev JM := aF [42,61]
abbrev JN := aF [43]
abbrev JO := aF [43,61]
abbrev JP := aF [44]
abbrev JQ := aF [45]
abbrev JR := aF [45,61]
abbrev JS := aF [45,62]
abbrev JT := aF [46]
abbrev JU := aF [46,46,46]
abbrev JV := aF [47]
abbrev JW := aF [47,47]
abbrev JX := aF [47,47,61]
abbrev JY := aF [47,61]
abbrev JZ := aF [58]
abbrev K0 := aF [58,61]
abbrev K1 := aF [59]
abbrev K2 := aF [60]
abbrev K3 := aF [60,60]
abbrev K5 := aF [60,60,61]
abbrev K6 := aF [60,61]
abbrev K7 := aF [61]
abbrev K8 := aF [61,61]
abbrev K9 := aF [62]
abbrev Ka := aF [62,61]
abbrev Kb := aF [62,62]
abbrev Kd := aF [62,62,61]
abbrev Ke := aF [64]
abbrev Kf := aF [64,61]
abbrev Kg := aF [91]
abbrev Kh := aF [93]
abbrev Ki := aF [94]
abbrev Kj := aF [94,61]
abbrev Kk := aF [123]
abbrev Kl := aF [124]
abbrev Km := aF [124,61]
abbrev Ko := aF [125]
abbrev Kq := aF [126]
abbrev jw := aF [108,97,119,95,107,108,48,48,48,52,95,48,49]
abbrev sD := aF [73,83,84,69,82,77,73,78,65,76]
abbrev sF := aF [73,83,78,79,78,84,69,82,77,73,78,65,76]
abbrev sG := aF [73,83,69,79,70]
abbrev sH := aF [95,108,97,119,95,109,105,120]
abbrev sI := aF [95,108,97,119,95,105,116,101,109,115]
abbrev sJ := aF [95,108,97,119,95,115,97,121,105,110,103,115]
abbrev sK := aF [95,108,97,119,95,99,111,100,101,115]
abbrev zh := aF [120]
abbrev Df := aF [116,97,98,108,101]
abbrev Kr := aF [111,110,101]
abbrev Ks := aF [116,119,111]
abbrev Kt := aF [99,101,108,108,115]
abbrev Dg := aF [105,116,101,109,115]
abbrev Ku := aF [99,101,108,108]
abbrev Dh := aF [108,101,116,116,101,114,115]
abbrev Kv := aF [107,110,111,119,110]
abbrev Kw := aF [114,111,119,115]
abbrev Kx := aF [100,111,110,101]
abbrev Ky := aF [111,116,104,101,114]
abbrev Kz := aF [110,117,109,98,101,114]
abbrev KA := aF [98,97,114]
abbrev KB := aF [112,97,105,114]
abbrev KC := aF [109,97,100,101]
abbrev sL := aF [95,108,97,119,95,114,101,97,100]
abbrev sM := aF [95,108,97,119,95,106,117,100,103,101,100]
abbrev sO := aF [95,108,97,119,95,115,121,109,98,111,108,115]
abbrev sQ := aF [95,108,97,119,95,116,97,98,108,101,115]
abbrev sR := aF [95,108,97,119,95,107,101,101,112,115]
abbrev sS := aF [95,108,97,119,95,119,111,114,100,115]
abbrev sT := aF [108,97,119]
abbrev KD := aF [116,97,112,101]
abbrev KE := aF [99,111,100,101,115]
abbrev KF := aF [98,97,99,107]
abbrev KG := aF [116,111,108,100]
abbrev KH := aF [112,105,108,101]
abbrev KI := aF [108,111,111,107]
abbrev KJ := aF [115,121,109,98,111,108]
abbrev KK := aF [115,97,121,115]
abbrev KL := aF [97,110,115,119,101,114]
abbrev KN := aF [103,111,111,100]
section
variable (b : Bool) (P : Params)
def e4 := kh P PM 165 (sv Di 187)
def e5 := kh P cs5 166 .none
def e6 := kh P cs6 167 .none
def e7 := kh P cs7 168 (.builtin "__main__.__loader__#opaque")
def e8 := kh P cs8 169 .none
def e9 := kh P cs9 170 (rf 6)
def e10 := kh P cs10 171 (rf 4)
def e11 := kh P cs11 173 (sv gc 172)
def e12 := kh P cs12 174 .none
def e14 := kh P cs13 248 (rf 22)
def e25 := kh P zf 255 (rf 32)
def e32 := kh P cs16 2206 (rf 33)
def e73 := kh P zg 2214 (rf 78)
def e74 := kh P zj 2222 (rf 85)
def e85 := kh P cs21 2236 (rf 87)
def e86 := kh P zl 2243 (rf 97)
def e97 := kh P cs23 2271 (rf 99)
def e98 := kh P zm 2278 (rf 109)
def e109 := kh P cs25 2319 (rf 123)
def e125 := kh P zn 2326 (rf 133)
def e132 := kh P cs27 2526 (rf 141)
def GH := kh P PM 165 (sv uQ 2534)
def e144 := kh P zo 2533 (rf 151)
def e145 := kh P cs30 2566 (rf 152)
def e146 := kh P zp 2576 (rf 159)
def e158 := kh P sU 2603 (rf 176)
def KY := kh P cs47 2584 (sv uQ 2534)
def e163 := kh P cs48 2586 (sv sU 2585)
def KZ := kh P cs49 2588 (.int 44 2587)
def L0 := kh P BI 2595 (rf 173)
def L1 := kh P cs51 2596 (rf 174)
def e175 := kh P KO 2598 (rf 177)
def e176 := kh P KP 2600 (rf 178)
def e177 := kh P cs5 2601 .none
def e184 := kh P cs56 2604 (rf 182)
def e185 := kh P zq 2614 (rf 189)
def e186 := kh P zr 2623 (rf 196)
def GI := kh P PM 165 (sv BJ 2624)
def e200 := kh P cs67 2627 (.int 0 2626)
def e201 := kh P cs68 2629 (.int 7 2628)
def e202 := kh P cs69 2631 (.int 8 2630)
def e203 := kh P cs70 2633 (.int 9 2632)
def e204 := kh P cs71 2635 (.int 10 2634)
def e205 := kh P cs72 2637 (.int 11 2636)
def e206 := kh P cs73 2639 (.int 12 2638)
def e207 := kh P cs74 2641 (.int 13 2640)
def e208 := kh P cs75 2643 (.int 14 2642)
def e209 := kh P cs76 2645 (.int 15 2644)
def e210 := kh P cs77 2647 (.int 16 2646)
def e211 := kh P cs78 2649 (.int 17 2648)
def e212 := kh P cs79 2651 (.int 18 2650)
def e213 := kh P cs80 2653 (.int 19 2652)
def e214 := kh P cs81 2655 (.int 20 2654)
def e215 := kh P cs82 2657 (.int 21 2656)
def e216 := kh P cs83 2659 (.int 22 2658)
def e217 := kh P cs84 2661 (.int 23 2660)
def e218 := kh P cs85 2663 (.int 24 2662)
def e219 := kh P cs86 2665 (.int 25 2664)
def e220 := kh P cs87 2667 (.int 26 2666)
def e221 := kh P cs88 2669 (.int 27 2668)
def e222 := kh P cs89 2671 (.int 28 2670)
def e223 := kh P cs90 2673 (.int 29 2672)
def e225 := kh P cs91 2675 (.int 30 2674)
def e226 := kh P cs92 2677 (.int 31 2676)
def e227 := kh P cs93 2679 (.int 32 2678)
def e228 := kh P cs94 2681 (.int 33 2680)
def e229 := kh P cs95 2683 (.int 34 2682)
def e230 := kh P cs96 2685 (.int 35 2684)
def e231 := kh P cs97 2687 (.int 36 2686)
def e232 := kh P cs98 2689 (.int 37 2688)
def e233 := kh P cs99 2691 (.int 38 2690)
def e234 := kh P Jj 2693 (.int 39 2692)
def e235 := kh P Jk 2695 (.int 40 2694)
def e236 := kh P Jl 2697 (.int 41 2696)
def e237 := kh P Jm 2699 (.int 42 2698)
def e238 := kh P Jn 2701 (.int 43 2700)
def e239 := kh P Jo 2703 (.int 44 2702)
def e240 := kh P Jp 2705 (.int 45 2704)
def e241 := kh P Jq 2707 (.int 46 2706)
def e242 := kh P Jr 2709 (.int 47 2708)
def e243 := kh P Js 2711 (.int 48 2710)
def e244 := kh P Jt 2713 (.int 49 2712)
def e245 := kh P Ju 2715 (.int 50 2714)
def e246 := kh P Jv 2717 (.int 51 2716)
def e247 := kh P Jw 2719 (.int 52 2718)
def e248 := kh P Jx 2721 (.int 53 2720)
def e249 := kh P Jy 2723 (.int 54 2722)
def e250 := kh P Jz 2725 (.int 256 2724)
def e252 := kh P JA 2822 (rf 197)
def e254 := kh P JB 2726 (.int 54 2722)
def e255 := kh P JC 2728 (.int 28 2670)
def e256 := kh P JD 2730 (.int 24 2662)
def e257 := kh P JE 2732 (.int 40 2694)
def zD := kh P JF 2734 (.int 19 2652)
def e259 := kh P JG 2736 (.int 41 2696)
def e260 := kh P JH 2738 (.int 7 2628)
def e261 := kh P JI 2740 (.int 8 2630)
def e262 := kh P JJ 2742 (.int 16 2646)
def e263 := kh P JK 2744 (.int 35 2684)
def e264 := kh P JL 2746 (.int 46 2706)
def e265 := kh P JM 2748 (.int 38 2690)
def e266 := kh P JN 2750 (.int 14 2642)
def e267 := kh P JO 2752 (.int 36 2686)
def e268 := kh P JP 2754 (.int 12 2638)
def e269 := kh P JQ 2756 (.int 15 2644)
def e270 := kh P JR 2758 (.int 37 2688)
def L2 := kh P JS 2760 (.int 51 2716)
def L3 := kh P JT 2762 (.int 23 2660)
def L4 := kh P JU 2764 (.int 52 2718)
def L5 := kh P JV 2766 (.int 17 2648)
def L6 := kh P JW 2768 (.int 47 2708)
def L7 := kh P JX 2770 (.int 48 2710)
def L8 := kh P JY 2772 (.int 39 2692)
def L9 := kh P JZ 2774 (.int 11 2636)
def Lc := kh P K0 2776 (.int 53 2720)
def Ld := kh P K1 2778 (.int 13 2640)
def Le := kh P K2 2780 (.int 20 2654)
def Lf := kh P K3 2782 (.int 33 2680)
def Lg := kh P K5 2784 (.int 44 2702)
def Lh := kh P K6 2786 (.int 29 2672)
def Li := kh P K7 2788 (.int 22 2658)
def Lj := kh P K8 2790 (.int 27 2668)
def Lk := kh P K9 2792 (.int 21 2656)
def Ll := kh P Ka 2794 (.int 30 2674)
def Lm := kh P Kb 2795 (.int 34 2682)
def Ln := kh P Kd 2796 (.int 45 2704)
def Lo := kh P Ke 2797 (.int 49 2712)
def Lq := kh P Kf 2798 (.int 50 2714)
def Lr := kh P Kg 2799 (.int 9 2632)
def Lu := kh P Kh 2800 (.int 10 2634)
def Lv := kh P Ki 2801 (.int 32 2678)
def Lw := kh P Kj 2802 (.int 43 2700)
def Lx := kh P Kk 2803 (.int 25 2664)
def Ly := kh P Kl 2804 (.int 18 2650)
def Lz := kh P Km 2805 (.int 42 2698)
def LA := kh P Ko 2806 (.int 26 2666)
def LB := kh P Kq 2807 (.int 31 2676)
def GJ := kh P PM 165 (sv jw 2844)
def e306 := kh P sD 2829 (rf 206)
def e307 := kh P sF 2836 (rf 213)
def e308 := kh P sG 2843 (rf 220)
def e309 := kh P sH 2854 (rf 227)
def e310 := kh P sI 2864 (rf 234)
def e311 := kh P sJ 2881 (rf 241)
def e312 := kh P sK 2887 (rf 246)
def e342 := kh P sL 2896 (rf 253)
def e343 := kh P sM 2902 (rf 258)
def e344 := kh P sO 2908 (rf 263)
def e345 := kh P sQ 2922 (rf 270)
def e346 := kh P sR 2928 (rf 275)
def e347 := kh P sS 2934 (rf 280)
def e348 := kh P sT 2940 (rf 285)
noncomputable def eL : List DictEntry := [GJ P, e5 P, e6 P, e7 P, e8 P, e9 P, e10 P, e11 P, e12 P, e14 P, e25 P, e32 P, e73 P, e74 P, e85 P, e86 P, e97 P, e98 P, e109 P, e125 P, e132 P, e144 P, e145 P, e146 P, e158 P, e184 P, e185 P, e186 P, e200 P, e201 P, e202 P, e203 P, e204 P, e205 P, e206 P, e207 P, e208 P, e209 P, e210 P, e211 P, e212 P, e213 P, e214 P, e215 P, e216 P, e217 P, e218 P, e219 P, e220 P, e221 P, e222 P, e223 P, e225 P, e226 P, e227 P, e228 P, e229 P, e230 P, e231 P, e232 P, e233 P, e234 P, e235 P, e236 P, e237 P, e238 P, e239 P, e240 P, e241 P, e242 P, e243 P, e244 P, e245 P, e246 P, e247 P, e248 P, e249 P, e250 P, e252 P, e306 P, e307 P, e308 P, e309 P, e310 P, e311 P, e312 P, e342 P, e343 P, e344 P, e345 P, e346 P, e347 P, e348 P]
noncomputable abbrev dM (P : Params) (e : DictEntry) (k n : Nat) : Obj := dE (e :: ((eL P).take k).tail) n
def o0 := lO "tuple" 0 []
def o1 := nO []
def o2 := gO "code" [(sv cs0 182), (sv cs0 183), (sv gc 184), (i0 1), (i0 0), (i0 0), (i0 0), (i0 0), (rf 11), (.bool false), (i0 181), (rf 12), .none, .none, .none, .none, (i0 185), (i0 1), (sv gc 186)]
def o3 : Obj := ⟨(.type "frame"), none, .plain, ⟨[(some (rf 13)), (some (rf 3)), (some (rf 3)), none, (some (sv cs2 164)), none, (some (rf 0))]⟩⟩
def o13 := dM P (e4 P) 9 9
def o15 := dM P (e4 P) 10 10
def xz := lO "list" 0 (vs [173,189,847,190,6150,191,6155,192,6156,193,6157,194,8203,195,8204,196,8205,197,8288,198,65279,199])
def yq := gO "range" (vs [65024,200,65040,201,1,202])
def AE := lO "list" 18 (vs [65024,205,65025,206,65026,207,65027,208,65028,209,65029,210,65030,211,65031,212,65032,213,65033,214,65034,215,65035,216,65036,217,65037,218,65038,219,65039,220])
def yr := gO "range_iterator" (vs [65040,0,0,0,1,0])
def yt := gO "StopIteration" [(rf 19), .none, .none, .none, (.bool false), .none]
def xA := lO "list" 0 (vs [173,189,847,190,6150,191,6155,192,6156,193,6157,194,8203,195,8204,196,8205,197,8288,198,65279,199,65024,205,65025,206,65026,207,65027,208,65028,209,65029,210,65030,211,65031,212,65032,213,65033,214,65034,215,65035,216,65036,217,65037,218,65038,219,65039,220])
def yn := zO [65024,205,6,6150,191,1,65030,211,4,6155,192,3,8203,195,3,65034,215,6,173,189,1,847,190,1,8288,198,1,65279,199,1] 29 127 [0,23,45,1,79,1,96,1,127,1] 2 b
def xB := gO "list_iterator" [.none, (i0 27)]
def uH := gO "StopIteration" [(rf 24), .none, .none, .none, (.bool false), .none]
def o26 := dM P (e4 P) 11 11
def o27 := nO [(i0 3), (i0 0), (rf 31)]
def yu := lO "tuple" 0 [(sv uP 252)]
def yv := kO .none (pO zf 2)
def DC := gO "code" [(sv zf 249), (sv zf 250), (sv gc 251), (i0 3), (i0 1), (i0 0), (i0 0), (i0 3), (rf 26), (.bool true), (i0 181), (rf 27), .none, (rf 28), (rf 29), (rf 30), (i0 253), (i0 3), (sv gc 254)]
def DD := kO (.type "function") (fO zf 2 Di 187 31)
def o33 := dM P (e4 P) 12 12
def HH := Gs
def HI := cr 0
def HJ := cr 1
def HK := cr 2
def HL := cr 3
def HM := cr 4
def HN := cr 5
def AF := cr 6
def AG := cr 7
def HO := cr 8
def HP := cr 9
def HQ := cr 10
def DE := cr 11
def DF := cr 12
def HR := cr 13
def HS := cr 14
def HT := cr 15
def HU := cr 16
def HV := cr 17
def HW := cr 18
def HX := cr 19
def HY := cr 20
def HZ := cr 21
def DG := cr 22
def DH := cr 23
def DI := cr 24
def DJ := cr 25
def DK := cr 26
def DL := cr 27
def DM := cr 28
def Nn := cr 29
def No := cr 30
def Np := cr 31
def Nq := cr 32
def Nr := cr 33
def Nt := cr 34
def Nu := cr 35
def Nv := cr 36
def Nw := cr 37
def o75 := dM P (e4 P) 14 14
def o76 := nO [(i0 3), (i0 0), (rf 31), (i0 6), (i0 0), (rf 77), (i0 11), (i0 0), (rf 84)]
def Nx := lO "tuple" 0 [(sv uP 2210), (sv cs19 2211)]
def Ny := kO .none (pO zg 4)
def Ir := gO "code" [(sv zg 2207), (sv zg 2208), (sv gc 2209), (i0 6), (i0 1), (i0 0), (i0 0), (i0 3), (rf 72), (.bool true), (i0 181), (rf 73), .none, (rf 74), (rf 75), (rf 76), (i0 2212), (i0 6), (sv gc 2213)]
def Iu := kO (.type "function") (fO zg 4 Di 187 77)
def Nz := lO "tuple" 0 [(sv uP 2218), (sv cs20 2219)]
def NA := kO .none (pO zj 5)
def NB := gO "code" [(sv zj 2215), (sv zj 2216), (sv gc 2217), (i0 11), (i0 1), (i0 0), (i0 0), (i0 3), (rf 79), (.bool true), (i0 181), (rf 80), .none, (rf 81), (rf 82), (rf 83), (i0 2220), (i0 11), (sv gc 2221)]
def NC := kO (.type "function") (fO zj 5 Di 187 84)
def o87 := dM P (e4 P) 16 16
def o88 := nO [(i0 3), (i0 0), (rf 31), (i0 6), (i0 0), (rf 77), (i0 11), (i0 0), (rf 84), (i0 19), (i0 0), (rf 96)]
def ND := gO "range" (vs [65529,2223,65534,2224,1,2225])
def PK := zO [65529,2226,1,65530,2228,1,65531,2230,1,65532,2232,1,65533,2234,1] 6 31 [25,5] 1 b
def NE := gO "range_iterator" (vs [65534,0,0,0,1,0])
def NF := gO "StopIteration" [(rf 89), .none, .none, .none, (.bool false), .none]
def NG := lO "tuple" 0 [(sv uP 2240)]
def PS := kO .none (pO zl 7)
def PU := gO "code" [(sv zl 2237), (sv zl 2238), (sv gc 2239), (i0 19), (i0 1), (i0 0), (i0 0), (i0 3), (rf 91), (.bool true), (i0 181), (rf 92), .none, (rf 93), (rf 94), (rf 95), (i0 2241), (i0 19), (sv gc 2242)]
def PW := kO (.type "function") (fO zl 7 Di 187 96)
def o99 := dM P (e4 P) 18 18
def ME := nO [(i0 3), (i0 0), (rf 31), (i0 6), (i0 0), (rf 77), (i0 11), (i0 0), (rf 84), (i0 19), (i0 0), (rf 96), (i0 22), (i0 0), (rf 108)]
def C4 := gO "range" (vs [12272,2244,12284,2245,1,2246])
def CZ := zO [12272,2247,1,12273,2249,1,12274,2251,1,12275,2253,1,12276,2255,1,12277,2257,1,12278,2259,1,12279,2261,1,12280,2263,1,12281,2265,1,12282,2267,1,12283,2269,1] 13 31 [16,12] 1 b
def C5 := gO "range_iterator" (vs [12284,0,0,0,1,0])
def C6 := gO "StopIteration" [(rf 101), .none, .none, .none, (.bool false), .none]
def tQ := lO "tuple" 0 [(sv uP 2275)]
def C7 := kO .none (pO zm 9)
def C8 := gO "code" [(sv zm 2272), (sv zm 2273), (sv gc 2274), (i0 22), (i0 1), (i0 0), (i0 0), (i0 3), (rf 103), (.bool true), (i0 181), (rf 104), .none, (rf 105), (rf 106), (rf 107), (i0 2276), (i0 22), (sv gc 2277)]
def AC := kO (.type "function") (fO zm 9 Di 187 108)
def o110 := dM P (e4 P) 19 19
def AD := lO "list" 0 (vs [832,2279,833,2280,8206,2281,8207,2282])
def C9 := gO "range" (vs [8234,2283,8239,2284,1,2285])
def Cc := lO "list" 7 (vs [8234,2288,8235,2289,8236,2290,8237,2291,8238,2292])
def Cd := gO "range_iterator" (vs [8239,0,0,0,1,0])
def Ce := gO "StopIteration" [(rf 114), .none, .none, .none, (.bool false), .none]
def Cf := lO "list" 0 (vs [832,2279,833,2280,8206,2281,8207,2282,8234,2288,8235,2289,8236,2290,8237,2291,8238,2292])
def Cg := gO "range" (vs [8298,2293,8304,2294,1,2295])
def Ch := lO "list" 8 (vs [8298,2298,8299,2299,8300,2300,8301,2301,8302,2302,8303,2303])
def Ci := gO "range_iterator" (vs [8304,0,0,0,1,0])
def Cj := gO "StopIteration" [(rf 120), .none, .none, .none, (.bool false), .none]
def Ck := lO "list" 0 (vs [832,2279,833,2280,8206,2281,8207,2282,8234,2288,8235,2289,8236,2290,8237,2291,8238,2292,8298,2298,8299,2299,8300,2300,8301,2301,8302,2302,8303,2303])
def D0 := zO [832,2279,2,8234,2288,4,8206,2281,2,8238,2292,1,8298,2298,6] 16 31 [0,2,10,13] 1 b
def Cm := gO "list_iterator" [.none, (i0 15)]
def Cn := gO "StopIteration" [(rf 125), .none, .none, .none, (.bool false), .none]
def Hn := dM P (e4 P) 20 20
def MF := nO [(i0 3), (i0 0), (rf 31), (i0 6), (i0 0), (rf 77), (i0 11), (i0 0), (rf 84), (i0 19), (i0 0), (rf 96), (i0 22), (i0 0), (rf 108), (i0 25), (i0 0), (rf 132)]
def Ho := lO "tuple" 0 [(sv uP 2323)]
def Hp := kO .none (pO zn 11)
def Hq := gO "code" [(sv zn 2320), (sv zn 2321), (sv gc 2322), (i0 25), (i0 1), (i0 0), (i0 0), (i0 3), (rf 127), (.bool true), (i0 181), (rf 128), .none, (rf 129), (rf 130), (rf 131), (i0 2324), (i0 25), (sv gc 2325)]
def Hr := kO (.type "function") (fO zn 11 Di 187 132)
def o133 := dM P (e4 P) 21 21
def Hs := lO "list" 0 [(.int 917505 2327)]
def Ht := gO "range" (vs [917536,2328,917632,2329,1,2330])
def Hu := lO "list" 98 (vs [917536,2333,917537,2334,917538,2335,917539,2336,917540,2337,917541,2338,917542,2339,917543,2340,917544,2341,917545,2342,917546,2343,917547,2344,917548,2345,917549,2346,917550,2347,917551,2348,917552,2349,917553,2350,917554,2351,917555,2352,917556,2353,917557,2354,917558,2355,917559,2356,917560,2357,917561,2358,917562,2359,917563,2360,917564,2361,917565,2362,917566,2363,917567,2364,917568,2365,917569,2366,917570,2367,917571,2368,917572,2369,917573,2370,917574,2371,917575,2372,917576,2373,917577,2374,917578,2375,917579,2376,917580,2377,917581,2378,917582,2379,917583,2380,917584,2381,917585,2382,917586,2383,917587,2384,917588,2385,917589,2386,917590,2387,917591,2388,917592,2389,917593,2390,917594,2391,917595,2392,917596,2393,917597,2394,917598,2395,917599,2396,917600,2397,917601,2398,917602,2399,917603,2400,917604,2401,917605,2402,917606,2403,917607,2404,917608,2405,917609,2406,917610,2407,917611,2408,917612,2409,917613,2410,917614,2411,917615,2412,917616,2413,917617,2414,917618,2415,917619,2416,917620,2417,917621,2418,917622,2419,917623,2420,917624,2421,917625,2422,917626,2423,917627,2424,917628,2425,917629,2426,917630,2427,917631,2428])
def Hv := gO "range_iterator" (vs [917632,0,0,0,1,0])
def Hw := gO "StopIteration" [(rf 138), .none, .none, .none, (.bool false), .none]
def Hx := lO "list" 0 (vs [917505,2327,917536,2333,917537,2334,917538,2335,917539,2336,917540,2337,917541,2338,917542,2339,917543,2340,917544,2341,917545,2342,917546,2343,917547,2344,917548,2345,917549,2346,917550,2347,917551,2348,917552,2349,917553,2350,917554,2351,917555,2352,917556,2353,917557,2354,917558,2355,917559,2356,917560,2357,917561,2358,917562,2359,917563,2360,917564,2361,917565,2362,917566,2363,917567,2364,917568,2365,917569,2366,917570,2367,917571,2368,917572,2369,917573,2370,917574,2371,917575,2372,917576,2373,917577,2374,917578,2375,917579,2376,917580,2377,917581,2378,917582,2379,917583,2380,917584,2381,917585,2382,917586,2383,917587,2384,917588,2385,917589,2386,917590,2387,917591,2388,917592,2389,917593,2390,917594,2391,917595,2392,917596,2393,917597,2394,917598,2395,917599,2396,917600,2397,917601,2398,917602,2399,917603,2400,917604,2401,917605,2402,917606,2403,917607,2404,917608,2405,917609,2406,917610,2407,917611,2408,917612,2409,917613,2410,917614,2411,917615,2412,917616,2413,917617,2414,917618,2415,917619,2416,917620,2417,917621,2418,917622,2419,917623,2420,917624,2421,917625,2422,917626,2423,917627,2424,917628,2425,917629,2426,917630,2427,917631,2428])
def D1 := zO [917505,2327,1,917536,2333,96] 100 511 [1,1,32,96] 3 b
def Hy := gO "list_iterator" [.none, (i0 97)]
def Hz := gO "StopIteration" [(rf 143), .none, .none, .none, (.bool false), .none]
def o147 := dM P (GH P) 24 24
def o148 := nO [(i0 3), (i0 0), (rf 31), (i0 6), (i0 0), (rf 77), (i0 11), (i0 0), (rf 84), (i0 19), (i0 0), (rf 96), (i0 22), (i0 0), (rf 108), (i0 25), (i0 0), (rf 132), (i0 28), (i0 0), (rf 150), (i0 32), (i0 0), (rf 158)]
def HA := lO "tuple" 0 [(sv uP 2530)]
def HB := kO .none (pO zo 13)
def HC := gO "code" [(sv zo 2527), (sv zo 2528), (sv gc 2529), (i0 28), (i0 1), (i0 0), (i0 0), (i0 3), (rf 145), (.bool true), (i0 181), (rf 146), .none, (rf 147), (rf 148), (rf 149), (i0 2531), (i0 28), (sv gc 2532)]
def HD := kO (.type "function") (fO zo 13 Di 187 150)
def HE : Obj := ⟨(.type "dict"), none, (.dict ⟨[⟨1, (.int 1 2536), (sv cs32 2537)⟩, ⟨2, (.int 2 2538), (sv cs33 2539)⟩, ⟨4, (.int 4 2540), (sv cs34 2541)⟩, ⟨8, (.int 8 2542), (sv cs35 2543)⟩, ⟨16, (.int 16 2544), (sv cs36 2545)⟩, ⟨32, (.int 32 2546), (sv cs37 2547)⟩, ⟨64, (.int 64 2548), (sv cs38 2549)⟩, ⟨128, (.int 128 2550), (sv cs39 2551)⟩, ⟨256, (.int 256 2552), (sv cs40 2553)⟩, ⟨512, (.int 512 2554), (sv cs41 2555)⟩]⟩ 10), ⟨[]⟩⟩
def HF := lO "tuple" 0 [(sv cs42 2570), (sv cs43 2571), (sv cs44 2572), (sv cs45 2573)]
def HG := kO .none (pO zp 16)
def MG := gO "code" [(sv zp 2567), (sv zp 2568), (sv gc 2569), (i0 32), (i0 1), (i0 0), (i0 0), (i0 3), (rf 153), (.bool true), (i0 181), (rf 154), .none, (rf 155), (rf 156), (rf 157), (i0 2574), (i0 32), (sv gc 2575)]
def MH := kO (.type "function") (fO zp 16 uQ 2534 158)
def o159 := dM P (GH P) 25 25
def o160 := nO [(i0 3), (i0 0), (rf 31), (i0 6), (i0 0), (rf 77), (i0 11), (i0 0), (rf 84), (i0 19), (i0 0), (rf 96), (i0 22), (i0 0), (rf 108), (i0 25), (i0 0), (rf 132), (i0 28), (i0 0), (rf 150), (i0 32), (i0 0), (rf 158), (i0 44), (i0 0), (rf 165)]
def MI := gO "builtin_function_or_method" [(.builtin "type.__prepare__"), (.type "type")]
def MJ := dE [KY P, e163 P, KZ P, L0 P, L1 P] 5
def MK := nO [(i0 46), (i0 4), (rf 172)]
def ML := gO "code" [(sv sU 2579), (sv sU 2580), (sv gc 2581), (i0 44), (i0 0), (i0 0), (i0 0), (i0 0), (rf 163), (.bool false), (i0 181), (rf 164), .none, .none, .none, .none, (i0 2582), (i0 44), (sv gc 2583)]
def MM : Obj := ⟨(.type "frame"), none, .plain, ⟨[(some (rf 165)), (some (rf 3)), (some (rf 162)), none, (some (sv uQ 2534)), none, (some (rf 0))]⟩⟩
def MN := lO "tuple" 0 [(sv cs52 2592)]
def MO : Obj := ⟨.none, none, (.func { name := (st BI), qualname := (st Gy), params := AB (uO ah 17) 0, body := (.stmts (bd (uO ah 17) 0)), scope := aQ (uO ah 17) 0, globals := 0, closure := [], defaults := .none, kwdefaults := .none, doc := .none, pyModule := .none, annotations := none, code := .none, closureTuple := .none, builtins := 0 }), ⟨[]⟩⟩
def MP := gO "code" [(sv BI 2589), (sv Gy 2590), (sv gc 2591), (i0 46), (i0 1), (i0 0), (i0 0), (i0 3), (rf 167), (.bool true), (i0 181), (rf 168), .none, (rf 169), (rf 170), (rf 171), (i0 2593), (i0 46), (sv gc 2594)]
def MQ : Obj := ⟨(.type "function"), none, (.func { name := (st BI), qualname := (st Gy), params := AB (uO ah 17) 0, body := (.stmts (bd (uO ah 17) 0)), scope := aQ (uO ah 17) 0, globals := 3, closure := [], defaults := .none, kwdefaults := .none, doc := .none, pyModule := (sv uQ 2534), annotations := none, code := (rf 172), closureTuple := .none, builtins := 0 }), ⟨[]⟩⟩
def MR := dE [KY P, KZ P, L0 P, L1 P, e175 P, e176 P, e177 P] 4
def MS : Obj := ⟨(.type "type"), none, (.cls { name := (st sU), bases := [(.type "object")], mro := [(rf 176), (.type "object")], ns := 175, qualname := (st sU), hasDict := true, slotNames := [], subclasses := [], abstract := false, collection := none, hasDel := false }), ⟨[none, none, (some (sv sU 2577)), (some (sv sU 2585)), (some (.builtin "object.__new__")), (some (.bool true))]⟩⟩
def MT := gO "getset_descriptor" [(sv KO 2597), (rf 176), (.builtin "function.__dict__"), (.builtin "function.__dict__#set")]
def MU := gO "getset_descriptor" [(sv KP 2599), (rf 176), (.builtin "ExceptionGroup.__weakref__"), .none]
def MV := gO "super" [(rf 176), (rf 176), (rf 176)]
def MW := gO "builtin_function_or_method" [(.builtin "object.__init_subclass__"), (rf 176)]
def o187 := dM P (GH P) 28 28
def o188 := nO [(i0 3), (i0 0), (rf 31), (i0 6), (i0 0), (rf 77), (i0 11), (i0 0), (rf 84), (i0 19), (i0 0), (rf 96), (i0 22), (i0 0), (rf 108), (i0 25), (i0 0), (rf 132), (i0 28), (i0 0), (rf 150), (i0 32), (i0 0), (rf 158), (i0 44), (i0 0), (rf 165), (i0 49), (i0 0), (rf 188), (i0 55), (i0 0), (rf 195)]
def MX : Obj := ⟨(.type "dict"), none, (.dict ⟨[]⟩ 0), ⟨[]⟩⟩
def MY : Obj := ⟨(rf 176), (some 181), .plain, ⟨[]⟩⟩
def MZ := lO "tuple" 0 [(sv cs59 2608), (sv cs60 2609), (sv cs61 2610), (sv cs62 2611)]
def N0 := kO .none (pO zq 19)
def N1 := gO "code" [(sv zq 2605), (sv zq 2606), (sv gc 2607), (i0 49), (i0 2), (i0 0), (i0 0), (i0 11), (rf 183), (.bool true), (i0 181), (rf 184), .none, (rf 185), (rf 186), (rf 187), (i0 2612), (i0 49), (sv gc 2613)]
def N2 := kO (.type "function") (fO zq 19 uQ 2534 188)
def N3 := lO "tuple" 0 [(sv KQ 2618), (sv cs64 2619), (sv cs65 2620)]
def N4 := kO .none (pO zr 20)
def N5 := gO "code" [(sv zr 2615), (sv zr 2616), (sv gc 2617), (i0 55), (i0 1), (i0 0), (i0 0), (i0 3), (rf 190), (.bool true), (i0 181), (rf 191), .none, (rf 192), (rf 193), (rf 194), (i0 2621), (i0 55), (sv gc 2622)]
def N6 := kO (.type "function") (fO zr 20 uQ 2534 195)
def o224 := dM P (GI P) 52 52
def o251 := dM P (GI P) 78 78
def o253 := dM P (GI P) 79 79
def N7 := dE [e254 P, e255 P, e256 P, e257 P, zD P, e259 P, e260 P, e261 P, e262 P, e263 P, e264 P, e265 P, e266 P, e267 P, e268 P, e269 P, e270 P, L2 P, L3 P, L4 P, L5 P, L6 P, L7 P, L8 P, L9 P, Lc P, Ld P, Le P, Lf P, Lg P, Lh P, Li P, Lj P, Lk P, Ll P, Lm P, Ln P, Lo P, Lq P, Lr P, Lu P, Lv P, Lw P, Lx P, Ly P, Lz P, LA P, LB P] 48
def N8 := dE [L2 P, L3 P, L4 P, L5 P, L6 P, L7 P, L8 P, L9 P, Lc P, Ld P, Le P, Lf P, Lg P, Lh P, Li P, Lj P, Lk P] 17
def N9 := dE [Ll P, Lm P, Ln P, Lo P, Lq P, Lr P, Lu P, Lv P, Lw P, Lx P, Ly P, Lz P, LA P, LB P] 14
def o313 := dM P (GJ P) 86 86
def o314 := nO [(i0 3), (i0 0), (rf 31), (i0 6), (i0 0), (rf 77), (i0 11), (i0 0), (rf 84), (i0 19), (i0 0), (rf 96), (i0 22), (i0 0), (rf 108), (i0 25), (i0 0), (rf 132), (i0 28), (i0 0), (rf 150), (i0 32), (i0 0), (rf 158), (i0 44), (i0 0), (rf 165), (i0 49), (i0 0), (rf 188), (i0 55), (i0 0), (rf 195), (i0 115), (i0 0), (rf 205), (i0 117), (i0 0), (rf 212), (i0 119), (i0 0), (rf 219), (i0 122), (i0 0), (rf 226), (i0 124), (i0 0), (rf 233), (i0 130), (i0 0), (rf 240), (i0 142), (i0 0), (rf 245)]
def Na := lO "tuple" 0 [(sv zh 2826)]
def Nb := kO .none (pO sD 73)
def Nc := gO "code" [(sv sD 2823), (sv sD 2824), (sv gc 2825), (i0 115), (i0 1), (i0 0), (i0 0), (i0 3), (rf 200), (.bool true), (i0 181), (rf 201), .none, (rf 202), (rf 203), (rf 204), (i0 2827), (i0 115), (sv gc 2828)]
def Nd := kO (.type "function") (fO sD 73 BJ 2624 205)
def Nf := lO "tuple" 0 [(sv zh 2833)]
def Ng := kO .none (pO sF 74)
def Nh := gO "code" [(sv sF 2830), (sv sF 2831), (sv gc 2832), (i0 117), (i0 1), (i0 0), (i0 0), (i0 3), (rf 207), (.bool true), (i0 181), (rf 208), .none, (rf 209), (rf 210), (rf 211), (i0 2834), (i0 117), (sv gc 2835)]
def Ni := kO (.type "function") (fO sF 74 BJ 2624 212)
def Nj := lO "tuple" 0 [(sv zh 2840)]
def Nk := kO .none (pO sG 75)
def Nl := gO "code" [(sv sG 2837), (sv sG 2838), (sv gc 2839), (i0 119), (i0 1), (i0 0), (i0 0), (i0 3), (rf 214), (.bool true), (i0 181), (rf 215), .none, (rf 216), (rf 217), (rf 218), (i0 2841), (i0 119), (sv gc 2842)]
def Nm := kO (.type "function") (fO sG 75 BJ 2624 219)
def o327 := lO "tuple" 0 [(sv Df 2849), (sv Kr 2850), (sv Ks 2851)]
def o328 := kO .none (pO sH 77)
def o329 := gO "code" [(sv sH 2846), (sv sH 2847), (sv gc 2848), (i0 122), (i0 3), (i0 0), (i0 0), (i0 3), (rf 221), (.bool true), (i0 181), (rf 222), .none, (rf 223), (rf 224), (rf 225), (i0 2852), (i0 122), (sv gc 2853)]
def o330 := kO (.type "function") (fO sH 77 jw 2844 226)
def o331 := lO "tuple" 0 [(sv Kt 2858), (sv Dg 2859), (sv Ku 2860), (sv Dh 2861)]
def o332 := kO .none (pO sI 78)
def o333 := gO "code" [(sv sI 2855), (sv sI 2856), (sv gc 2857), (i0 124), (i0 1), (i0 0), (i0 0), (i0 3), (rf 228), (.bool true), (i0 181), (rf 229), .none, (rf 230), (rf 231), (rf 232), (i0 2862), (i0 124), (sv gc 2863)]
def o334 := kO (.type "function") (fO sI 78 jw 2844 233)
def o335 := lO "tuple" 0 [(sv Dg 2868), (sv Kv 2869), (sv Kw 2870), (sv Kx 2871), (sv Ky 2872), (sv Kz 2873), (sv Dh 2874), (sv Df 2875), (sv KA 2876), (sv KB 2877), (sv KC 2878)]
def o336 := kO .none (pO sJ 79)
def o337 := gO "code" [(sv sJ 2865), (sv sJ 2866), (sv gc 2867), (i0 130), (i0 1), (i0 0), (i0 0), (i0 3), (rf 235), (.bool true), (i0 181), (rf 236), .none, (rf 237), (rf 238), (rf 239), (i0 2879), (i0 130), (sv gc 2880)]
def o338 := kO (.type "function") (fO sJ 79 jw 2844 240)
def o339 := kO .none (pO sK 80)
def o340 := gO "code" [(sv sK 2882), (sv sK 2883), (sv gc 2884), (i0 142), (i0 3), (i0 0), (i0 0), (i0 3), (rf 242), (.bool true), (i0 181), (rf 243), .none, .none, .none, (rf 244), (i0 2885), (i0 142), (sv gc 2886)]
def o341 := kO (.type "function") (fO sK 80 jw 2844 245)
def o349 := dM P (GJ P) 93 93
def o350 := nO [(i0 3), (i0 0), (rf 31), (i0 6), (i0 0), (rf 77), (i0 11), (i0 0), (rf 84), (i0 19), (i0 0), (rf 96), (i0 22), (i0 0), (rf 108), (i0 25), (i0 0), (rf 132), (i0 28), (i0 0), (rf 150), (i0 32), (i0 0), (rf 158), (i0 44), (i0 0), (rf 165), (i0 49), (i0 0), (rf 188), (i0 55), (i0 0), (rf 195), (i0 115), (i0 0), (rf 205), (i0 117), (i0 0), (rf 212), (i0 119), (i0 0), (rf 219), (i0 122), (i0 0), (rf 226), (i0 124), (i0 0), (rf 233), (i0 130), (i0 0), (rf 240), (i0 142), (i0 0), (rf 245), (i0 157), (i0 0), (rf 252), (i0 164), (i0 0), (rf 257), (i0 169), (i0 0), (rf 262), (i0 175), (i0 0), (rf 269), (i0 186), (i0 0), (rf 274), (i0 190), (i0 0), (rf 279), (i0 195), (i0 0), (rf 284)]
def o351 := lO "tuple" 0 [(sv KD 2891), (sv KQ 2892), (sv KE 2893)]
def o352 := kO .none (pO sL 81)
def o353 := gO "code" [(sv sL 2888), (sv sL 2889), (sv gc 2890), (i0 157), (i0 1), (i0 0), (i0 0), (i0 3), (rf 247), (.bool true), (i0 181), (rf 248), .none, (rf 249), (rf 250), (rf 251), (i0 2894), (i0 157), (sv gc 2895)]
def o354 := kO (.type "function") (fO sL 81 jw 2844 252)
def o355 := kO .none (pO sM 82)
def o356 := gO "code" [(sv sM 2897), (sv sM 2898), (sv gc 2899), (i0 164), (i0 1), (i0 0), (i0 0), (i0 3), (rf 254), (.bool true), (i0 181), (rf 255), .none, .none, .none, (rf 256), (i0 2900), (i0 164), (sv gc 2901)]
def o357 := kO (.type "function") (fO sM 82 jw 2844 257)
def o358 := kO .none (pO sO 83)
def o359 := gO "code" [(sv sO 2903), (sv sO 2904), (sv gc 2905), (i0 169), (i0 1), (i0 0), (i0 0), (i0 3), (rf 259), (.bool true), (i0 181), (rf 260), .none, .none, .none, (rf 261), (i0 2906), (i0 169), (sv gc 2907)]
def o360 := kO (.type "function") (fO sO 83 jw 2844 262)
def o361 := lO "tuple" 0 [(sv KF 2912), (sv KG 2913), (sv KH 2914), (sv KI 2915), (sv KJ 2916), (sv KK 2917), (sv KL 2918), (sv KN 2919)]
def o362 := kO .none (pO sQ 84)
def o363 := gO "code" [(sv sQ 2909), (sv sQ 2910), (sv gc 2911), (i0 175), (i0 2), (i0 0), (i0 0), (i0 3), (rf 264), (.bool true), (i0 181), (rf 265), .none, (rf 266), (rf 267), (rf 268), (i0 2920), (i0 175), (sv gc 2921)]
def o364 := kO (.type "function") (fO sQ 84 jw 2844 269)
def o365 := kO .none (pO sR 85)
def o366 := gO "code" [(sv sR 2923), (sv sR 2924), (sv gc 2925), (i0 186), (i0 1), (i0 0), (i0 0), (i0 3), (rf 271), (.bool true), (i0 181), (rf 272), .none, .none, .none, (rf 273), (i0 2926), (i0 186), (sv gc 2927)]
def o367 := kO (.type "function") (fO sR 85 jw 2844 274)
def o368 := kO .none (pO sS 86)
def o369 := gO "code" [(sv sS 2929), (sv sS 2930), (sv gc 2931), (i0 190), (i0 2), (i0 0), (i0 0), (i0 3), (rf 276), (.bool true), (i0 181), (rf 277), .none, .none, .none, (rf 278), (i0 2932), (i0 190), (sv gc 2933)]
def o370 := kO (.type "function") (fO sS 86 jw 2844 279)
def o371 := kO .none (pO sT 87)
def o372 := gO "code" [(sv sT 2935), (sv sT 2936), (sv gc 2937), (i0 195), (i0 1), (i0 0), (i0 0), (i0 3), (rf 281), (.bool true), (i0 181), (rf 282), .none, .none, .none, (rf 283), (i0 2938), (i0 195), (sv gc 2939)]
def o373 := kO (.type "function") (fO sT 87 jw 2844 284)
def o374 := lO "list" 2 []
def o375 := gO "range_iterator" (vs [917536,0,96,0,1,0])
def o376 := lO "list" 26 (vs [917536,2333,917537,2334,917538,2335,917539,2336,917540,2337,917541,2338,917542,2339,917543,2340,917544,2341,917545,2342,917546,2343,917547,2344,917548,2345,917549,2346,917550,2347,917551,2348,917552,2349,917553,2350,917554,2351,917555,2352,917556,2353,917557,2354,917558,2355,917559,2356])
def o377 := gO "range_iterator" (vs [917560,0,72,0,1,0])
def o378 := lO "list" 50 (vs [917536,2333,917537,2334,917538,2335,917539,2336,917540,2337,917541,2338,917542,2339,917543,2340,917544,2341,917545,2342,917546,2343,917547,2344,917548,2345,917549,2346,917550,2347,917551,2348,917552,2349,917553,2350,917554,2351,917555,2352,917556,2353,917557,2354,917558,2355,917559,2356,917560,2357,917561,2358,917562,2359,917563,2360,917564,2361,917565,2362,917566,2363,917567,2364,917568,2365,917569,2366,917570,2367,917571,2368,917572,2369,917573,2370,917574,2371,917575,2372,917576,2373,917577,2374,917578,2375,917579,2376,917580,2377,917581,2378,917582,2379,917583,2380])
def o379 := gO "range_iterator" (vs [917584,0,48,0,1,0])
def o380 := lO "list" 74 (vs [917536,2333,917537,2334,917538,2335,917539,2336,917540,2337,917541,2338,917542,2339,917543,2340,917544,2341,917545,2342,917546,2343,917547,2344,917548,2345,917549,2346,917550,2347,917551,2348,917552,2349,917553,2350,917554,2351,917555,2352,917556,2353,917557,2354,917558,2355,917559,2356,917560,2357,917561,2358,917562,2359,917563,2360,917564,2361,917565,2362,917566,2363,917567,2364,917568,2365,917569,2366,917570,2367,917571,2368,917572,2369,917573,2370,917574,2371,917575,2372,917576,2373,917577,2374,917578,2375,917579,2376,917580,2377,917581,2378,917582,2379,917583,2380,917584,2381,917585,2382,917586,2383,917587,2384,917588,2385,917589,2386,917590,2387,917591,2388,917592,2389,917593,2390,917594,2391,917595,2392,917596,2393,917597,2394,917598,2395,917599,2396,917600,2397,917601,2398,917602,2399,917603,2400,917604,2401,917605,2402,917606,2403,917607,2404])
def o381 := gO "range_iterator" (vs [917608,0,24,0,1,0])
def z382 := zO [] 0 7 [] 0 b
def o383 := gO "list_iterator" [(rf 140), (i0 0)]
def z384 := zO [917505,2327,1] 1 7 [1,1] 0 b
def o385 := gO "list_iterator" [(rf 140), (i0 1)]
def z386 := zO [917536,2333,1,917505,2327,1] 2 7 [0,2] 0 b
def o387 := gO "list_iterator" [(rf 140), (i0 2)]
def z388 := zO [917536,2333,1,917505,2327,1,917537,2334,1] 3 7 [0,2,7,1] 0 b
def o389 := gO "list_iterator" [(rf 140), (i0 3)]
def z390 := zO [917536,2333,1,917505,2327,1,917538,2335,1,917537,2334,1] 4 7 [0,3,7,1] 0 b
def o391 := gO "list_iterator" [(rf 140), (i0 4)]
def z392 := zO [917536,2333,1,917505,2327,1,917538,2335,2,917537,2334,1,917540,2337,3] 9 31 [0,8] 1 b
def o393 := gO "list_iterator" [(rf 140), (i0 8)]
def z394 := zO [917536,2333,1,917505,2327,1,917538,2335,2,917537,2334,1,917540,2337,7] 13 31 [0,12] 1 b
def o395 := gO "list_iterator" [(rf 140), (i0 12)]
def z396 := zO [917536,2333,1,917505,2327,1,917538,2335,2,917537,2334,1,917540,2337,11] 17 31 [0,16] 1 b
def o397 := gO "list_iterator" [(rf 140), (i0 16)]
def z398 := zO [917505,2327,1,917536,2333,19] 22 127 [1,1,32,19] 2 b
def o399 := gO "list_iterator" [(rf 140), (i0 20)]
def z400 := zO [917505,2327,1,917536,2333,23] 26 127 [1,1,32,23] 2 b
def o401 := gO "list_iterator" [(rf 140), (i0 24)]
def z402 := zO [917505,2327,1,917536,2333,27] 30 127 [1,1,32,27] 2 b
def o403 := gO "list_iterator" [(rf 140), (i0 28)]
def z404 := zO [917505,2327,1,917536,2333,31] 34 127 [1,1,32,31] 2 b
def o405 := gO "list_iterator" [(rf 140), (i0 32)]
def z406 := zO [917505,2327,1,917536,2333,35] 38 127 [1,1,32,35] 2 b
def o407 := gO "list_iterator" [(rf 140), (i0 36)]
def z408 := zO [917505,2327,1,917536,2333,39] 42 127 [1,1,32,39] 2 b
def o409 := gO "list_iterator" [(rf 140), (i0 40)]
def z410 := zO [917505,2327,1,917536,2333,43] 46 127 [1,1,32,43] 2 b
def o411 := gO "list_iterator" [(rf 140), (i0 44)]
def z412 := zO [917505,2327,1,917536,2333,47] 50 127 [1,1,32,47] 2 b
def o413 := gO "list_iterator" [(rf 140), (i0 48)]
def z414 := zO [917505,2327,1,917536,2333,51] 54 127 [1,1,32,51] 2 b
def o415 := gO "list_iterator" [(rf 140), (i0 52)]
def z416 := zO [917505,2327,1,917536,2333,55] 58 127 [1,1,32,55] 2 b
def o417 := gO "list_iterator" [(rf 140), (i0 56)]
def z418 := zO [917505,2327,1,917536,2333,59] 62 127 [1,1,32,59] 2 b
def o419 := gO "list_iterator" [(rf 140), (i0 60)]
def z420 := zO [917505,2327,1,917536,2333,63] 66 127 [1,1,32,63] 2 b
def o421 := gO "list_iterator" [(rf 140), (i0 64)]
def z422 := zO [917505,2327,1,917536,2333,67] 70 127 [1,1,32,67] 2 b
def o423 := gO "list_iterator" [(rf 140), (i0 68)]
def z424 := zO [917505,2327,1,917536,2333,71] 74 127 [1,1,32,71] 2 b
def o425 := gO "list_iterator" [(rf 140), (i0 72)]
def z426 := zO [917505,2327,1,917536,2333,75] 78 127 [1,1,32,75] 2 b
def o427 := gO "list_iterator" [(rf 140), (i0 76)]
def z428 := zO [917505,2327,1,917536,2333,79] 83 511 [1,1,32,79] 3 b
def o429 := gO "list_iterator" [(rf 140), (i0 80)]
def z430 := zO [917505,2327,1,917536,2333,83] 87 511 [1,1,32,83] 3 b
def o431 := gO "list_iterator" [(rf 140), (i0 84)]
def z432 := zO [917505,2327,1,917536,2333,87] 91 511 [1,1,32,87] 3 b
def o433 := gO "list_iterator" [(rf 140), (i0 88)]
def z434 := zO [917505,2327,1,917536,2333,91] 95 511 [1,1,32,91] 3 b
def o435 := gO "list_iterator" [(rf 140), (i0 92)]
def z436 := zO [917505,2327,1,917536,2333,95] 99 511 [1,1,32,95] 3 b
def o437 := gO "list_iterator" [(rf 140), (i0 96)]
def o438 := gO "list_iterator" [(rf 140), (i0 97)]
def ts0 := (nd (boot_o_5 P) (lf (boot_o_9 P)) (lf o2))
def ts1 := (nd (boot_o_2 P) (nd (boot_o_4 P) (lf (boot_o_8 P)) (lf o1)) (nd (boot_o_6 P) (lf (boot_o_10 P)) (lf o3)))
def trA : BT := nd (boot_o_0 P) (nd (boot_o_1 P) (nd (boot_o_3 P) (lf (boot_o_7 P)) (lf o0)) (ts0 P)) (ts1 P)
def SA := sh trA 15 187
def tr1 := nd (boot_o_0 P) (nd (boot_o_1 P) (nd (o13 P) (lf (boot_o_7 P)) (lf o0)) (ts0 P)) (ts1 P)
def S1 := sh tr1 15 189
def Bu := (nd o0 (lf o0) E0)
def ts3 := (nd (boot_o_9 P) (lf AE) (lf uH))
def tr2 := nd (boot_o_0 P) (nd (boot_o_1 P) (nd (o15 P) (nd (boot_o_7 P) (lf xz) (lf xB)) Bu) (nd (boot_o_5 P) (ts3 P) (nd o2 (lf xA) E0))) (nd (boot_o_2 P) (nd (boot_o_4 P) (nd (boot_o_8 P) (lf yq) (lf o0)) (nd o1 (lf yt) E0)) (nd (boot_o_6 P) (nd (boot_o_10 P) (lf yr) E0) (nd o3 (lf (yn (!P.followText "set-order"))) E0)))
def S2 := sh tr2 26 249
def tr3 := nd (boot_o_0 P) (nd (boot_o_1 P) (nd (o26 P) (nd (boot_o_7 P) (nd xz (lf DC) E0) (lf xB)) (nd o0 (lf o0) (lf o1))) (nd (boot_o_5 P) (ts3 P) (nd o2 (lf xA) (lf o0)))) (nd (boot_o_2 P) (nd (boot_o_4 P) (nd (boot_o_8 P) (nd yq (lf DD) E0) (lf o0)) (nd o27 (lf yt) (lf yu))) (nd (boot_o_6 P) (nd (boot_o_10 P) (lf yr) (lf o0)) (nd o3 (lf (yn (!P.followText "set-order"))) (lf yv))))
def S3 := sh tr3 33 256
def ts4 := (nd DC (lf Nn) E0)
def ts5 := (nd HN (lf Nw) E0)
def ts6 := (nd xB ts5 (lf HZ))
def ts7 := (nd (boot_o_7 P) (nd xz ts4 (lf HR)) ts6)
def ts8 := (nd HJ (lf Nr) E0)
def ts9 := (nd o0 (nd o0 ts8 (lf HV)) (nd o1 (lf HP) (lf DJ)))
def O3 := (nd HH (lf Np) E0)
def O4 := (nd HL (lf Nu) E0)
def O5 := (nd (boot_o_5 P) (nd (boot_o_9 P) (nd AE O3 (lf HT)) (nd uH (lf AG) (lf DH))) (nd o2 (nd xA O4 (lf HX)) (nd o0 (lf DE) (lf DL))))
def O6 := (nd DD (lf No) E0)
def O7 := (nd HK (lf Nt) E0)
def O8 := (nd HI (lf Nq) E0)
def O9 := (nd HM (lf Nv) E0)
def Oa := (nd (yn (!P.followText "set-order")) O9 (lf HY))
def Ob := (nd (boot_o_2 P) (nd (boot_o_4 P) (nd (boot_o_8 P) (nd yq O6 (lf HS)) (nd o0 (lf AF) (lf DG))) (nd o27 (nd yt O7 (lf HW)) (nd yu (lf HQ) (lf DK)))) (nd (boot_o_6 P) (nd (boot_o_10 P) (nd yr O8 (lf HU)) (nd o0 (lf HO) (lf DI))) (nd o3 (Oa P) (nd yv (lf DF) (lf DM)))))
def Id : BT := nd (boot_o_0 P) (nd (boot_o_1 P) (nd (o26 P) (ts7 P) ts9) (O5 P)) (Ob P)
def S3p := sh Id 72 2206
def tr4 := nd (boot_o_0 P) (nd (boot_o_1 P) (nd (o33 P) (ts7 P) ts9) (O5 P)) (Ob P)
def S4 := sh tr4 72 2207
def Oc := (nd HR (lf o0) E0)
def Od := (nd HV (lf NA) E0)
def Oe := (nd o0 ts8 Od)
def Of := (nd HP (lf o0) E0)
def Og := (nd HT (lf Nz) E0)
def Oh := (nd AG (lf o1) E0)
def Oi := (nd HX (lf NC) E0)
def Oj := (nd xA O4 Oi)
def Ol := (nd DE (lf Ir) E0)
def On := (nd HS (lf o1) E0)
def Oo := (nd AF (lf o0) E0)
def Op := (nd HW (lf NB) E0)
def Oq := (nd yt O7 Op)
def Os := (nd HQ (lf Ny) E0)
def Ot := (nd HU (lf o0) E0)
def Ou := (nd yr O8 Ot)
def Ov := (nd HO (lf Nx) E0)
def Ow := (nd DF (lf Iu) E0)
def tr6 := nd (boot_o_0 P) (nd (boot_o_1 P) (nd (o75 P) (nd (boot_o_7 P) (nd xz ts4 Oc) ts6) (nd o0 Oe (nd o1 Of (lf DJ)))) (nd (boot_o_5 P) (nd (boot_o_9 P) (nd AE O3 Og) (nd uH Oh (lf DH))) (nd o2 Oj (nd o0 Ol (lf DL))))) (nd (boot_o_2 P) (nd (boot_o_4 P) (nd (boot_o_8 P) (nd yq O6 On) (nd o0 Oo (lf DG))) (nd o76 Oq (nd yu Os (lf DK)))) (nd (boot_o_6 P) (nd (boot_o_10 P) Ou (nd o0 Ov (lf DI))) (nd o3 (Oa P) (nd yv Ow (lf DM)))))
def S6 := sh tr6 86 2223
def Ox := (nd DC (lf Nn) (lf PS))
def Oy := (nd xz Ox Oc)
def Oz := (nd HZ (lf (PK (!P.followText "set-order"))) E0)
def OA := (nd DJ (lf o0) E0)
def OB := (nd HH (lf Np) (lf PW))
def OC := (nd AE OB Og)
def OD := (nd DH (lf o0) E0)
def OE := (nd DL (lf NG) E0)
def OF := (nd DD (lf No) (lf PU))
def OG := (nd yq OF On)
def OH := (nd DG (lf NE) E0)
def OI := (nd DK (lf o1) E0)
def OJ := (nd DI (lf NF) E0)
def OK := (nd HY (lf ND) E0)
def OL := (nd yv Ow (nd DM (lf o0) E0))
def tr8 := nd (boot_o_0 P) (nd (boot_o_1 P) (nd (o87 P) (nd (boot_o_7 P) Oy (nd xB ts5 (Oz P))) (nd o0 Oe (nd o1 Of OA))) (nd (boot_o_5 P) (nd (boot_o_9 P) OC (nd uH Oh OD)) (nd o2 Oj (nd o0 Ol OE)))) (nd (boot_o_2 P) (nd (boot_o_4 P) (nd (boot_o_8 P) OG (nd o0 Oo OH)) (nd o88 Oq (nd yu Os OI))) (nd (boot_o_6 P) (nd (boot_o_10 P) Ou (nd o0 Ov OJ)) (nd o3 (nd (yn (!P.followText "set-order")) O9 OK) OL)))
def S8 := sh tr8 98 2244
def OM := (nd HN (lf Nw) (lf o0))
def ON := (nd HJ (lf Nr) (lf (CZ (!P.followText "set-order"))))
def OO := (nd HP (lf o0) (lf C7))
def OP := (nd AG (lf o1) (lf tQ))
def OQ := (nd HL (lf Nu) (lf o0))
def OR := (nd DE (lf Ir) (lf AC))
def OS := (nd AF (lf o0) (lf o1))
def OT := (nd HK (lf Nt) (lf C5))
def OU := (nd HQ (lf Ny) (lf C8))
def OV := (nd HI (lf Nq) (lf C4))
def OW := (nd HO (lf Nx) (lf o0))
def OX := (nd HM (lf Nv) (lf C6))
def tr10 := nd (boot_o_0 P) (nd (boot_o_1 P) (nd (o99 P) (nd (boot_o_7 P) Oy (nd xB OM (Oz P))) (nd o0 (nd o0 (ON P) Od) (nd o1 OO OA))) (nd (boot_o_5 P) (nd (boot_o_9 P) OC (nd uH OP OD)) (nd o2 (nd xA OQ Oi) (nd o0 OR OE)))) (nd (boot_o_2 P) (nd (boot_o_4 P) (nd (boot_o_8 P) OG (nd o0 OS OH)) (nd ME (nd yt OT Op) (nd yu OU OI))) (nd (boot_o_6 P) (nd (boot_o_10 P) (nd yr OV Ot) (nd o0 OW OJ)) (nd o3 (nd (yn (!P.followText "set-order")) OX OK) OL)))
def Iy := sh tr10 110 2279
def OY := (nd HR (lf o0) (lf C9))
def OZ := (nd HZ (lf (PK (!P.followText "set-order"))) (lf Ci))
def Pd := (nd xB OM (OZ P))
def Pe := (nd HV (lf NA) (lf Ce))
def Pf := (nd DJ (lf o0) (lf (D0 (!P.followText "set-order"))))
def Pg := (nd o1 OO (Pf P))
def Ph := (nd HT (lf Nz) (lf Cd))
def yj := (nd DH (lf o0) (lf Cj))
def Pi := (nd uH OP yj)
def Pj := (nd HX (lf NC) (lf Cg))
def Ih := (nd DL (lf NG) (lf o0))
def Pk := (nd o0 OR Ih)
def Pl := (nd HS (lf o1) (lf Cc))
def yk := (nd DG (lf NE) (lf o0))
def Pm := (nd o0 OS yk)
def Pn := (nd HW (lf NB) (lf Cf))
def Po := (nd DK (lf o1) (lf Cm))
def Pq := (nd yu OU Po)
def Pr := (nd HU (lf o0) (lf o0))
def Ps := (nd DI (lf NF) (lf Ck))
def Pu := (nd o0 OW Ps)
def Pw := (nd HY (lf ND) (lf Ch))
def Ii := (nd DM (lf o0) (lf Cn))
def Px := (nd yv (nd DF (lf Iu) (lf AD)) Ii)
def Py := (nd o3 (nd (yn (!P.followText "set-order")) OX Pw) Px)
def tr11 := nd (boot_o_0 P) (nd (boot_o_1 P) (nd (o110 P) (nd (boot_o_7 P) (nd xz Ox OY) (Pd P)) (nd o0 (nd o0 (ON P) Pe) (Pg P))) (nd (boot_o_5 P) (nd (boot_o_9 P) (nd AE OB Ph) Pi) (nd o2 (nd xA OQ Pj) Pk))) (nd (boot_o_2 P) (nd (boot_o_4 P) (nd (boot_o_8 P) (nd yq OF Pl) Pm) (nd ME (nd yt OT Pn) Pq)) (nd (boot_o_6 P) (nd (boot_o_10 P) (nd yr OV Pr) Pu) (Py P)))
def Iz := sh tr11 127 2320
def Pz := (nd Nn (lf o0) E0)
def PA := (nd DC Pz (lf PS))
def PB := (nd xz PA OY)
def PC := (nd Nr (lf Hp) E0)
def PD := (nd HJ PC (lf (CZ (!P.followText "set-order"))))
def PE := (nd o0 (PD P) Pe)
def PF := (nd o0 (PE P) (Pg P))
def PG := (nd Np (lf Ho) E0)
def PH := (nd HH PG (lf PW))
def yl := (nd AE PH Ph)
def PI := (nd Nu (lf Hr) E0)
def DQ := (nd HL PI (lf o0))
def Bh := (nd xA DQ Pj)
def pZ := (nd o2 Bh Pk)
def DR := (nd No (lf o1) E0)
def DS := (nd DD DR (lf PU))
def q9 := (nd yq DS Pl)
def DU := (nd Nt (lf Hq) E0)
def DV := (nd HK DU (lf C5))
def DW := (nd yt DV Pn)
def qc := (nd MF DW Pq)
def DX := (nd Nq (lf o0) E0)
def DY := (nd HI DX (lf C4))
def DZ := (nd yr DY Pr)
def E1 := (nd (boot_o_10 P) DZ Pu)
def tr12 := nd (boot_o_0 P) (nd (boot_o_1 P) (nd (Hn P) (nd (boot_o_7 P) PB (Pd P)) (PF P)) (nd (boot_o_5 P) (nd (boot_o_9 P) yl Pi) pZ)) (nd (boot_o_2 P) (nd (boot_o_4 P) (nd (boot_o_8 P) q9 Pm) qc) (nd (boot_o_6 P) (E1 P) (Py P)))
def Ip := sh tr12 134 2327
def E2 := (nd HR Bu (lf C9))
def E3 := (nd Nw (lf Ht) E0)
def E4 := (nd HN E3 (lf o0))
def E5 := (nd xB E4 (OZ P))
def E6 := (nd o0 (lf Hw) E0)
def E7 := (nd HP E6 (lf C7))
def E8 := (nd o0 (PE P) (nd o1 E7 (Pf P)))
def E9 := (nd o1 (lf Hv) E0)
def Eb := (nd AG E9 (lf tQ))
def Bi := (nd (boot_o_9 P) yl (nd uH Eb yj))
def Ec := (nd Ir (lf (D1 (!P.followText "set-order"))) E0)
def Ed := (nd DE (Ec P) (lf AC))
def Ee := (nd o1 (lf Hz) E0)
def Ef := (nd yq DS (nd HS Ee (lf Cc)))
def Eg := (nd o0 (lf Hu) E0)
def Eh := (nd AF Eg (lf o1))
def Ei := (nd o0 Eh yk)
def Ej := (nd Ny (lf Hx) E0)
def Ek := (nd HQ Ej (lf C8))
def El := (nd MF DW (nd yu Ek Po))
def Em := (nd Nx (lf o0) E0)
def En := (nd HO Em (lf o0))
def Eo := (nd (boot_o_10 P) DZ (nd o0 En Ps))
def Ep := (nd Nv (lf Hs) E0)
def Er := (nd HM Ep (lf C6))
def Bj := (nd (yn (!P.followText "set-order")) Er Pw)
def Es := (nd Iu (lf Hy) E0)
def Et := (nd DF Es (lf AD))
def tr13 := nd (boot_o_0 P) (nd (boot_o_1 P) (nd (o133 P) (nd (boot_o_7 P) (nd xz PA E2) (E5 P)) (E8 P)) (nd (boot_o_5 P) (Bi P) (nd o2 Bh (nd o0 (Ed P) Ih)))) (nd (boot_o_2 P) (nd (boot_o_4 P) (nd (boot_o_8 P) Ef Ei) El) (nd (boot_o_6 P) (Eo P) (nd o3 (Bj P) (nd yv Et Ii))))
def IA := sh tr13 145 2527
def Eu := (nd PS (lf MH) E0)
def Ev := (nd DC Pz Eu)
def Ew := (nd (PK (!P.followText "set-order")) (lf HD) E0)
def Ey := (nd HZ (Ew P) (lf Ci))
def Ez := (nd NA (lf HA) E0)
def EA := (nd o0 (lf HF) E0)
def EB := (nd DJ EA (lf (D0 (!P.followText "set-order"))))
def EC := (nd Nz (lf o0) E0)
def ED := (nd DH Bu (lf Cj))
def EE := (nd NC (lf HB) E0)
def EF := (nd HX EE (lf Cg))
def EG := (nd NG (lf HG) E0)
def EH := (nd DL EG (lf o0))
def EI := (nd NE (lf HE) E0)
def EJ := (nd DG EI (lf o0))
def EK := (nd NB (lf o0) E0)
def EL := (nd o1 (lf o0) E0)
def EM := (nd DK EL (lf Cm))
def uv := (nd o0 (lf o1) E0)
def EN := (nd NF (lf o1) E0)
def EO := (nd DI EN (lf Ck))
def EP := (nd ND (lf HC) E0)
def EQ := (nd HY EP (lf Ch))
def ER := (nd o0 (lf MG) E0)
def ES := (nd DM ER (lf Cn))
def tr17 := nd (boot_o_0 P) (nd (boot_o_1 P) (nd (o147 P) (nd (boot_o_7 P) (nd xz Ev E2) (nd xB E4 (Ey P))) (nd o0 (nd o0 (PD P) (nd HV Ez (lf Ce))) (nd o1 E7 (EB P)))) (nd (boot_o_5 P) (nd (boot_o_9 P) (nd AE PH (nd HT EC (lf Cd))) (nd uH Eb ED)) (nd o2 (nd xA DQ EF) (nd o0 (Ed P) EH)))) (nd (boot_o_2 P) (nd (boot_o_4 P) (nd (boot_o_8 P) Ef (nd o0 Eh EJ)) (nd o148 (nd yt DV (nd HW EK (lf Cf))) (nd yu Ek EM))) (nd (boot_o_6 P) (nd (boot_o_10 P) (nd yr DY (nd HU uv (lf o0))) (nd o0 En EO)) (nd o3 (nd (yn (!P.followText "set-order")) Er EQ) (nd yv Et ES))))
def IB := sh tr17 160 2577
def ET := (nd HR Bu (nd C9 (lf (MR P)) E0))
def EU := (nd HN E3 Bu)
def EV := (nd (CZ (!P.followText "set-order")) (lf o0) E0)
def EW := (nd HV Ez (nd Ce (lf MV) E0))
def EX := (nd HP E6 (nd C7 (lf MO) E0))
def EY := (nd PW (lf MI) E0)
def EZ := (nd HT EC (nd Cd (lf MT) E0))
def F0 := (nd AG E9 (nd tQ (lf MN) E0))
def F1 := (nd o0 (lf ML) E0)
def F2 := (nd HL PI F1)
def F3 := (nd DE (Ec P) (nd AC (lf MQ) E0))
def F4 := (nd PU (lf o0) E0)
def F5 := (nd HS Ee (nd Cc (lf MS) E0))
def F6 := (nd o1 (lf o1) E0)
def F7 := (nd AF Eg F6)
def F8 := (nd C5 (lf MK) E0)
def F9 := (nd HW EK (nd Cf (lf MW) E0))
def Fa := (nd HQ Ej (nd C8 (lf MP) E0))
def Fb := (nd C4 (lf (MJ P)) E0)
def Fc := (nd HU uv (nd o0 (lf MU) E0))
def Fd := (nd HO Em Bu)
def Ff := (nd C6 (lf MM) E0)
def Fg := (nd HM Ep Ff)
def Fi := (nd DF Es (nd AD (lf o0) E0))
def tr18 := nd (boot_o_0 P) (nd (boot_o_1 P) (nd (o159 P) (nd (boot_o_7 P) (nd xz Ev (ET P)) (nd xB EU (Ey P))) (nd o0 (nd o0 (nd HJ PC (EV P)) EW) (nd o1 EX (EB P)))) (nd (boot_o_5 P) (nd (boot_o_9 P) (nd AE (nd HH PG EY) EZ) (nd uH F0 ED)) (nd o2 (nd xA F2 EF) (nd o0 (F3 P) EH)))) (nd (boot_o_2 P) (nd (boot_o_4 P) (nd (boot_o_8 P) (nd yq (nd DD DR F4) F5) (nd o0 F7 EJ)) (nd o160 (nd yt (nd HK DU F8) F9) (nd yu Fa EM))) (nd (boot_o_6 P) (nd (boot_o_10 P) (nd yr (nd HI DX (Fb P)) Fc) (nd o0 Fd EO)) (nd o3 (nd (yn (!P.followText "set-order")) Fg EQ) (nd yv Fi ES))))
def IC := sh tr18 181 2604
def Fj := (nd Nn (lf o0) (lf o1))
def Fm := (nd xz (nd DC Fj Eu) (ET P))
def Fn := (nd Ci (lf o0) E0)
def Fo := (nd HZ (Ew P) Fn)
def Bk := (nd (boot_o_7 P) (Fm P) (nd xB EU (Fo P)))
def Fp := (nd Nr (lf Hp) (lf N5))
def Fq := (nd (D0 (!P.followText "set-order")) (lf N0) E0)
def wL := (nd o0 (nd o0 (nd HJ Fp (EV P)) EW) (nd o1 EX (nd DJ EA (Fq P))))
def Fr := (nd Np (lf Ho) (lf o0))
def Fs := (nd Cj (lf MZ) E0)
def Ft := (nd (boot_o_9 P) (nd AE (nd HH Fr EY) EZ) (nd uH F0 (nd DH Bu Fs)))
def Fu := (nd HX EE (nd Cg (lf MX) E0))
def Fv := (nd o0 (lf N2) E0)
def Fw := (nd o0 (F3 P) (nd DL EG Fv))
def Bl := (nd (boot_o_5 P) (Ft P) (nd o2 (nd xA F2 Fu) (Fw P)))
def Fx := (nd No (lf o1) (lf N3))
def Fy := (nd Nt (lf Hq) (lf N6))
def Fz := (nd Cm (lf N1) E0)
def FA := (nd (boot_o_4 P) (nd (boot_o_8 P) (nd yq (nd DD Fx F4) F5) (nd o0 F7 (nd DG EI uv))) (nd o188 (nd yt (nd HK Fy F8) F9) (nd yu Fa (nd DK EL Fz))))
def FB := (nd Nq (lf o0) (lf N4))
def FC := (nd Ck (lf o0) E0)
def FE := (nd (boot_o_10 P) (nd yr (nd HI FB (Fb P)) Fc) (nd o0 Fd (nd DI EN FC)))
def FG := (nd HY EP (nd Ch (lf MY) E0))
def FH := (nd Cn (lf o0) E0)
def FI := (nd yv Fi (nd DM ER FH))
def Bm := (nd (boot_o_2 P) (FA P) (nd (boot_o_6 P) (FE P) (nd o3 (nd (yn (!P.followText "set-order")) Fg FG) FI)))
def tr21 := nd (boot_o_0 P) (nd (boot_o_1 P) (nd (o187 P) (Bk P) (wL P)) (Bl P)) (Bm P)
def ID := sh tr21 197 2624
def tr46 := nd (boot_o_0 P) (nd (boot_o_1 P) (nd (o224 P) (Bk P) (wL P)) (Bl P)) (Bm P)
def IE := sh tr46 197 2674
def tr72 := nd (boot_o_0 P) (nd (boot_o_1 P) (nd (o251 P) (Bk P) (wL P)) (Bl P)) (Bm P)
def IF := sh tr72 197 2726
def FJ := (nd Nw (lf Ht) (lf (N9 P)))
def FK := (nd Nu (lf Hr) (lf (N7 P)))
def FL := (nd Nv (lf Hs) (lf (N8 P)))
def tr73 := nd (boot_o_0 P) (nd (boot_o_1 P) (nd (o253 P) (nd (boot_o_7 P) (Fm P) (nd xB (nd HN (FJ P) Bu) (Fo P))) (wL P)) (nd (boot_o_5 P) (Ft P) (nd o2 (nd xA (nd HL (FK P) F1) Fu) (Fw P)))) (nd (boot_o_2 P) (FA P) (nd (boot_o_6 P) (FE P) (nd o3 (nd (yn (!P.followText "set-order")) (nd HM (FL P) Ff) FG) FI)))
def IG := sh tr73 200 2823
def FM := (nd PS (lf MH) (lf o327))
def wM := (nd o0 (lf o0) (lf o0))
def FN := (nd C9 (lf (MR P)) (lf o336))
def FO := (nd (CZ (!P.followText "set-order")) (lf o0) (lf o330))
def FP := (nd Ce (lf MV) (lf o1))
def FQ := (nd C7 (lf MO) (lf o0))
def FR := (nd PW (lf MI) (lf o328))
def FS := (nd Cd (lf MT) (lf o338))
def FT := (nd tQ (lf MN) (lf o333))
def FU := (nd o0 (lf ML) (lf o1))
def FV := (nd Cg (lf MX) (lf o340))
def FW := (nd AC (lf MQ) (lf o335))
def FX := (nd PU (lf o0) (lf o0))
def FY := (nd Cc (lf MS) (lf o337))
def FZ := (nd o1 (lf o1) (lf o332))
def G0 := (nd C5 (lf MK) (lf o0))
def G1 := (nd Cf (lf MW) (lf o339))
def G2 := (nd C8 (lf MP) (lf o1))
def G3 := (nd C4 (lf (MJ P)) (lf o329))
def G4 := (nd o0 (lf MU) (lf o0))
def G5 := (nd o0 (lf o0) (lf o334))
def G6 := (nd C6 (lf MM) (lf o331))
def G7 := (nd Ch (lf MY) (lf o341))
def G8 := (nd AD (lf o0) (lf o0))
def G9 := (nd o0 (lf MG) (lf o1))
def tr81 := nd (boot_o_0 P) (nd (boot_o_1 P) (nd (o313 P) (nd (boot_o_7 P) (nd xz (nd DC Fj FM) (nd HR wM (FN P))) (nd xB (nd HN (FJ P) wM) (nd HZ (nd (PK (!P.followText "set-order")) (lf HD) (lf o1)) Fn))) (nd o0 (nd o0 (nd HJ Fp (FO P)) (nd HV (nd NA (lf HA) (lf Ng)) FP)) (nd o1 (nd HP (nd o0 (lf Hw) (lf o0)) FQ) (nd DJ (nd o0 (lf HF) (lf Nl)) (Fq P))))) (nd (boot_o_5 P) (nd (boot_o_9 P) (nd AE (nd HH Fr FR) (nd HT (nd Nz (lf o0) (lf Nf)) FS)) (nd uH (nd AG (nd o1 (lf Hv) (lf o1)) FT) (nd DH wM Fs))) (nd o2 (nd xA (nd HL (FK P) FU) (nd HX (nd NC (lf HB) (lf Ni)) FV)) (nd o0 (nd DE (nd Ir (lf (D1 (!P.followText "set-order"))) (lf Nc)) FW) (nd DL (nd NG (lf HG) (lf o0)) Fv))))) (nd (boot_o_2 P) (nd (boot_o_4 P) (nd (boot_o_8 P) (nd yq (nd DD Fx FX) (nd HS (nd o1 (lf Hz) (lf o1)) FY)) (nd o0 (nd AF (nd o0 (lf Hu) (lf o0)) FZ) (nd DG (nd NE (lf HE) (lf Nj)) uv))) (nd o314 (nd yt (nd HK Fy G0) (nd HW (nd NB (lf o0) (lf Nh)) G1)) (nd yu (nd HQ (nd Ny (lf Hx) (lf Nb)) G2) (nd DK (nd o1 (lf o0) (lf Nm)) Fz)))) (nd (boot_o_6 P) (nd (boot_o_10 P) (nd yr (nd HI FB (G3 P)) (nd HU (nd o0 (lf o1) (lf o0)) G4)) (nd o0 (nd HO (nd Nx (lf o0) (lf Na)) G5) (nd DI (nd NF (lf o1) (lf Nk)) FC))) (nd o3 (nd (yn (!P.followText "set-order")) (nd HM (FL P) G6) (nd HY (nd ND (lf HC) (lf o0)) G7)) (nd yv (nd DF (nd Iu (lf Hy) (lf Nd)) G8) (nd DM G9 FH)))))
def IH := sh tr81 247 2888
def Ga := (nd o0 Bu (lf o0))
def Ie := nd (boot_o_0 P) (nd (boot_o_1 P) (nd (o349 P) (nd (boot_o_7 P) (nd xz (nd DC (nd Nn uv (lf o1)) FM) (nd HR Ga (FN P))) (nd xB (nd HN (nd Nw (nd Ht (lf o360) E0) (lf (N9 P))) wM) (nd HZ (nd (PK (!P.followText "set-order")) (nd HD (lf o369) E0) (lf o1)) (nd Ci (lf o0) (lf o0))))) (nd o0 (nd o0 (nd HJ (nd Nr (nd Hp (lf o0) E0) (lf N5)) (FO P)) (nd HV (nd NA (nd HA (lf o367) E0) (lf Ng)) FP)) (nd o1 (nd HP (nd o0 (nd Hw (lf o0) E0) (lf o0)) FQ) (nd DJ (nd o0 (nd HF (lf o371) E0) (lf Nl)) (nd (D0 (!P.followText "set-order")) (lf N0) (lf o352)))))) (nd (boot_o_5 P) (nd (boot_o_9 P) (nd AE (nd HH (nd Np (nd Ho (lf o356) E0) (lf o0)) FR) (nd HT (nd Nz (nd o0 (lf o365) E0) (lf Nf)) FS)) (nd uH (nd AG (nd o1 (nd Hv (lf o1) E0) (lf o1)) FT) (nd DH Ga (nd Cj (lf MZ) (lf o351))))) (nd o2 (nd xA (nd HL (nd Nu (nd Hr (lf o358) E0) (lf (N7 P))) FU) (nd HX (nd NC (nd HB (lf o1) E0) (lf Ni)) FV)) (nd o0 (nd DE (nd Ir (nd (D1 (!P.followText "set-order")) (lf o363) E0) (lf Nc)) FW) (nd DL (nd NG (nd HG (lf o373) E0) (lf o0)) (nd o0 (lf N2) (lf o354))))))) (nd (boot_o_2 P) (nd (boot_o_4 P) (nd (boot_o_8 P) (nd yq (nd DD (nd No (nd o1 (lf o355) E0) (lf N3)) FX) (nd HS (nd o1 (nd Hz (lf o1) E0) (lf o1)) FY)) (nd o0 (nd AF (nd o0 (nd Hu (lf o0) E0) (lf o0)) FZ) (nd DG (nd NE (nd HE (lf o370) E0) (lf Nj)) (nd o0 (lf o1) (lf o1))))) (nd o350 (nd yt (nd HK (nd Nt (nd Hq (lf o1) E0) (lf N6)) G0) (nd HW (nd NB Bu (lf Nh)) G1)) (nd yu (nd HQ (nd Ny (nd Hx (lf o362) E0) (lf Nb)) G2) (nd DK (nd o1 (nd o0 (lf o372) E0) (lf Nm)) (nd Cm (lf N1) (lf o353)))))) (nd (boot_o_6 P) (nd (boot_o_10 P) (nd yr (nd HI (nd Nq (nd o0 (lf o357) E0) (lf N4)) (G3 P)) (nd HU (nd o0 (nd o1 (lf o366) E0) (lf o0)) G4)) (nd o0 (nd HO (nd Nx (nd o0 (lf o361) E0) (lf Na)) G5) (nd DI (nd NF F6 (lf Nk)) (nd Ck (lf o0) (lf o0))))) (nd o3 (nd (yn (!P.followText "set-order")) (nd HM (nd Nv (nd Hs (lf o359) E0) (lf (N8 P))) G6) (nd HY (nd ND (nd HC (lf o368) E0) (lf o0)) G7)) (nd yv (nd DF (nd Iu (nd Hy (lf o364) E0) (lf Nd)) G8) (nd DM G9 (nd Cn (lf o0) (lf o0)))))))
def II := sh Ie 286 2941
def Gb := (nd (boot_o_7 P) PB (E5 P))
def uw := (nd (Hn P) (Gb P) (PF P))
def ux := (nd (boot_o_6 P) (E1 P) (nd o3 (Bj P) Px))
def CQ := nd (boot_o_0 P) (nd (boot_o_1 P) (uw P) (nd (boot_o_5 P) (nd (boot_o_9 P) yl (nd uH (nd AG (nd o1 (lf o375) E0) (lf tQ)) yj)) pZ)) (nd (boot_o_2 P) (nd (boot_o_4 P) (nd (boot_o_8 P) q9 (nd o0 (nd AF (nd o0 (lf o374) E0) (lf o1)) yk)) qc) (ux P))
def yO := sh CQ 138 2333
def Ba := nd (boot_o_0 P) (nd (boot_o_1 P) (uw P) (nd (boot_o_5 P) (nd (boot_o_9 P) yl (nd uH (nd AG (nd o1 (lf o377) E0) (lf tQ)) yj)) pZ)) (nd (boot_o_2 P) (nd (boot_o_4 P) (nd (boot_o_8 P) q9 (nd o0 (nd AF (nd o0 (lf o376) E0) (lf o1)) yk)) qc) (ux P))
def vK := sh Ba 138 2357
def Bb := nd (boot_o_0 P) (nd (boot_o_1 P) (uw P) (nd (boot_o_5 P) (nd (boot_o_9 P) yl (nd uH (nd AG (nd o1 (lf o379) E0) (lf tQ)) yj)) pZ)) (nd (boot_o_2 P) (nd (boot_o_4 P) (nd (boot_o_8 P) q9 (nd o0 (nd AF (nd o0 (lf o378) E0) (lf o1)) yk)) qc) (ux P))
def vL := sh Bb 138 2381
def xP := nd (boot_o_0 P) (nd (boot_o_1 P) (uw P) (nd (boot_o_5 P) (nd (boot_o_9 P) yl (nd uH (nd AG (nd o1 (lf o381) E0) (lf tQ)) yj)) pZ)) (nd (boot_o_2 P) (nd (boot_o_4 P) (nd (boot_o_8 P) q9 (nd o0 (nd AF (nd o0 (lf o380) E0) (lf o1)) yk)) qc) (ux P))
def rI := sh xP 138 2405
def Gc := (nd (boot_o_8 P) q9 Ei)
def xQ := nd (boot_o_0 P) (nd (boot_o_1 P) (uw P) (nd (boot_o_5 P) (Bi P) pZ)) (nd (boot_o_2 P) (nd (boot_o_4 P) (Gc P) qc) (ux P))
def nx := sh xQ 138 2429
def aC := nd (boot_o_0 P) (nd (boot_o_1 P) (nd (Hn P) (Gb P) (E8 P)) (nd (boot_o_5 P) (Bi P) (nd o2 Bh (nd o0 (nd DE (nd Ir (lf (z382 b)) E0) (lf AC)) Ih)))) (nd (boot_o_2 P) (nd (boot_o_4 P) (Gc P) El) (nd (boot_o_6 P) (Eo P) (nd o3 (Bj P) (nd yv (nd DF (nd Iu (lf o383) E0) (lf AD)) Ii))))
def rJ := sh (aC b) 143 2429
def xR := (((aC b P).set 141 fun _ => (z384 b)).set 142 fun _ => o385)
def rK := sh (xR b) 143 2430
def xS := (((aC b P).set 141 fun _ => (z386 b)).set 142 fun _ => o387)
def rL := sh (xS b) 143 2431
def xT := (((aC b P).set 141 fun _ => (z388 b)).set 142 fun _ => o389)
def rM := sh (xT b) 143 2432
def xU := (((aC b P).set 141 fun _ => (z390 b)).set 142 fun _ => o391)
def rN := sh (xU b) 143 2433
def xV := (((aC b P).set 141 fun _ => (z392 b)).set 142 fun _ => o393)
def rO := sh (xV b) 143 2437
def xW := (((aC b P).set 141 fun _ => (z394 b)).set 142 fun _ => o395)
def rP := sh (xW b) 143 2441
def xX := (((aC b P).set 141 fun _ => (z396 b)).set 142 fun _ => o397)
def rQ := sh (xX b) 143 2445
def xY := (((aC b P).set 141 fun _ => (z398 b)).set 142 fun _ => o399)
def rR := sh (xY b) 143 2449
def xZ := (((aC b P).set 141 fun _ => (z400 b)).set 142 fun _ => o401)
def rS := sh (xZ b) 143 2453
def y0 := (((aC b P).set 141 fun _ => (z402 b)).set 142 fun _ => o403)
def rT := sh (y0 b) 143 2457
def y1 := (((aC b P).set 141 fun _ => (z404 b)).set 142 fun _ => o405)
def rU := sh (y1 b) 143 2461
def y2 := (((aC b P).set 141 fun _ => (z406 b)).set 142 fun _ => o407)
def rV := sh (y2 b) 143 2465
def y3 := (((aC b P).set 141 fun _ => (z408 b)).set 142 fun _ => o409)
def rW := sh (y3 b) 143 2469
def y4 := (((aC b P).set 141 fun _ => (z410 b)).set 142 fun _ => o411)
def rX := sh (y4 b) 143 2473
def y5 := (((aC b P).set 141 fun _ => (z412 b)).set 142 fun _ => o413)
def rY := sh (y5 b) 143 2477
def y6 := (((aC b P).set 141 fun _ => (z414 b)).set 142 fun _ => o415)
def rZ := sh (y6 b) 143 2481
def y7 := (((aC b P).set 141 fun _ => (z416 b)).set 142 fun _ => o417)
def s5 := sh (y7 b) 143 2485
def y8 := (((aC b P).set 141 fun _ => (z418 b)).set 142 fun _ => o419)
def s6 := sh (y8 b) 143 2489
def y9 := (((aC b P).set 141 fun _ => (z420 b)).set 142 fun _ => o421)
def s8 := sh (y9 b) 143 2493
def ya := (((aC b P).set 141 fun _ => (z422 b)).set 142 fun _ => o423)
def s9 := sh (ya b) 143 2497
def yb := (((aC b P).set 141 fun _ => (z424 b)).set 142 fun _ => o425)
def sa := sh (yb b) 143 2501
def yc := (((aC b P).set 141 fun _ => (z426 b)).set 142 fun _ => o427)
def sb := sh (yc b) 143 2505
def yd := (((aC b P).set 141 fun _ => (z428 b)).set 142 fun _ => o429)
def sd := sh (yd b) 143 2509
def ye := (((aC b P).set 141 fun _ => (z430 b)).set 142 fun _ => o431)
def se := sh (ye b) 143 2513
def yf := (((aC b P).set 141 fun _ => (z432 b)).set 142 fun _ => o433)
def sf := sh (yf b) 143 2517
def yg := (((aC b P).set 141 fun _ => (z434 b)).set 142 fun _ => o435)
def sg := sh (yg b) 143 2521
def yh := (((aC b P).set 141 fun _ => (z436 b)).set 142 fun _ => o437)
def si := sh (yh b) 143 2525
def yi := (((aC b P).set 141 fun _ => (D1 b)).set 142 fun _ => o438)
def sj := sh (yi b) 143 2526
def GG (n : Nat) (S S' : World -> OsState -> SharedT) (m a : Nat) (p q : Pos) (w : World) : Prop := ∀ os, PySem.W.Fast.tw10110043849684766642 PySem.W.Fast.tw14364793385576792824 pw w 11 gN 1 n (S w os) (piecesOf (kR m (fy a ah)) kZ cT p yw) = some (.next, S' w os, cT, q)
end
noncomputable abbrev Ij := @PySem.W.Fast.tw11892475500146522536
noncomputable abbrev ym := @PySem.W.Fast.tw14364793385576792824
noncomputable abbrev PJ := @PySem.W.Fast.tw10295753902157049106
noncomputable abbrev twS := @PySem.W.Fast.tw10110043849684766642
noncomputable abbrev cL : Code := .builtin "list.extend.loop" ⟨[.ref 136, .ref 137, .none], []⟩
noncomputable abbrev cS : Code := .builtin "set.update.loop" ⟨[.ref 141, .ref 142], []⟩
noncomputable abbrev vt : Pos := ⟨27, 24, 27, 51⟩
noncomputable abbrev eE : Pos := ⟨27, 9, 27, 52⟩
noncomputable abbrev NJ : Thread := piecesOf (kR 1 (fy 12 ah)) kZ cT ⟨25, 0, 26, 30⟩ yw
noncomputable def wz : Option (SharedT × Thread) -> List Frame
 | some (_, t) => t.stack
 | none => []
noncomputable def wj : List Frame -> Bool
 | .ret .. :: _ :: _ => true
 | _ => false
theorem Ik {F : List Frame} (e : wj F = true) : ∃ k h g l cd p0 kept f1 fs, F = .ret k h g l cd p0 kept :: f1 :: fs := by
 cases F with
 | nil => exact Bool.noConfusion (show false = true from e)
 | cons f r =>
  cases f with
  | gen => exact Bool.noConfusion (show false = true from e)
  | ret k h g l cd p0 kept =>
   cases r with
   | nil => exact Bool.noConfusion (show false = true from e)
   | cons f1 fs => exact ⟨k, h, g, l, cd, p0, kept, f1, fs, rfl⟩
def fL (w : World) (os : OsState) : List Frame := wz (PJ ym pw w 11 gN 1 87 (Ip w os) NJ)
def fS (w : World) (os : OsState) : List Frame := wz (PJ ym pw w 11 gN 1 59 (nx w os) ⟨Ij ym cL, cL, vt, fL w os⟩)
noncomputable abbrev lA (w : World) : Bool := !w.params.followText "set-order"
abbrev QA (w : World) : Prop := (fun os : OsState => PJ ym pw w 11 gN 1 87 (Ip w os) NJ) = fun os => some (yO w os, ⟨Ij ym cL, cL, vt, fL w os⟩)
theorem qA : ∀ w, QA w := byRow2 "special-get-raises" (P := QA) (fun w => by kernel_rfl) (fun w => by kernel_rfl)
abbrev QB (w : World) : Prop := (fun os : OsState => wj (fL w os)) = fun _ => true
theorem qB : ∀ w, QB w := byRow2 "special-get-raises" (P := QB) (fun w => by kernel_rfl) (fun w => by kernel_rfl)
abbrev QD (w : World) : Prop := (fun os : OsState => PJ ym pw w 11 gN 1 59 (nx w os) ⟨Ij ym cL, cL, vt, fL w os⟩) = fun os => some (rJ (lA w) w os, ⟨Ij ym cS, cS, eE, fS w os⟩)
theorem qD : ∀ w, QD w := byRow2 "special-get-raises" (P := QD) (fun w => by kernel_rfl) (fun w => by kernel_rfl)
abbrev QE (w : World) : Prop := (fun os : OsState => wj (fS w os)) = fun _ => true
theorem qE : ∀ w, QE w := byRow2 "special-get-raises" (P := QE) (fun w => by kernel_rfl) (fun w => by kernel_rfl)
abbrev QF (w : World) : Prop := (fun os : OsState => twS ym pw w 11 gN 1 27 (sj (lA w) w os) ⟨Ij ym cS, cS, eE, fS w os⟩) = fun os => some (.next, IA w os, cT, ⟨27, 0, 27, 6⟩)
theorem qF : ∀ w, QF w := byRow2 "special-get-raises" (P := QF) (fun w => by kernel_rfl) (fun w => by kernel_rfl)
def CC (cc : Code) (pos : Pos) (n : Nat) (S S' : World -> OsState -> SharedT) (w : World) : Prop := ∀ (os : OsState) (k : Result -> Sem Fin) (h : Option Value) (g : Bool) (l : List Value) (cd : Code) (p0 : Pos) (kept : List Value) (f1 : Frame) (fs : List Frame), PJ ym pw w 11 gN 1 n (S w os) ⟨Ij ym cc, cc, pos, .ret k h g l cd p0 kept :: f1 :: fs⟩ = some (S' w os, ⟨Ij ym cc, cc, pos, .ret k h g l cd p0 kept :: f1 :: fs⟩)
set_option compiler.extract_closed false in
def aH : Lean.Syntax := .node .none `Lean.Parser.Term.hole #[.atom .none "_"]
set_option compiler.extract_closed false in
def aI : Lean.Syntax := .node .none `Lean.Parser.Tactic.tacticSeq #[.node .none `Lean.Parser.Tactic.tacticSeq1Indented #[.node .none `null #[.node .none `Lean.Parser.Tactic.intro #[.atom .none "intro", .node .none `null (Array.replicate 11 aH)], .atom .none ";", .node .none `tacticKernel_rfl #[.atom .none "kernel_rfl"]]]]
theorem bR {S S' : Bool -> World -> OsState -> SharedT} (b : Bool) (w : World)
 (h1 : autoParam (∀ w : World, CC cS eE n (S false) (S' false) (w.withFollow "special-get-raises" false)) aI) (h2 : autoParam (∀ w : World, CC cS eE n (S false) (S' false) (w.withFollow "special-get-raises" true)) aI)
 (h3 : autoParam (∀ w : World, CC cS eE n (S true) (S' true) (w.withFollow "special-get-raises" false)) aI) (h4 : autoParam (∀ w : World, CC cS eE n (S true) (S' true) (w.withFollow "special-get-raises" true)) aI) : CC cS eE n (S b) (S' b) w := by
 cases b
 . exact byRow2 "special-get-raises" h1 h2 w
 . exact byRow2 "special-get-raises" h3 h4 w
noncomputable def KX : List Stmt -> Pos
 | .Assign _ (.Dict _ _ p) _ :: _ => p
 | _ => default
noncomputable def yU : List Stmt -> Pos
 | .Assign _ _ p :: _ => p
 | _ => default
noncomputable abbrev l3 : List Stmt := fy 3 ah
noncomputable abbrev p3 : Pos := KX l3
set_option profiler true
theorem yW : (evalEachOpt (vX l3) kZ).zip ((evalEach (vY l3) kZ).map fun v => do let x <- v; standAt p3; pure x) = jm p3 sw := by kernel_rfl
noncomputable def xo : List Int -> Bool
 | [] => true
 | [_] => true
 | a :: b :: r => decide (a < b) && xo (b :: r)
theorem vP : xo (sw.map fun x => hashInt x.1) = true := by kernel_rfl
theorem yX : sw.length = 650 := by kernel_rfl
theorem Bz : jv.1.length = 4 := by kernel_rfl
theorem D8 : jv.2.1.length = 646 := by kernel_rfl
theorem Gu : jv.2.1.map (·.hash) ++ jv.1.map (fun x => hashInt x.1) = sw.map fun x => hashInt x.1 := by kernel_rfl
theorem BB : jv.2.2.2.2 = 2194 := by kernel_rfl
theorem wi : ∀ {l : List Int} {a : Int}, xo (a :: l) = true -> (∀ x ∈ l, a < x) /\ xo l = true
 | [], a, _ => ⟨fun x hx => (nomatch hx), rfl⟩
 | b :: r, a, h => by
  simp only [xo, Bool.and_eq_true, decide_eq_true_eq] at h
  refine Ea (wi h.2) fun h1 h2 => ?_
  refine ⟨fun x hx => ?_, h.2⟩
  rcases List.mem_cons.mp hx with rfl | hx
  . exact h.1
  . exact Int.lt_trans h.1 (h1 x hx)
theorem lg : ∀ {l : List Int}, xo l = true -> l.Nodup
 | [], _ => List.nodup_nil
 | a :: l, h => by
  refine Ea (wi h) fun h1 h2 => ?_
  exact List.nodup_cons.mpr ⟨fun m => absurd (h1 a m) (Int.lt_irrefl a), lg h2⟩
noncomputable def Gp : List Stmt -> Pos
 | .Assign [.Name _ p] _ _ :: _ => p
 | _ => default
noncomputable abbrev pQ (v : Value) : Sem Flow := do
 standAt (Gp l3)
 bindName kZ "b3_exceptions" v
 let f <- (pure Flow.next : Sem Flow)
 match f with
  | .next => execs [] kZ
  | f => pure f
theorem I8 : kR 1 (fy 3 ah) = [.Assign [.Name "b3_exceptions" (Gp l3)] (.Dict (vX l3) (vY l3) p3) (yU l3)] := by kernel_rfl
theorem I9 : swapsWith (.Dict (vX l3) (vY l3) p3) (some (.Name "b3_exceptions" (Gp l3))) (yU l3).line kZ = pure false := by kernel_rfl
theorem B4 : execs (kR 1 (fy 3 ah)) kZ = (standAt (yU l3) >>= fun _ => (standAt p3 >>= fun _ => dictDisplay (jm p3 sw))) >>= pQ := by
 rw [I8, arm_execs_cons, exec_Assign_Name _ _ _ _ _ I9, arm_eval_Dict, yW]
 simp only [bind_assoc]
 rfl
theorem BA : ∀ P : Params, ew (absHeap (tr3 P) 33 {}) Gr (jv.2.2.1 + jv.1.length) uK = absHeap (Id P) 72 {} := fun P => by kernel_rfl
noncomputable abbrev twT' := @PySem.W.Fast.tw14364793385576792824
noncomputable abbrev twS' := @PySem.W.Fast.tw10110043849684766642
abbrev QR (w : World) : Prop := (fun os : OsState => twS' twT' pw w 11 gN 1 20 (S3p w os) ⟨(pQ (.ref 33)).wrap doneF deadEnd id id, cT, p3, yw⟩) = fun os => some (.next, S4 w os, cT, ⟨5, 0, 5, 13⟩)
theorem qR : ∀ w, QR w := fun w => by kernel_rfl
theorem absS (t : BT) (n : Nat) (life : Life) : (absHeap t n life).objs.size = n := absHeap_size t n life
theorem NQ (w : World) (b : Bool) (os : OsState) : ∃ N, N ≤ 13000 /\ segRun treeTable pw (w.withFollow "special-get-raises" b) 11 gN 1 N (S3 (w.withFollow "special-get-raises" b) os).abs (piecesOf (kR 1 (fy 3 ah)) kZ cT ⟨3, 0, 4, 30⟩ yw) = some (.next, (S4 (w.withFollow "special-get-raises" b) os).abs, cT, ⟨5, 0, 5, 13⟩) := by
 have hz : (S3 (w.withFollow "special-get-raises" b) os).abs.heap.objs.size = 33 := absS _ _ _
 have T := TR.bind (n := 1) (q := ⟨3, 0, 4, 30⟩) (s := (S3 (w.withFollow "special-get-raises" b) os).abs) (x := standAt (yU l3)) (K := fun _ => standAt p3 >>= fun _ => dictDisplay (jm p3 sw)) (TR.at .pure)
  (TR.bind (n := 1) (TR.at .pure) (vC (p := pw) (w := w) (b := b) (n₀ := 11) (pos := p3) (s := (S3 (w.withFollow "special-get-raises" b) os).abs) sw (by rw [hz]; decide) (by rw [hz]; decide) (by rw [yX]; decide) (by rw [yX]; decide) (lg vP)
   (by intro e; have := congrArg List.length e; rw [show (ei sw [] (S3 (w.withFollow "special-get-raises" b) os).abs.toks).1 = jv.1 from rfl, Bz] at this; simp at this)
   (by rw [show (ei sw [] (S3 (w.withFollow "special-get-raises" b) os).abs.toks).1 = jv.1 from rfl, Bz]; decide)
   (by intro e; have := congrArg List.length e; rw [show (ei sw [] (S3 (w.withFollow "special-get-raises" b) os).abs.toks).2.1 = jv.2.1 from rfl, D8] at this; simp at this)
   (by rw [show (ei sw [] (S3 (w.withFollow "special-get-raises" b) os).abs.toks).2.1 = jv.2.1 from rfl, D8]; decide)
   (by rw [show ei sw [] (S3 (w.withFollow "special-get-raises" b) os).abs.toks = jv from rfl, Gu]; exact lg vP)))
 rw [show ei sw [] (S3 (w.withFollow "special-get-raises" b) os).abs.toks = jv from rfl] at T
 generalize hW : w.withFollow "special-get-raises" b = W at *
 have hs : ({ (S3 W os).abs with heap := ew (S3 W os).abs.heap (jv.2.1 ++ eP jv.1 jv.2.2.2.2) (jv.2.2.1 + jv.1.length) (jv.2.2.2.1 ++ [bF (eP jv.1 jv.2.2.2.2) jv.1.length]), toks := jv.2.2.2.2 + 3 * jv.1.length } : Shared) = (S3p W os).abs := by
  show (⟨ew (absHeap (tr3 W.params) 33 {}) Gr (jv.2.2.1 + jv.1.length) uK, ⟨[]⟩, {}, jv.2.2.2.2 + 3 * jv.1.length, os⟩ : Shared) = ⟨absHeap (Id W.params) 72 {}, ⟨[]⟩, {}, 2206, os⟩
  rw [BA, BB, Bz]
 rw [hs, hz] at T
 have G := TR.go (tb := treeTable) den1 den2 (ann := gN) (F := topFrame ⟨0, 0, 0, 0⟩) (c := cT) (K := fun v => (pQ v).wrap doneF deadEnd id id) (H := deadEnd) (gd := id) (lv := id) T
 have R := congrFun (qR W) os
 have R' : segRunT treeTable pw W 11 gN 1 20 (S3p W os) ⟨(pQ (.ref 33)).wrap doneF deadEnd id id, cT, p3, yw⟩ = some (.next, S4 W os, cT, ⟨5, 0, 5, 13⟩) := by
  rw [PySem.W.Fast.te14364793385576792824, PySem.W.Fast.te10110043849684766642]; exact R
 have S := seg_go G (segRun_of R')
 refine (bC ((1 + (1 + (jB sw 0 + (6 + 19 * jv.1.length)))) + 20) ?_ ?_)
 rotate_left
 . have e : (⟨(execs (kR 1 (fy 3 ah)) kZ).wrap doneF deadEnd id id, cT, ⟨3, 0, 4, 30⟩, yw⟩ : Thread) = ⟨(standAt (yU l3) >>= fun _ => standAt p3 >>= fun _ => dictDisplay (jm p3 sw)).wrap (fun v => (pQ v).wrap doneF deadEnd id id) deadEnd id id, cT, ⟨3, 0, 4, 30⟩, [topFrame ⟨0, 0, 0, 0⟩]⟩ := by
    rw [B4, Sem.bind_eq_wrap' _ pQ, Sem.wrap_wrap]
    rfl
   show segRun treeTable pw W 11 gN 1 _ _ ⟨(execs (kR 1 (fy 3 ah)) kZ).wrap doneF deadEnd id id, cT, ⟨3, 0, 4, 30⟩, yw⟩ = _
   rw [e]
   exact S
 . have : jB sw 0 ≤ 12800 := Nat.le_of_ble_eq_true (by kernel_rfl)
   rw [Bz]; decide
theorem g1 (w : World) : GG 10 SA S1 1 0 ⟨0, 0, 0, 0⟩ ⟨1, 0, 1, 8⟩ w := fun os => by kernel_rfl
theorem g2 : ∀ w, GG 999 S1 S2 1 1 ⟨1, 0, 1, 8⟩ ⟨2, 0, 2, 6⟩ w := byRow2 "special-get-raises" (fun w os => by kernel_rfl) (fun w os => by kernel_rfl)
theorem g3 (w : World) : GG 30 S2 S3 1 2 ⟨2, 0, 2, 6⟩ ⟨3, 0, 4, 30⟩ w := fun os => by kernel_rfl
theorem g6 (w : World) : GG 61 S4 S6 2 4 ⟨5, 0, 5, 13⟩ ⟨11, 0, 17, 46⟩ w := fun os => by kernel_rfl
theorem g8 : ∀ w, GG 229 S6 S8 2 6 ⟨11, 0, 17, 46⟩ ⟨19, 0, 20, 30⟩ w := byRow2 "special-get-raises" (fun w os => by kernel_rfl) (fun w os => by kernel_rfl)
theorem g10 : ∀ w, GG 390 S8 Iy 2 8 ⟨19, 0, 20, 30⟩ ⟨22, 0, 23, 30⟩ w := byRow2 "special-get-raises" (fun w os => by kernel_rfl) (fun w os => by kernel_rfl)
theorem g11 : ∀ w, GG 775 Iy Iz 1 10 ⟨22, 0, 23, 30⟩ ⟨24, 0, 24, 6⟩ w := byRow2 "special-get-raises" (fun w os => by kernel_rfl) (fun w os => by kernel_rfl)
theorem g12 (w : World) : GG 30 Iz Ip 1 11 ⟨24, 0, 24, 6⟩ ⟨25, 0, 26, 30⟩ w := fun os => by kernel_rfl
theorem g17 : ∀ w, GG 211 IA IB 4 13 ⟨27, 0, 27, 6⟩ ⟨32, 0, 43, 27⟩ w := byRow2 "special-get-raises" (fun w os => by kernel_rfl) (fun w os => by kernel_rfl)
theorem g18 (w : World) : GG 221 IB IC 1 17 ⟨32, 0, 43, 27⟩ ⟨44, 0, 47, 26⟩ w := fun os => by kernel_rfl
theorem g21 (w : World) : GG 119 IC ID 3 18 ⟨44, 0, 47, 26⟩ ⟨55, 0, 62, 14⟩ w := fun os => by kernel_rfl
theorem g46 (w : World) : GG 226 ID IE 25 21 ⟨55, 0, 62, 14⟩ ⟨87, 0, 87, 9⟩ w := fun os => by kernel_rfl
theorem g72 (w : World) : GG 235 IE IF 26 46 ⟨87, 0, 87, 9⟩ ⟨113, 0, 113, 9⟩ w := fun os => by kernel_rfl
theorem g73 : ∀ w, GG 979 IF IG 1 72 ⟨113, 0, 113, 9⟩ ⟨114, 0, 114, 17⟩ w := byRow2 "special-get-raises" (fun w os => by kernel_rfl) (fun w os => by kernel_rfl)
theorem g81 (w : World) : GG 225 IG IH 8 73 ⟨114, 0, 114, 17⟩ ⟨142, 0, 156, 25⟩ w := fun os => by kernel_rfl
theorem g88 (w : World) : GG 198 IH II 7 81 ⟨142, 0, 156, 25⟩ ⟨195, 0, 221, 133⟩ w := fun os => by kernel_rfl
theorem c495 (w : World) : CC cL vt 408 yO vK w := fun os k h g l cd p0 kept f1 fs => by kernel_rfl
theorem c903 (w : World) : CC cL vt 408 vK vL w := fun os k h g l cd p0 kept f1 fs => by kernel_rfl
theorem IN (w : World) : CC cL vt 408 vL rI w := fun os k h g l cd p0 kept f1 fs => by kernel_rfl
theorem IO (w : World) : CC cL vt 408 rI nx w := fun os k h g l cd p0 kept f1 fs => by kernel_rfl
theorem IP (b : Bool) (w : World) : CC cS eE 20 (rJ b) (rK b) w := bR b w
theorem IQ (b : Bool) (w : World) : CC cS eE 20 (rK b) (rL b) w := bR b w
theorem IR (b : Bool) (w : World) : CC cS eE 20 (rL b) (rM b) w := bR b w
theorem IS (b : Bool) (w : World) : CC cS eE 20 (rM b) (rN b) w := bR b w
theorem IT (b : Bool) (w : World) : CC cS eE 82 (rN b) (rO b) w := bR b w
theorem IU (b : Bool) (w : World) : CC cS eE 80 (rO b) (rP b) w := bR b w
theorem IV (b : Bool) (w : World) : CC cS eE 80 (rP b) (rQ b) w := bR b w
theorem IW (b : Bool) (w : World) : CC cS eE 82 (rQ b) (rR b) w := bR b w
theorem IX (b : Bool) (w : World) : CC cS eE 80 (rR b) (rS b) w := bR b w
theorem IY (b : Bool) (w : World) : CC cS eE 80 (rS b) (rT b) w := bR b w
theorem IZ (b : Bool) (w : World) : CC cS eE 80 (rT b) (rU b) w := bR b w
theorem J0 (b : Bool) (w : World) : CC cS eE 80 (rU b) (rV b) w := bR b w
theorem J1 (b : Bool) (w : World) : CC cS eE 80 (rV b) (rW b) w := bR b w
theorem J2 (b : Bool) (w : World) : CC cS eE 80 (rW b) (rX b) w := bR b w
theorem J3 (b : Bool) (w : World) : CC cS eE 80 (rX b) (rY b) w := bR b w
theorem J4 (b : Bool) (w : World) : CC cS eE 80 (rY b) (rZ b) w := bR b w
theorem J5 (b : Bool) (w : World) : CC cS eE 80 (rZ b) (s5 b) w := bR b w
theorem J6 (b : Bool) (w : World) : CC cS eE 80 (s5 b) (s6 b) w := bR b w
theorem J7 (b : Bool) (w : World) : CC cS eE 80 (s6 b) (s8 b) w := bR b w
theorem J8 (b : Bool) (w : World) : CC cS eE 80 (s8 b) (s9 b) w := bR b w
theorem J9 (b : Bool) (w : World) : CC cS eE 80 (s9 b) (sa b) w := bR b w
theorem Ja (b : Bool) (w : World) : CC cS eE 80 (sa b) (sb b) w := bR b w
theorem Jb (b : Bool) (w : World) : CC cS eE 82 (sb b) (sd b) w := bR b w
theorem Jc (b : Bool) (w : World) : CC cS eE 80 (sd b) (se b) w := bR b w
theorem Je (b : Bool) (w : World) : CC cS eE 80 (se b) (sf b) w := bR b w
theorem Jf (b : Bool) (w : World) : CC cS eE 80 (sf b) (sg b) w := bR b w
theorem Jg (b : Bool) (w : World) : CC cS eE 80 (sg b) (si b) w := bR b w
theorem Jh (b : Bool) (w : World) : CC cS eE 20 (si b) (sj b) w := bR b w
theorem jF {S S' : SharedT} {t : Thread} (h : PySem.W.Fast.tw10110043849684766642 PySem.W.Fast.tw14364793385576792824 pw w 11 gN 1 n S t = some (.next, S', cT, q)) : segRun treeTable pw w 11 gN 1 n S.abs t = some (.next, S'.abs, cT, q) :=
 segRun_of (by rw [PySem.W.Fast.te14364793385576792824, PySem.W.Fast.te10110043849684766642]; exact h)
theorem goT {S S' : SharedT} {t t' : Thread} (h : PySem.W.Fast.tw10295753902157049106 PySem.W.Fast.tw14364793385576792824 pw w 11 gN 1 n S t = some (S', t')) : segGo treeTable pw w 11 gN 1 n S.abs t = some (S'.abs, t') :=
 segGo_of (by rw [PySem.W.Fast.te14364793385576792824, PySem.W.Fast.te10295753902157049106]; exact h)
abbrev iI (w : World) (os : OsState) (a m : Nat) (S S' : World -> OsState -> SharedT) (p q : Pos) (A : Nat) : Prop :=
 ∃ n, n ≤ A /\ segRun treeTable pw w 11 gN 1 n (S w os).abs (piecesOf (kR m (fy a ah)) kZ cT p yw) = some (.next, (S' w os).abs, cT, q)
abbrev iw (w : World) (os : OsState) (a : Nat) (S : World -> OsState -> SharedT) (p : Pos) (A : Nat) : Prop :=
 ∃ n, n ≤ A /\ topRun treeTable pw w 11 gN n (S w os).abs (restOf (fy a ah) kZ cT p yw) = some (II w os).abs
theorem pX : ∀ (m : Nat) (l : List Stmt), kR m l ++ fy m l = l
 | 0, _ => rfl
 | _ + 1, [] => rfl
 | m + 1, a :: l => congrArg (a :: ·) (pX m l)
theorem nH : ∀ m, fy m [] = []
 | 0 => rfl
 | _ + 1 => rfl
theorem drop_drop : ∀ (a m : Nat) (l : List Stmt), fy m (fy a l) = fy (a + m) l
 | 0, m, l => by rw [Nat.zero_add]; rfl
 | a + 1, m, [] => by rw [nH, nH, nH]
 | a + 1, m, x :: l => by
  rw [show a + 1 + m = a + m + 1 by simp +arith only]
  exact drop_drop a m l
theorem fX {os : OsState} {a : Nat} {S S' : World -> OsState -> SharedT} {A B : Nat} (h : iI w os a m S S' p q A) (k : iw w os (a + m) S' q B) : iw w os a S p (A + B) := by
 refine ax h fun n hn h => ?_
 refine ax k fun n' hn' k => ?_
 refine (bC (n + n') (Nat.add_le_add hn hn') ?_)
 have := piece_app h k
 rw [<- drop_drop, pX] at this
 exact this
theorem r1 (w : World) (os : OsState) : iI w os 0 1 SA S1 ⟨0, 0, 0, 0⟩ ⟨1, 0, 1, 8⟩ 10 := (bC _ (Nat.le_refl _) (jF (g1 w os)))
theorem r2 (w : World) (os : OsState) : iI w os 1 1 S1 S2 ⟨1, 0, 1, 8⟩ ⟨2, 0, 2, 6⟩ 999 := (bC _ (Nat.le_refl _) (jF (g2 w os)))
theorem r3 (w : World) (os : OsState) : iI w os 2 1 S2 S3 ⟨2, 0, 2, 6⟩ ⟨3, 0, 4, 30⟩ 30 := (bC _ (Nat.le_refl _) (jF (g3 w os)))
theorem r4 (w : World) (os : OsState) : iI w os 3 1 S3 S4 ⟨3, 0, 4, 30⟩ ⟨5, 0, 5, 13⟩ 13000 :=
 byRow2 "special-get-raises" (P := fun w => iI w os 3 1 S3 S4 ⟨3, 0, 4, 30⟩ ⟨5, 0, 5, 13⟩ 13000) (fun w => NQ w false os) (fun w => NQ w true os) w
theorem r6 (w : World) (os : OsState) : iI w os 4 2 S4 S6 ⟨5, 0, 5, 13⟩ ⟨11, 0, 17, 46⟩ 61 := (bC _ (Nat.le_refl _) (jF (g6 w os)))
theorem r8 (w : World) (os : OsState) : iI w os 6 2 S6 S8 ⟨11, 0, 17, 46⟩ ⟨19, 0, 20, 30⟩ 229 := (bC _ (Nat.le_refl _) (jF (g8 w os)))
theorem r10 (w : World) (os : OsState) : iI w os 8 2 S8 Iy ⟨19, 0, 20, 30⟩ ⟨22, 0, 23, 30⟩ 390 := (bC _ (Nat.le_refl _) (jF (g10 w os)))
theorem r11 (w : World) (os : OsState) : iI w os 10 1 Iy Iz ⟨22, 0, 23, 30⟩ ⟨24, 0, 24, 6⟩ 775 := (bC _ (Nat.le_refl _) (jF (g11 w os)))
theorem r12 (w : World) (os : OsState) : iI w os 11 1 Iz Ip ⟨24, 0, 24, 6⟩ ⟨25, 0, 26, 30⟩ 30 := (bC _ (Nat.le_refl _) (jF (g12 w os)))
theorem dc {S S' : SharedT} {cur : Sem Fin} {c : Code} {F : List Frame} (hF : wj F = true)
 (h : ∀ (k : Result -> Sem Fin) (h : Option Value) (g : Bool) (l : List Value) (cd : Code) (p0 : Pos) (kept : List Value) (f1 : Frame) (fs : List Frame), PySem.W.Fast.tw10295753902157049106 PySem.W.Fast.tw14364793385576792824 pw w 11 gN 1 n S ⟨cur, c, pos, .ret k h g l cd p0 kept :: f1 :: fs⟩ = some (S', ⟨cur, c, pos, .ret k h g l cd p0 kept :: f1 :: fs⟩)) :
 segGo treeTable pw w 11 gN 1 n S.abs ⟨cur, c, pos, F⟩ = some (S'.abs, ⟨cur, c, pos, F⟩) := by
 obtain ⟨k, h', g, l, cd, p0, kept, f1, fs, rfl⟩ := Ik hF
 exact goT (h k h' g l cd p0 kept f1 fs)
theorem r13 (w : World) (os : OsState) : iI w os 12 1 Ip IA ⟨25, 0, 26, 30⟩ ⟨27, 0, 27, 6⟩ 4000 :=
 (bC _ (by decide) (seg_go (goT (congrFun (qA w) os)) (seg_go (dc (congrFun (qB w) os) (c495 w os)) (seg_go (dc (congrFun (qB w) os) (c903 w os)) (seg_go (dc (congrFun (qB w) os) (IN w os)) (seg_go (dc (congrFun (qB w) os) (IO w os)) (seg_go (goT (congrFun (qD w) os)) (seg_go (dc (congrFun (qE w) os) (IP (lA w) w os)) (seg_go (dc (congrFun (qE w) os) (IQ (lA w) w os)) (seg_go (dc (congrFun (qE w) os) (IR (lA w) w os)) (seg_go (dc (congrFun (qE w) os) (IS (lA w) w os)) (seg_go (dc (congrFun (qE w) os) (IT (lA w) w os)) (seg_go (dc (congrFun (qE w) os) (IU (lA w) w os)) (seg_go (dc (congrFun (qE w) os) (IV (lA w) w os)) (seg_go (dc (congrFun (qE w) os) (IW (lA w) w os)) (seg_go (dc (congrFun (qE w) os) (IX (lA w) w os)) (seg_go (dc (congrFun (qE w) os) (IY (lA w) w os)) (seg_go (dc (congrFun (qE w) os) (IZ (lA w) w os)) (seg_go (dc (congrFun (qE w) os) (J0 (lA w) w os)) (seg_go (dc (congrFun (qE w) os) (J1 (lA w) w os)) (seg_go (dc (congrFun (qE w) os) (J2 (lA w) w os)) (seg_go (dc (congrFun (qE w) os) (J3 (lA w) w os)) (seg_go (dc (congrFun (qE w) os) (J4 (lA w) w os)) (seg_go (dc (congrFun (qE w) os) (J5 (lA w) w os)) (seg_go (dc (congrFun (qE w) os) (J6 (lA w) w os)) (seg_go (dc (congrFun (qE w) os) (J7 (lA w) w os)) (seg_go (dc (congrFun (qE w) os) (J8 (lA w) w os)) (seg_go (dc (congrFun (qE w) os) (J9 (lA w) w os)) (seg_go (dc (congrFun (qE w) os) (Ja (lA w) w os)) (seg_go (dc (congrFun (qE w) os) (Jb (lA w) w os)) (seg_go (dc (congrFun (qE w) os) (Jc (lA w) w os)) (seg_go (dc (congrFun (qE w) os) (Je (lA w) w os)) (seg_go (dc (congrFun (qE w) os) (Jf (lA w) w os)) (seg_go (dc (congrFun (qE w) os) (Jg (lA w) w os)) (seg_go (dc (congrFun (qE w) os) (Jh (lA w) w os)) (jF (congrFun (qF w) os)))))))))))))))))))))))))))))))))))))
theorem r17 (w : World) (os : OsState) : iI w os 13 4 IA IB ⟨27, 0, 27, 6⟩ ⟨32, 0, 43, 27⟩ 211 := (bC _ (Nat.le_refl _) (jF (g17 w os)))
theorem r18 (w : World) (os : OsState) : iI w os 17 1 IB IC ⟨32, 0, 43, 27⟩ ⟨44, 0, 47, 26⟩ 221 := (bC _ (Nat.le_refl _) (jF (g18 w os)))
theorem r21 (w : World) (os : OsState) : iI w os 18 3 IC ID ⟨44, 0, 47, 26⟩ ⟨55, 0, 62, 14⟩ 119 := (bC _ (Nat.le_refl _) (jF (g21 w os)))
theorem r46 (w : World) (os : OsState) : iI w os 21 25 ID IE ⟨55, 0, 62, 14⟩ ⟨87, 0, 87, 9⟩ 226 := (bC _ (Nat.le_refl _) (jF (g46 w os)))
theorem r72 (w : World) (os : OsState) : iI w os 46 26 IE IF ⟨87, 0, 87, 9⟩ ⟨113, 0, 113, 9⟩ 235 := (bC _ (Nat.le_refl _) (jF (g72 w os)))
theorem r73 (w : World) (os : OsState) : iI w os 72 1 IF IG ⟨113, 0, 113, 9⟩ ⟨114, 0, 114, 17⟩ 979 := (bC _ (Nat.le_refl _) (jF (g73 w os)))
theorem r81 (w : World) (os : OsState) : iI w os 73 8 IG IH ⟨114, 0, 114, 17⟩ ⟨142, 0, 156, 25⟩ 225 := (bC _ (Nat.le_refl _) (jF (g81 w os)))
theorem r88 (w : World) (os : OsState) : iI w os 81 7 IH II ⟨142, 0, 156, 25⟩ ⟨195, 0, 221, 133⟩ 198 := (bC _ (Nat.le_refl _) (jF (g88 w os)))
theorem rEnd (w : World) (os : OsState) : iw w os 88 II ⟨195, 0, 221, 133⟩ 2 := by
 refine (bC 2 (Nat.le_refl _) ?_)
 have e : fy 88 ah = [] := by kernel_rfl
 rw [e]
 refine piece_nil ?_
 rw [PySem.W.Fast.te14364793385576792824, PySem.W.Fast.te14082659384304107361]
 kernel_rfl
theorem t81 (w : World) (os : OsState) : iw w os 81 IH ⟨142, 0, 156, 25⟩ 200 := fX (r88 w os) (rEnd w os)
theorem t73 (w : World) (os : OsState) : iw w os 73 IG ⟨114, 0, 114, 17⟩ 425 := fX (r81 w os) (t81 w os)
theorem t72 (w : World) (os : OsState) : iw w os 72 IF ⟨113, 0, 113, 9⟩ 1404 := fX (r73 w os) (t73 w os)
theorem t46 (w : World) (os : OsState) : iw w os 46 IE ⟨87, 0, 87, 9⟩ 1639 := fX (r72 w os) (t72 w os)
theorem t21 (w : World) (os : OsState) : iw w os 21 ID ⟨55, 0, 62, 14⟩ 1865 := fX (r46 w os) (t46 w os)
theorem t18 (w : World) (os : OsState) : iw w os 18 IC ⟨44, 0, 47, 26⟩ 1984 := fX (r21 w os) (t21 w os)
theorem t17 (w : World) (os : OsState) : iw w os 17 IB ⟨32, 0, 43, 27⟩ 2205 := fX (r18 w os) (t18 w os)
theorem t13 (w : World) (os : OsState) : iw w os 13 IA ⟨27, 0, 27, 6⟩ 2416 := fX (r17 w os) (t17 w os)
theorem t12 (w : World) (os : OsState) : iw w os 12 Ip ⟨25, 0, 26, 30⟩ 6416 := fX (r13 w os) (t13 w os)
theorem t11 (w : World) (os : OsState) : iw w os 11 Iz ⟨24, 0, 24, 6⟩ 6446 := fX (r12 w os) (t12 w os)
theorem t10 (w : World) (os : OsState) : iw w os 10 Iy ⟨22, 0, 23, 30⟩ 7221 := fX (r11 w os) (t11 w os)
theorem t8 (w : World) (os : OsState) : iw w os 8 S8 ⟨19, 0, 20, 30⟩ 7611 := fX (r10 w os) (t10 w os)
theorem t6 (w : World) (os : OsState) : iw w os 6 S6 ⟨11, 0, 17, 46⟩ 7840 := fX (r8 w os) (t8 w os)
theorem t4 (w : World) (os : OsState) : iw w os 4 S4 ⟨5, 0, 5, 13⟩ 7901 := fX (r6 w os) (t6 w os)
theorem t3 (w : World) (os : OsState) : iw w os 3 S3 ⟨3, 0, 4, 30⟩ 20901 := fX (r4 w os) (t4 w os)
theorem t2 (w : World) (os : OsState) : iw w os 2 S2 ⟨2, 0, 2, 6⟩ 20931 := fX (r3 w os) (t3 w os)
theorem t1 (w : World) (os : OsState) : iw w os 1 S1 ⟨1, 0, 1, 8⟩ 21930 := fX (r2 w os) (t2 w os)
theorem t0 (w : World) (os : OsState) : iw w os 0 SA ⟨0, 0, 0, 0⟩ 21940 := fX (r1 w os) (t1 w os)
theorem gpre (w : World) (os : OsState) : topGo treeTable pw w 11 gN 12 ⟨boot_heap w.params, ⟨[]⟩, boot_drawn, boot_toks, os⟩ (topStub pw) = some ((SA w os).abs, ⟨denote treeTable cT, cT, ⟨0, 0, 0, 0⟩, yw⟩) := by
 rw [PySem.W.Fast.te14364793385576792824, PySem.W.Fast.te11892475500146522536, PySem.W.Fast.te15667345088766844465]
 kernel_rfl
theorem GV (w : World) (os : OsState) : segRun treeTable pw w 11 gN 1 1 (SA w os).abs (blockOf (behindTheImports pw) kZ cT ⟨0, 0, 0, 0⟩ yw) = some (.next, (SA w os).abs, cT, ⟨0, 0, 0, 0⟩) := by
 refine jF (S := SA w os) (S' := SA w os) ?_
 kernel_rfl
theorem Ic (w : World) (os : OsState) : topRun treeTable pw w 11 gN 50000 ⟨boot_heap w.params, ⟨[]⟩, boot_drawn, boot_toks, os⟩ (topStub pw) = some (II w os).abs := by
 refine ax (t0 w os) fun n hn h => ?_
 have e : fy 0 ah = behindTheImports pw := by kernel_rfl
 rw [e] at h
 have k := go_top (gpre w os) (piece_block (GV w os) h)
 have := topRun_mono (50000 - (12 + (1 + n))) _ _ _ _ k
 rw [show 12 + (1 + n) + (50000 - (12 + (1 + n))) = 50000 by lia] at this
 exact this
noncomputable def H1 (P : Params) : Heap := absHeap (Ie P) 286 {}
def qL : Program := view pw [87]
def fQ : List Str := (pw.boundNames).filter (fun n => n != ("law" : Str))
noncomputable abbrev mU : List Str := importedModules pw.main.body
def sE (w : World) (os : OsState) : Shared := ⟨H1 w.params, ⟨[]⟩, {}, 2941, os⟩
theorem l1 : ∀ w : World, staticsOk mU (boot_heap w.params) (H1 w.params) = true := fun w => by kernel_rfl
theorem l2 : ∀ w : World, namesBound pw (H1 w.params) = true := fun w => by kernel_rfl
theorem l4 : ∀ w : World, laidKept (boot_heap w.params) (H1 w.params) = true := fun w => by kernel_rfl
theorem k1 : ∀ (w : World) (os : OsState), (PySem.W.Fast.tw4187177175401517315 qL fQ mU (fun _ => true) true (sE w os)).1 = (openGood qL fQ).1 := fun w os => by kernel_rfl
theorem k2 : ∀ (w : World) (os : OsState), (PySem.W.Fast.tw4187177175401517315 qL fQ mU (fun _ => true) true (sE w os)).2.1 = (openGood qL fQ).2.1 := fun w os => by kernel_rfl
theorem k3 : ∀ (w : World) (os : OsState), (PySem.W.Fast.tw4187177175401517315 qL fQ mU (fun _ => true) true (sE w os)).2.2.1 = (openGood qL fQ).2.2.1 := fun w os => by kernel_rfl
theorem k4 : ∀ (w : World) (os : OsState), (PySem.W.Fast.tw4187177175401517315 qL fQ mU (fun _ => true) true (sE w os)).2.2.2 = (openGood qL fQ).2.2.2 := fun w os => by kernel_rfl
theorem NT (w : World) (os : OsState) : openSeen qL fQ mU (fun _ => true) true (sE w os) = openGood qL fQ := by
 rw [PySem.W.Fast.te4187177175401517315]
 exact Prod.ext (k1 w os) (Prod.ext (k2 w os) (Prod.ext (k3 w os) (k4 w os)))
theorem left : LeftO pw qL fQ (fun _ => true) (fun s => s.heap) (fun w => H1 w.params) 50000 := by
 refine LeftO.of_pieces (H₀ := boot_heap) (H₁ := H1) (gs₀ := ⟨[]⟩) (gs₁ := ⟨[]⟩) (d₀ := boot_drawn) (d₁ := {}) (k₀ := boot_toks) (k₁ := 2941) (m₀ := 11) (ann := gN) (M := 50000) (fun w => ?_) (fun w => ?_) (fun w os => ?_) (by decide) (fun w => ?_)
 . exact boot_open (by kernel_rfl) (by decide) (fun s => by kernel_rfl) w
 . kernel_rfl
 . exact Ic w os
 . funext os
   show ((staticsOk mU (boot_heap w.params) (H1 w.params) && namesBound pw (H1 w.params) && gensDone (sE w os) && laidKept (boot_heap w.params) (H1 w.params)), openSeen qL fQ mU (fun _ => true) true (sE w os), (sE w os).heap) = (true, openGood qL fQ, H1 w.params)
   rw [l1, l2, l4, NT]
   rfl
end
section
open PySem PySem.Calls PyProof.Rows PySem.W
noncomputable def P0 : Params where
 strHash := fun _ => 0
 shareClass := fun _ => 0
 mergeTok := fun t => t
 idOf := fun _ => 0
 idOfShared := fun _ _ => 0
 followText := fun _ => false
 idOfImm := fun _ => 0
noncomputable def uX (h : Heap) (a : Addr) : List DictEntry := match h.get? a with
 | some ⟨_, _, .dict es _, _⟩ => es.toList
 | _ => []
noncomputable def dOf : Value -> D
 | .str x _ => .str x.cps.toList
 | .int i _ => .int i
 | _ => .none
def iq : List DictEntry -> List (Int × D)
 | [] => []
 | ⟨_, .int k _, v⟩ :: r => (k, dOf v) :: iq r
 | _ :: r => iq r
def jq : List DictEntry -> List (List Nat × D)
 | [] => []
 | ⟨_, .str k _, v⟩ :: r => (k.cps.toList, dOf v) :: jq r
 | _ :: r => jq r
noncomputable def setRows (h : Heap) (a : Addr) : List Int := match h.get? a with
 | some ⟨_, _, .set es _ _, _⟩ => es.toList.filterMap fun e => match e.2 with | .int i _ => some i | _ => none
 | _ => []
def tj := iq (uX (H1 P0) 152)
def yV := iq (uX (H1 P0) 33)
def qK := jq (uX (H1 P0) 197)
noncomputable def iT (a n : Nat) : List Int := (List.range n).map fun k => ((a + k : Nat) : Int)
def b1L : List Int := [173, 847, 6150, 6155, 6156, 6157, 8203, 8204, 8205, 8288, 65279] ++ iT 65024 16
def c6L : List Int := iT 65529 5
def c7L : List Int := iT 12272 12
def c8L : List Int := [832, 833, 8206, 8207] ++ iT 8234 5 ++ iT 8298 6
def c9L : List Int := 917505 :: iT 917536 96
def bM : n6 where
 flags i := tj.lookup i
 b3 i := yV.lookup i
 exact l := qK.lookup l
 ntOff := 256
 endM := 0
 b1 i := b1L.contains i
 c6 i := c6L.contains i
 c7 i := c7L.contains i
 c8 i := c8L.contains i
 c9 i := c9L.contains i
noncomputable def AW (a b : List Int) : Bool := (a.all fun x => b.contains x) && b.all fun x => a.contains x
def i4 (xs : List Str) (g : af -> Option (Fl × af)) (ds : List D) : Option D := (dI (fun _ => none) xs ds).bind fun ρ => (g ρ).bind wv
def nV := i4 ["table", "one", "two"] (d_law_mix bM).1
def i8 := i4 ["cells"] (d_law_items bM nV).1
def oR := i4 ["items"] (d_law_sayings bM nV).1
def iB := i4 ["row", "first", "step"] (d_law_codes bM).1
def gB1 := i4 ["code"] (lI bM).1
def gC4 := i4 ["code"] (lJ bM).1
def gC6 := i4 ["code"] (lM bM).1
def gC7 := i4 ["code"] (lQ bM).1
def gC8 := i4 ["code"] (lR bM).1
def gC9 := i4 ["code"] (lU bM).1
def nU := i4 ["code"] (kK bM).1
def eM := i4 ["code"] (d_law_judged bM gB1 gC4 gC6 gC7 gC8 gC9).1
def oS := i4 ["text"] (d_law_symbols bM).1
def gB := i4 ["table"] (d_law_keeps bM).1
def iD := i4 ["number", "names"] (d_law_words bM).1
def iC := i4 ["flags"] (iy bM).1
def kN := i4 ["x"] (jO bM).1
def kM := i4 ["x"] (i2 bM).1
def oQ := i4 ["x"] (uR bM).1
noncomputable def pC (d : Option D) (i : Int) : Bool := match d with | some (.int j) => i == j | _ => false
theorem o6 {d : Option D} {i : Int} (h : pC d i = true) : d = some (.int i) := by
 unfold pC at h
 split at h
 . rw [beq_iff_eq.mp h]
 . exact absurd h (by decide)
theorem nj {a b : String} : Str.ofString a = Str.ofString b ↔ a = b := by
 constructor
 . intro h
   rw [Str.ofString_eq_toList, Str.ofString_eq_toList] at h
   have h := congrArg (fun s => s.cps.toList) h
   simp only [] at h
   have h := (List.map_inj_right (f := Char.toNat) (fun x y e => by
    exact Char.ext (UInt32.toNat_inj.mp e))).mp h
   exact String.toList_inj.mp h
 . rintro rfl; rfl
noncomputable def dn (n : Nat) : D := .int n
theorem fB (n : Nat) : D.int (no_index (OfNat.ofNat n)) = dn (OfNat.ofNat n) := rfl
theorem ao {x y : String} {d : D} (h : x ≠ y) : upd ρ x d y = ρ y := if_neg fun c => h (nj.mp c.symm)
theorem aj {x : String} {d : D} : upd ρ x d x = some d := if_pos rfl
noncomputable def GP (sc : Scope) (x : Str) : Bool := sc.names.lookup x == some .free
theorem eu (h : GP sc x = true) : qG sc ρ x = ρ x := if_pos h
theorem Dk (n : Nat) : D.int (n : Int) = dn n := rfl
theorem nc (a b : Nat) : Builtin.bitAnd (a : Int) (b : Int) = ((a &&& b : Nat) : Int) := by
 unfold Builtin.bitAnd
 rw [decide_eq_true (Int.natCast_nonneg a), decide_eq_true (Int.natCast_nonneg b)]
 rfl
theorem vr (a b : Nat) : Builtin.bitOr (a : Int) (b : Int) = ((a ||| b : Nat) : Int) := by
 unfold Builtin.bitOr Builtin.bitAnd
 have h : ∀ c : Nat, decide (0 ≤ Builtin.bitNot (c : Int)) = false := fun c => by
  simp only [Builtin.bitNot]; exact decide_eq_false (by lia)
 have h2 : ∀ c : Int, Builtin.bitNot (Builtin.bitNot c) = c := fun c => by simp only [Builtin.bitNot]; simp +arith only
 rw [h a, h b]
 simp only [h2]
 rfl
theorem td (a b : Nat) : (a : Int).fdiv (b : Int) = ((a / b : Nat) : Int) := by
 rw [Int.fdiv_eq_ediv_of_nonneg _ (Int.natCast_nonneg b)]; rfl
theorem zQ (a b : Nat) : (a : Int).fmod (b : Int) = ((a % b : Nat) : Int) := by
 rw [Int.fmod_eq_emod_of_nonneg _ (Int.natCast_nonneg b)]; rfl
theorem CY (a b : Nat) : Builtin.bitXor (a : Int) (b : Int) = ((a ||| b : Nat) : Int) - ((a &&& b : Nat) : Int) := by
 unfold Builtin.bitXor
 rw [vr, nc]
theorem tG (a b : Nat) : kt zU (dn a) (dn b) = some (dn (a &&& b)) := by show some (D.int _) = _; rw [nc]; rfl
theorem n_or (a b : Nat) : kt PP (dn a) (dn b) = some (dn (a ||| b)) := by show some (D.int _) = _; rw [vr]; rfl
theorem kQ {a b : Nat} (h : b ≤ a) : kt GS (dn a) (dn b) = some (dn (a - b)) := by
 show some (D.int _) = some (D.int _); congr 2; exact Eq.symm (Int.ofNat_sub h)
theorem f0 (a b : Nat) (h : b ≠ 0) : kt zX (dn a) (dn b) = some (dn (a % b)) := by
 show (if (b : Int) ≠ 0 then _ else _ : Option Int).map _ = _
 rw [if_pos (Int.ofNat_ne_zero.mpr h)]
 show some (D.int _) = _
 rw [zQ]; rfl
theorem kP (a b : Nat) (h : b ≠ 0 /\ b < 1073741824) : kt GQ (dn a) (dn b) = some (dn (a / b)) := by
 show (if (b : Int) ≠ 0 /\ _ then _ else _ : Option Int).map _ = _
 rw [if_pos ⟨by exact Int.ofNat_ne_zero.mpr h.left, by rw [Int.natAbs_natCast]; exact h.2⟩]
 show some (D.int _) = _
 rw [td]; rfl
theorem fZ (a b : Nat) : eW (dn a) (dn b) = some (dn (a + b)) := by
 show some (D.int _) = some (D.int _); congr 2
theorem oe {a b : Nat} (h : b < 2 ^ 63) : BO (dn a) (dn b) = some (dn (a * b)) := by
 show (if (b : Int).natAbs < 2 ^ 63 then _ else _) = _
 rw [if_pos (by rw [Int.natAbs_natCast]; exact h)]
 show some (D.int _) = some (D.int _); congr 2
theorem wm (a b : Nat) : kt zY (dn a) (dn b) = some (dn (a / 2 ^ b)) := by
 show (zY (a : Int) (b : Int)).map D.int = _
 unfold zY
 rw [if_pos (Int.natCast_nonneg b)]
 show some (D.int _) = some (D.int _)
 rw [Int.toNat_natCast]
 have := td a (2 ^ b)
 rw [Int.natCast_pow] at this
 rw [<- this]; rfl
theorem Az {a b : Nat} (ha : a < 2 ^ 64) (h : b ≤ 1000000) : kt qQ (dn a) (dn b) = some (dn (a * 2 ^ b)) := by
 show (if (0 : Int) ≤ b /\ (b : Int) ≤ 1000000 /\ (a : Int).natAbs < 2 ^ 64 then _ else _ : Option Int).map _ = _
 rw [if_pos (h9 (by with_reducible exact Int.natCast_nonneg _) (by with_reducible exact Om.iE (OfNat.ofNat _) ‹_› (by decide)) (by rw [Int.natAbs_natCast]; exact ha))]
 show some (D.int _) = some (D.int _)
 rw [Int.toNat_natCast, Int.natCast_mul, Int.natCast_pow]; rfl
theorem Mz {a b : Nat} (ha : a < 2 ^ 64) (h : b ≤ 1000) : kt GR (dn a) (dn b) = some (dn (a ^ b)) := by
 show (if (0 : Int) ≤ b /\ (b : Int) ≤ 1000 /\ (a : Int).natAbs < 2 ^ 64 then _ else _ : Option Int).map _ = _
 rw [if_pos (h9 (by with_reducible exact Int.natCast_nonneg _) (by with_reducible exact Om.iE (OfNat.ofNat _) ‹_› (by decide)) (by rw [Int.natAbs_natCast]; exact ha))]
 show some (D.int _) = some (D.int _)
 rw [Int.toNat_natCast, Int.natCast_pow]
theorem MA (a b : Nat) (h : a &&& b = b) : kt GT (dn a) (dn b) = some (dn (a - b)) := by
 show some (D.int (Builtin.bitXor a b)) = some (D.int _)
 have e : a ||| b = a := by
  apply Nat.eq_of_testBit_eq; intro i
  have := congrArg (·.testBit i) h
  simp only [Nat.testBit_and] at this
  rw [Nat.testBit_or]
  cases h1 : a.testBit i <;> cases h2 : b.testBit i <;> simp_all
 have l : b ≤ a := by rw [<- h]; exact Nat.and_le_left
 rw [CY, e, h]; congr 2; exact Eq.symm (Int.ofNat_sub l)
theorem vo (a b : Nat) : dLt (dn a) (dn b) = some (.bool (decide (a < b))) := by
 show some (D.bool (decide ((a : Int) < b))) = _
 simp only [Int.ofNat_lt]
theorem My (a b : Nat) : dGt (dn a) (dn b) = some (.bool (decide (b < a))) := by
 show some (D.bool (decide ((b : Int) < a))) = _
 simp only [Int.ofNat_lt]
theorem n_ge (a b : Nat) : dGe (dn a) (dn b) = some (.bool (decide (b ≤ a))) := by
 show some (D.bool (decide ((b : Int) ≤ a))) = _
 simp only [Int.ofNat_le]
theorem m4 (a : Nat) : eU (dn a) = some (decide (a ≠ 0)) := by
 show some ((a : Int) != 0) = _
 congr 1
 by_cases h : a = 0
 . subst h; rfl
 . rw [decide_eq_true h]; simpa using h
theorem iW (a : Nat) : yS (dn a) = some (a : Int) := rfl
theorem vZ (a b : Nat) : uF (dn a) (dn b) = decide (a = b) := by
 show PyData.eqv (.int a) (.int b) = _
 by_cases h : a = b
 . subst h; rw [decide_eq_true rfl]; simp [PyData.eqv]
 . rw [decide_eq_false h]; simp only [PyData.eqv, Bool.beq_eq_decide_eq, decide_eq_false_iff_not]; exact Nat.ToInt.of_diseq rfl rfl h
theorem rt (a : Nat) : ro (dn a) = true := by kernel_rfl
theorem tH (a b : Nat) : oN (dn a) (dn b) = some (.bool (decide (a = b))) := by
 unfold oN; rw [if_pos ⟨rt a, rt b⟩, vZ]
theorem g4 {xs : List D} (h : i < 2 ^ 62) : ef (.tup xs) (dn i) = xs[i]? := by
 unfold dn
 (delta ef; dsimp only)
 rw [if_pos ⟨Int.natCast_nonneg i, by exact Int.lt_toNat.mp h⟩, Int.toNat_natCast]
theorem ee {xs : List D} (h : i < 2 ^ 62) : ef (.list xs) (dn i) = xs[i]? := by
 unfold dn
 (delta ef; dsimp only)
 rw [if_pos ⟨Int.natCast_nonneg i, by exact Int.lt_toNat.mp h⟩, Int.toNat_natCast]
theorem AA (h : i < 2 ^ 62) : ef (.str l) (dn i) = (l[i]?).map fun c => .str [c] := by
 unfold dn
 (delta ef; dsimp only)
 rw [if_pos ⟨Int.natCast_nonneg i, by exact Int.lt_toNat.mp h⟩, Int.toNat_natCast]
theorem iY {α : Type} (l : List α) (n : Nat) : slc none (some (n : Int)) l = l.take n := by
 unfold slc
 rw [ng]
 show (l.drop 0).take (_ - 0) = _
 rw [List.drop_zero, Nat.sub_zero]
 rcases Nat.le_total n l.length with h | h
 . rw [Nat.min_eq_left h]
 . rw [Nat.min_eq_right h, List.take_length, List.take_of_length_le h]
theorem oy {α : Type} (l : List α) (n : Nat) : slc (some (n : Int)) none l = l.drop n := by
 unfold slc
 rw [ng]
 show (l.drop _).take (l.length - _) = _
 rcases Nat.le_total n l.length with h | h
 . rw [Nat.min_eq_left h, List.take_of_length_le (by rw [List.length_drop]; exact Nat.le_refl _)]
 . rw [Nat.min_eq_right h, List.drop_length, List.drop_of_length_le h]; simp
theorem CI {α : Type} (l : List α) (a b : Nat) : slc (some (a : Int)) (some (b : Int)) l = (l.drop a).take (b - a) := by
 unfold slc
 rw [ng, ng]
 rcases Nat.le_total a l.length with h | h
 . rw [Nat.min_eq_left h]
   rcases Nat.le_total b l.length with h' | h'
   . rw [Nat.min_eq_left h']
   . rw [Nat.min_eq_right h', List.take_of_length_le (by rw [List.length_drop]; exact Nat.le_refl _), List.take_of_length_le (by rw [List.length_drop]; exact Nat.sub_le_sub_right h' a)]
 . rw [Nat.min_eq_right h, List.drop_length, List.drop_of_length_le h]; simp
noncomputable def fk (t a b : Nat) : Nat := ((t &&& 1) * ((15 - a) &&& (15 - b))) ||| ((t / 2 ^ 1 &&& 1) * ((15 - a) &&& b)) ||| ((t / 2 ^ 2 &&& 1) * (a &&& (15 - b))) ||| ((t / 2 ^ 3 &&& 1) * (a &&& b))
theorem D7 {a : Nat} (b : Nat) (h : a < 16) : a &&& b < 2 ^ 63 := Nat.lt_of_le_of_lt Nat.and_le_left (by with_reducible exact Om.lS (OfNat.ofNat _) ‹_› rfl)
theorem vm (t a b : Nat) (ha : a ≤ 15) (hb : b ≤ 15) : nV [dn t, dn a, dn b] = some (dn (fk t a b)) := by
 have l1 : 15 - a < 16 := by exact Nat.sub_lt_succ 15 a
 have l2 : a < 16 := by with_reducible exact Om.lL (OfNat.ofNat _) ‹_› rfl
 unfold nV d_law_mix
 simp only [i4, dI, ag, upd, eD, seqT, nj, fB, tG, kQ ha, kQ hb, wm, n_or, oe (D7 _ l1), oe (D7 _ l2), Option.bind_some, String.reduceEq, if_true, if_false, List.contains_nil, Bool.false_eq_true, wv, fk]
def Ok (r : Option (Fl × af)) (Q : Fl -> af -> Prop) : Prop := ∃ f ρ, r = some (f, ρ) /\ Q f ρ
theorem Ok.eq {f : Fl} (e : r = some (f, ρ)) (h : Q f ρ) : Ok r Q := (kA f ρ e h)
theorem Ok.seqT {k : af -> Option (Fl × af)} (h : Ok r fun f ρ => f = .next /\ Ok (k ρ) Q) : Ok (seqT r k) Q := by
 (refine bk h fun f ρ q0 q1 q => ?_; clear h; subst q0 q1)
 exact q
theorem Ok.seqF {k : af -> Option (Fl × af)} (h : Ok r fun f ρ => f = .next /\ Ok (k ρ) Q) : Ok (seqF r k) Q := by
 (refine bk h fun f ρ q0 q1 q => ?_; clear h; subst q0 q1)
 exact q
theorem Ok.fn {d : D} (e : dI (fun _ => none) xs ds = some ρ) (h : Ok (g ρ) fun f _ => f = .ret d) : i4 xs g ds = some d := by
 (refine nk h fun f ρ' e' q0 => ?_; clear h; subst q0)
 unfold i4
 rw [e, Option.bind_some, e']
 rfl
theorem cN {k : af -> Option (Fl × af)} : seqF (some (.next, ρ)) k = k ρ := rfl
theorem ik {d : D} {k : af -> Option (Fl × af)} : seqT (some (.ret d, ρ)) k = some (.ret d, ρ) := rfl
theorem ua {d : D} {k : af -> Option (Fl × af)} : seqF (some (.ret d, ρ)) k = some (.ret d, ρ) := rfl
theorem Ok.for {α : Type} {enc : α -> D} {t : Expr} {go : af -> Option (Fl × af)} (Inv : List α -> af -> Prop) (l : List α) (hd : ds = l.map enc) (h0 : Inv [] ρ)
 (hs : ∀ a x b ρ, l = a ++ x :: b -> Inv a ρ -> ∃ ρ₁, iM t (enc x) ρ = some ρ₁ /\ Ok (gb ρ₁) fun f ρ₂ => f = .next /\ Inv (a ++ [x]) ρ₂) (hk : ∀ ρ, Inv l ρ -> Ok (go ρ) Q) : Ok (iP t gb go ds ρ) Q := by
 subst hd
 have H : ∀ (b a : List α) (ρ : af), l = a ++ b -> Inv a ρ -> Ok (iP t gb go (b.map enc) ρ) Q := by
  intro b
  induction b with
  | nil => intro a ρ e i; rw [List.append_nil] at e; subst e; exact hk ρ i
  | cons x b ih =>
   intro a ρ e i
   (refine qi (hs a x b ρ e i) fun ρ₁ am f ρ₂ ar q0 bW => ?_; subst q0)
   rw [List.map_cons, iP, am, Option.bind_some, ar]
   exact ih (a ++ [x]) ρ₂ (by rw [e]; simp) bW
 exact H l [] ρ rfl h0
noncomputable def yp (k : Nat) : Nat × Nat := match k with
 | 0 => (0, 1)
 | 1 => (1, 0)
 | 2 => (0, 0)
 | _ => (1, 1)
noncomputable def pj (l : Nat) : Nat := if l = 0 then 12 else 10
structure It where
 num : Nat
 l0 : Nat
 l1 : Nat
 table : Nat
 bar : Nat
def xp (c : Nat) : It := ⟨c % 48 + 7, (yp (c / 48 % 4)).1, (yp (c / 48 % 4)).2, fk (c % 16) (pj (yp (c / 48 % 4)).1) (pj (yp (c / 48 % 4)).2), if c / 192 % 4 = 1 then 1 else 0⟩
def It.d (i : It) : D := .tup [dn i.num, .tup [dn i.l0, dn i.l1], dn i.table, dn i.bar]
theorem BY (h : k < 4) : [D.tup [dn 0, dn 1], .tup [dn 1, dn 0], .tup [dn 0, dn 0], .tup [dn 1, dn 1]][k]? = some (.tup [dn (yp k).1, dn (yp k).2]) := by
 rcases lt4 h with rfl | rfl | rfl | rfl <;> rfl
theorem BC (h : k < 4) : [dn 0, dn 1, dn 0, dn 0][k]? = some (dn (if k = 1 then 1 else 0)) := by
 rcases lt4 h with rfl | rfl | rfl | rfl <;> rfl
theorem Av (k : Nat) : (yp k).1 < 2 /\ (yp k).2 < 2 := by
 match k with
 | 0 => decide
 | 1 => decide
 | 2 => decide
 | n + 3 => exact ⟨(by decide : 1 < 2), (by decide : 1 < 2)⟩
theorem AK {l : Nat} (h : l < 2) : [dn 12, dn 10][l]? = some (dn (pj l)) := by
 rcases PR h with rfl | rfl <;> rfl
theorem pH (l : Nat) : pj l ≤ 15 := by unfold pj; split <;> decide
theorem Ai (cs : List Nat) (h4 : cs.length = 8) (hb : ∀ c ∈ cs, c < 10 ^ 9) : i8 [.list (cs.map dn)] = some (.list ((cs.take (1 + cs.getD 3 0 % 3)).map fun c => (xp c).d)) := by
 refine Ok.fn (ρ := upd (fun _ => none) "cells" (.list (cs.map dn))) rfl ?_
 unfold d_law_items
 dsimp only
 refine Ok.seqT (.eq (ρ := upd (upd (fun _ => none) "cells" (.list (cs.map dn))) "items" (.list [])) rfl ⟨rfl, ?_⟩)
 refine Ok.seqT ?_
 have e3 : cs[3]? = some (cs.getD 3 0) := by
  rw [List.getD_eq_getElem?_getD, List.getElem?_eq_getElem (by with_reducible exact Om.eG ‹_› rfl)]; rfl
 have s3 : cg none (some ((1 + cs.getD 3 0 % 3 : Nat) : Int)) (.list (cs.map dn)) = some (.list ((cs.take (1 + cs.getD 3 0 % 3)).map dn)) := by
  (delta cg; simp only [iY, List.map_take])
  rw [if_pos (by rw [List.length_map]; with_reducible exact Om.eK ‹_› rfl)]
 simp -implicitDefEqProofs +decide only [aj, ao, ne_eq, eD, if_true, if_false, ag, ai, od, Option.bind_some, Option.map_some, fB, yT, ee (by decide : 3 < 2 ^ 62), List.getElem?_map, e3, f0 _ 3 (by decide), fZ, iW, s3, eO]
 refine Ok.for (α := Nat) (enc := dn) (fun done ρ => ρ "items" = some (.list (done.map fun c => (xp c).d))) (cs.take (1 + cs.getD 3 0 % 3)) rfl rfl ?_ ?_
 . intro a c b ρ e i
   refine (bC _ rfl ?_)
   have df : a.length ≤ 8 := by have := congrArg List.length e; simp at this; lia
   refine Ok.eq (ρ := upd (upd (upd ρ "cell" (dn c)) "letters" (.tup [dn (yp (c / 48 % 4)).1, dn (yp (c / 48 % 4)).2])) "items" (.list ((a ++ [c]).map fun c => (xp c).d))) ?_ ⟨rfl, rfl⟩
   have k4 : c / 48 % 4 < 4 := Nat.mod_lt _ (by decide)
   have hlt : a.length < 10000 := by with_reducible exact Om.lL (OfNat.ofNat _) ‹_› rfl
   have hl := Av (c / 48 % 4)
   have b0 : (yp (c / 48 % 4)).1 < 2 ^ 62 := by with_reducible exact Om.cAT (OfNat.ofNat _) ‹_› rfl
   have b1 : (yp (c / 48 % 4)).2 < 2 ^ 62 := by with_reducible exact Om.cBT (OfNat.ofNat _) ‹_› rfl
   have k5 : c / 192 % 4 < 4 := Nat.mod_lt _ (by decide)
   simp -implicitDefEqProofs +decide only [aj, ao, ne_eq, if_true, ag, ai, od, Option.bind_some, cN, List.length_cons, List.length_nil, Nat.reduceAdd, Nat.reduceLeDiff, List.getElem?_cons_zero, List.getElem?_cons_succ, i, f0 _ 48 (by decide), f0 _ 16 (by decide), f0 _ 4 (by decide), kP _ 48 (by decide), kP _ 192 (by decide), g4 (by with_reducible exact Om.lS (OfNat.ofNat _) ‹_› rfl : c / 48 % 4 < 2 ^ 62), BY k4, g4 (by with_reducible exact Om.lS (OfNat.ofNat _) ‹_› rfl : c / 192 % 4 < 2 ^ 62), BC k5, fZ, List.length_map, hlt, g4 (by decide : 0 < 2 ^ 62), g4 (by decide : 1 < 2 ^ 62), g4 b0, g4 b1, AK hl.1, AK hl.2, vm _ _ _ (pH _) (pH _), List.map_append, List.map_cons, List.map_nil, It.d, xp]
 . intro ρ i
   refine .eq rfl ⟨rfl, ?_⟩
   simp -implicitDefEqProofs +decide only [Option.bind_some, ik, i]
   exact .eq rfl rfl
def oD (k : Nat) (d : D) : Prop := ig d = true /\ (dw d).canLay0 = true /\ (dw d).depth ≤ k
theorem oD.sh {d : D} (h : oD k d) (hk : k ≤ 64) : ro d = true := by
 unfold ro SeqAt.shaped
 rw [h.1, h.2.1, decide_eq_true (Nat.le_trans h.2.2 hk)]
 rfl
theorem BQ (a k : Nat) : oD k (dn a) := (h9 (by unfold dn; simp [ig]) (by unfold dn; simp [dw, PyData.canLay0]) (by unfold dn; simp [dw, PyData.depth]))
theorem qP (a : Int) (k : Nat) : oD k (.int a) := (h9 (by simp [ig]) (by simp [dw, PyData.canLay0]) (by simp [dw, PyData.depth]))
theorem nN (a : Bool) (k : Nat) : oD k (.bool a) := (h9 (by simp [ig]) (by simp [dw, PyData.canLay0]) (by simp [dw, PyData.depth]))
theorem qO {k : Nat} : ∀ {xs : List D}, (∀ x ∈ xs, oD k x) -> mV xs = true /\ PyData.canLayAll0 (g9 xs) = true /\ PyData.depthAll (g9 xs) ≤ k
 | [], _ => (h9 (by simp [mV]) (by simp [g9, PyData.canLayAll0]) (by simp [g9, PyData.depthAll]))
 | x :: xs, h => by
  have h1 := h x (.head _)
  have h2 := qO (xs := xs) fun y hy => h y (.tail _ hy)
  exact (h9 (by simp [mV, h1.1, h2.1]) (by simp [g9, PyData.canLayAll0, h1.2.1, h2.2.1]) (by simp only [g9, PyData.depthAll]; exact Nat.max_le.mpr ⟨h1.2.2, h2.2.2⟩))
theorem jT {xs : List D} (h : ∀ x ∈ xs, oD k x) : oD (k + 1) (.list xs) := by
 refine n4 (qO h) fun a b c => ?_
 exact (h9 (by simpa [ig] using a) (by simpa [dw, PyData.canLay0] using b) (by simp only [dw, PyData.depth]; exact Nat.add_le_add_right c 1))
theorem BR {xs : List D} (h : ∀ x ∈ xs, oD k x) : oD (k + 1) (.tup xs) := by
 refine n4 (qO h) fun a b c => ?_
 exact (h9 (by simpa [ig] using a) (by simpa [dw, PyData.canLay0] using b) (by simp only [dw, PyData.depth]; exact Nat.add_le_add_right c 1))
theorem kq (h : PyData.strOk (S l) = true) (k : Nat) : oD k (.str l) := (h9 (by simp [ig]) (by simp [dw, PyData.canLay0, h]) (by simp [dw, PyData.depth]))
theorem lV (l : List Nat) (k : Nat) : oD (k + 1) (.list (l.map dn)) := jT fun x hx => by
 (refine ax (List.mem_map.mp hx) fun a _ q0 => ?_; subst q0)
 exact BQ a k
mutual
theorem tc : ∀ d : D, PyData.eqv (dw d) (dw d) = true
 | .none => by simp [dw, PyData.eqv]
 | .bool b => by simp [dw, PyData.eqv]
 | .int i => by simp [dw, PyData.eqv]
 | .str l => by simp [dw, PyData.eqv]
 | .list xs => by simpa [dw, PyData.eqv] using jR xs
 | .tup xs => by simpa [dw, PyData.eqv] using jR xs
 | .val v => by simp [dw, PyData.eqv]
 | .opq p => by simp [dw, PyData.eqv]
theorem jR : ∀ xs : List D, PyData.eqvAll (g9 xs) (g9 xs) = true
 | [] => by simp [g9, PyData.eqvAll]
 | x :: xs => by simp [g9, PyData.eqvAll, tc x, jR xs]
end
theorem ta (d : D) : uF d d = true := tc d
theorem sV {d : D} (h : oD k d) (hk : k ≤ 64) : oN d d = some (.bool true) := by
 unfold oN; rw [if_pos ⟨h.sh hk, h.sh hk⟩, ta]
theorem jP {d : D} (h : oD k d) (hk : k ≤ 64) : Dj d d = some (.bool false) := by
 unfold Dj; rw [if_pos ⟨h.sh hk, h.sh hk⟩, ta]; rfl
theorem By (l : List Nat) (m : Nat) : ((l.map dn).any fun y => uF y (dn m)) = l.contains m := by
 induction l with
 | nil => rfl
 | cons a l ih =>
  rw [List.map_cons, List.any_cons, ih, vZ, List.contains_cons]
  congr 1
  rw [Bool.eq_iff_iff, decide_eq_true_eq, beq_iff_eq]
  exact eq_comm
theorem C1 (m : Nat) (l : List Nat) : qI (dn m) (.list (l.map dn)) = some (.bool (!l.contains m)) := by
 unfold qI
 simp only []
 rw [if_pos ⟨rt m, (lV l 0).sh (by decide)⟩, By]
theorem pu (l : List Nat) : (l.map dn).all lh = true := by
 rw [List.all_map, List.all_eq_true]; intro x _; rfl
theorem cx {p : Nat -> Bool} (h : (List.range n).all p = true) {a : Nat} (ha : a < n) : p a = true := List.all_eq_true.mp h a (List.mem_range.mpr ha)
theorem vn : ((List.range 16).all fun t => (List.range 16).all fun a => (List.range 16).all fun b => Nat.ble (fk t a b) 15) = true := by kernel_rfl
theorem r7 : ((List.range 16).all fun c => (List.range 2).all fun l => (List.range 2).all fun m => (List.range 16).all fun a => (List.range 16).all fun b => Nat.beq (fk (fk c (pj l) (pj m)) a b) (fk c (bif Nat.beq l 0 then a else b) (bif Nat.beq m 0 then a else b))) = true := by kernel_rfl
theorem r9 {t a b : Nat} (ht : t ≤ 15) (ha : a ≤ 15) (hb : b ≤ 15) : fk t a b ≤ 15 :=
 Nat.le_of_ble_eq_true (cx (cx (cx vn (Nat.lt_succ_of_le ht)) (Nat.lt_succ_of_le ha)) (Nat.lt_succ_of_le hb))
noncomputable def gY {α : Type} (l : Nat) (a b : α) : α := if l = 0 then a else b
theorem Ax {l a b : Nat} (hc : c ≤ 15) (hl : l < 2) (hm : m < 2) (ha : a ≤ 15) (hb : b ≤ 15) : fk (fk c (pj l) (pj m)) a b = fk c (gY l a b) (gY m a b) := by
 have := Nat.eq_of_beq_eq_true (cx (cx (cx (cx (cx r7 (Nat.lt_succ_of_le hc)) hl) hm) (Nat.lt_succ_of_le ha)) (Nat.lt_succ_of_le hb))
 rw [this]
 have e : ∀ k, (bif Nat.beq k 0 then a else b) = gY k a b := fun k => by
  unfold gY; cases k <;> rfl
 rw [e, e]
structure It.Ok (i : It) : Prop where
 lo : 7 ≤ i.num
 hi : i.num < 55
 l0 : i.l0 < 2
 l1 : i.l1 < 2
 table : i.table = fk ((i.num - 7) % 16) (pj i.l0) (pj i.l1)
 bar : i.bar < 2
theorem It.Ok.le {i : It} (h : i.Ok) : i.table ≤ 15 := by
 rw [h.table]; exact r9 (Nat.le_of_lt_succ (Nat.mod_lt _ (by decide))) (pH _) (pH _)
theorem BV (c : Nat) : (xp c).Ok := by
 have := Av (c / 48 % 4)
 refine ⟨by show 7 ≤ c % 48 + 7; simp +arith only, by show c % 48 + 7 < 55; lia, this.1, this.2, ?_, by show (if _ then 1 else 0) < 2; split <;> decide⟩
 show fk (c % 16) _ _ = fk ((c % 48 + 7 - 7) % 16) _ _
 rw [<- Om.m48]; rfl
inductive kB (its : List It) : List Nat -> Nat -> Prop
 | h : kB its [256] 12
 | p : kB its [257] 10
 | op {i : It} {aB ek : List Nat} {kG n9 : Nat} : i ∈ its -> kB its aB kG -> kB its ek n9 -> kB its (i.num :: aB ++ ek) (fk ((i.num - 7) % 16) kG n9)
theorem kB.le {r : List Nat} {t : Nat} (h : kB its r t) : t ≤ 15 := by
 induction h with
 | h => decide
 | p => decide
 | op _ _ _ a b => exact r9 (Nat.le_of_lt_succ (Nat.mod_lt _ (by decide))) a b
inductive Bs (its : List It) : Nat -> Prop
 | h : Bs its 12
 | p : Bs its 10
 | op {i : It} {a b : Nat} : i ∈ its -> Bs its a -> Bs its b -> Bs its (fk i.table a b)
structure uC (its : List It) (known : List Nat) (rows : List (List Nat)) : Prop where
 nodup : known.Nodup
 len : rows.length = known.length
 k0 : known[0]? = some 12
 k1 : known[1]? = some 10
 gen : ∀ t ∈ known, Bs its t
 sent : ∀ i r t, rows[i]? = some r -> known[i]? = some t -> kB its r t /\ r.length < 2 ^ (i + 1)
theorem uC.le {known : List Nat} (h : uC its known rows) : ∀ t ∈ known, t ≤ 15 := by
 intro t ht
 obtain ⟨i, hi, rfl⟩ := List.mem_iff_getElem.mp ht
 have hr : i < rows.length := by rw [h.len]; exact hi
 exact (h.sent i rows[i] known[i] (List.getElem?_eq_getElem hr) (List.getElem?_eq_getElem hi)).1.le
theorem mw : ∀ {l : List Nat}, l.Nodup -> (∀ t ∈ l, t ≤ n) -> l.length ≤ n + 1 := by
 induction n with
 | zero =>
  intro l h hl
  match l, h with
  | [], _ => simp
  | [_], _ => simp
  | a :: b :: r, h =>
   have ha := hl a (by simp)
   have hb := hl b (by simp)
   have := (List.nodup_cons.mp h).1
   exact absurd (by simp; lia) this
 | succ n ih =>
  intro l h hl
  have h1 := ih (l := l.erase (n + 1)) (h.erase _) fun t ht => by
   have := (h.mem_erase_iff).mp ht
   have := hl t this.2
   lia
  by_cases hm : n + 1 ∈ l
  . have := List.length_erase_of_mem hm; lia
  . rw [List.erase_of_not_mem hm] at h1; exact Nat.le_add_right_of_le h1
theorem uC.lt {known : List Nat} (h : uC its known rows) : known.length ≤ 16 := mw h.nodup h.le
theorem uC.add {known : List Nat} {it : It} {a b ka kb : Nat} {ra rb : List Nat} (h : uC its known rows) (hi : it ∈ its) (ok : it.Ok)
 (ea : known[a]? = some ka) (eb : known[b]? = some kb) (fa : rows[gY it.l0 a b]? = some ra) (fb : rows[gY it.l1 a b]? = some rb) (hn : fk it.table ka kb ∉ known) :
 uC its (known ++ [fk it.table ka kb]) (rows ++ [it.num :: ra ++ rb]) := by
 have la : a < known.length := (List.getElem?_eq_some_iff.mp ea).1
 have lb : b < known.length := (List.getElem?_eq_some_iff.mp eb).1
 have hka : ka ≤ 15 := h.le _ (List.mem_of_getElem? ea)
 have hkb : kb ≤ 15 := h.le _ (List.mem_of_getElem? eb)
 have q : ∀ l r, rows[gY l a b]? = some r -> kB its r (gY l ka kb) /\ r.length < 2 ^ known.length := by
  intro l r e
  have hp : gY l a b < known.length := by unfold gY; split <;> assumption
  have hk : known[gY l a b]? = some (gY l ka kb) := by unfold gY; split <;> assumption
  refine Ea (h.sent _ _ _ e hk) fun x y => ?_
  exact ⟨x, Nat.lt_of_lt_of_le y (Nat.pow_le_pow_right (by decide) hp)⟩
 refine ⟨?_, by simp [h.len], ?_, ?_, ?_, ?_⟩
 . rw [List.nodup_append]
   refine (h9 h.nodup (by simp) ?_)
   intro x hx y hy e
   rw [List.mem_singleton] at hy
   subst hy; subst e
   exact hn hx
 . rw [List.getElem?_append_left (by ((with_reducible refine Om.lm ‹_› ?_); simp +arith only))]; exact h.k0
 . have : 1 < known.length := (List.getElem?_eq_some_iff.mp h.k1).1
   rw [List.getElem?_append_left this]; exact h.k1
 . intro t ht
   rcases List.mem_append.mp ht with ht | ht
   . exact h.gen t ht
   . rw [List.mem_singleton] at ht
     subst ht
     exact .op hi (h.gen _ (List.mem_of_getElem? ea)) (h.gen _ (List.mem_of_getElem? eb))
 . intro i r t er et
   rcases Nat.lt_or_ge i known.length with hl | hl
   . rw [List.getElem?_append_left (by rw [h.len]; exact hl)] at er
     rw [List.getElem?_append_left hl] at et
     exact h.sent i r t er et
   . have hl' := (List.getElem?_eq_some_iff.mp et).1
     rw [List.length_append, List.length_singleton] at hl'
     have : i = known.length := by exact Nat.eq_of_le_of_lt_succ hl hl'
     subst this
     rw [List.getElem?_append_right (by rw [h.len]; exact Nat.le_refl _), h.len, Nat.sub_self] at er
     rw [List.getElem?_append_right (Nat.le_refl _), Nat.sub_self] at et
     cases er; cases et
     have qa := q _ _ fa
     have qb := q _ _ fb
     refine ⟨?_, ?_⟩
     . have := kB.op hi qa.1 qb.1
       rw [ok.table, Ax (Nat.le_of_lt_succ (Nat.mod_lt _ (by decide))) ok.l0 ok.l1 hka hkb]
       exact this
     . have := Nat.pow_succ (n := 2) (m := known.length)
       simp only [List.length_append, List.length_cons]
       lia
theorem Ok.while {go : af -> Option (Fl × af)} (Inv : Nat -> af -> Prop) (B : Nat) (h0 : Inv 0 ρ) (hB : B < n)
 (hs : ∀ k ρ, Inv k ρ -> (ft ρ = some false /\ Ok (go ρ) Q) \/ (k < B /\ ft ρ = some true /\ Ok (gb ρ) fun f ρ₂ => f = .next /\ Inv (k + 1) ρ₂)) : Ok (js ft gb go n ρ) Q := by
 have H : ∀ (n k : Nat) (ρ : af), B < n + k -> k ≤ B -> Inv k ρ -> Ok (js ft gb go n ρ) Q := by
  intro n
  induction n with
  | zero => intro k ρ h1 h2; lia
  | succ n ih =>
   intro k ρ h1 h2 i
   rw [js]
   rcases hs k ρ i with ⟨e, q⟩ | ⟨hk, e, f, ρ₂, ar, rfl, bW⟩
   . rw [e]; exact q
   . rw [e, Option.bind_some, if_pos rfl, ar]
     exact ih (k + 1) ρ₂ (by ((with_reducible refine Om.lr ‹_› ?_); simp +arith only)) hk bW
 exact H n 0 ρ hB (Nat.zero_le _) h0
def m8 (rows : List (List Nat)) : D := .list (rows.map fun r => .list (r.map dn))
structure sk (its : List It) (k : Nat) (known : List Nat) (rows : List (List Nat)) (ρ : af) : Prop where
 known : ρ "known" = some (.list (known.map dn))
 rows : ρ "rows" = some (m8 rows)
 done : ρ "done" = some (dn k)
 items : ρ "items" = some (.list (its.map It.d))
theorem sk.set {known : List Nat} {x : String} {d : D} (h : sk its k known rows ρ) (h1 : x ≠ "known") (h2 : x ≠ "rows") (h3 : x ≠ "done") (h4 : x ≠ "items") : sk its k known rows (upd ρ x d) := by
 have e : ∀ y : String, x ≠ y -> upd ρ x d y = ρ y := fun y hy => if_neg fun c => hy (nj.mp c.symm)
 exact ⟨(e _ h1).trans h.known, (e _ h2).trans h.rows, (e _ h3).trans h.done, (e _ h4).trans h.items⟩
def oY (its : List It) (k : Nat) (known0 req : List Nat) (ρ : af) : Prop := ∃ known rows, sk its k known rows ρ /\ uC its known rows /\ known0 <+: known /\ ∀ m ∈ req, m ∈ known
theorem oY.set {known0 req : List Nat} {x : String} {d : D} (h : oY its k known0 req ρ) (h1 : x ≠ "known") (h2 : x ≠ "rows") (h3 : x ≠ "done") (h4 : x ≠ "items") : oY its k known0 req (upd ρ x d) :=
 let ⟨kn, r, a, b⟩ := h; ⟨kn, r, a.set h1 h2 h3 h4, b⟩
noncomputable def Kn (known0 : List Nat) (i : Nat) : Nat := known0.getD i 0
def m5 (known0 : List Nat) (it : It) (p : Nat × Nat) : Nat := fk it.table (Kn known0 p.1) (Kn known0 p.2)
def wn (known0 : List Nat) (k o : Nat) (it : It) : List Nat := [(k, o), (o, k)].map (m5 known0 it)
def wo (known0 : List Nat) (its : List It) (k o : Nat) : List Nat := its.flatMap (wn known0 k o)
theorem kz {α : Type} {l m : List α} (h : l <+: m) {x : α} (e : l[i]? = some x) : m[i]? = some x := by
 (refine Ex h fun r q0 => ?_; clear h; subst q0)
 rw [List.getElem?_append_left (List.getElem?_eq_some_iff.mp e).1]; exact e
theorem tU {l : Nat} (hl : l < 2) {α : Type} {a b : α} : [a, b][l]? = some (gY l a b) := by
 rcases PR hl with rfl | rfl <;> rfl
def pD (p : Nat × Nat) : D := .tup [dn p.1, dn p.2]
theorem u8 {r : List Nat} (h : rows[i]? = some r) : (rows.map fun r => D.list (r.map dn))[i]? = some (.list (r.map dn)) := by
 rw [List.getElem?_map, h]; rfl
theorem jQ {x : Nat} (h : l[i]? = some x) : (l.map dn)[i]? = some (dn x) := by rw [List.getElem?_map, h]; rfl
theorem mv (h : i < l.length) : l[i]? = some (Kn l i) := by
 unfold Kn; rw [List.getD_eq_getElem?_getD, List.getElem?_eq_getElem h]; rfl
def qe (its : List It) (known : List Nat) : Prop := ∀ it ∈ its, ∀ a ∈ known, ∀ b ∈ known, fk it.table a b ∈ known
def yx (its : List It) (known : List Nat) (k : Nat) : Prop := ∀ it ∈ its, ∀ i j a b, i < k -> j < k -> known[i]? = some a -> known[j]? = some b -> fk it.table a b ∈ known
theorem full {known : List Nat} (h : known.Nodup) (hl : ∀ t ∈ known, t ≤ 15) (h16 : 16 ≤ known.length) (hm : m ≤ 15) : m ∈ known := by
 by_cases c : m ∈ known
 . exact c
 . have := mw (n := 15) (l := m :: known) (List.nodup_cons.mpr ⟨c, h⟩) (fun t ht => (List.mem_cons.mp ht).elim (fun e => e ▸ hm) (hl t))
   rw [List.length_cons] at this
   lia
theorem I4 (its : List It) (eC : ∀ it ∈ its, it.Ok) (hn : its.length ≤ 10000) : ∃ known rows, oR [.list (its.map It.d)] = some (.tup [.list (known.map dn), m8 rows]) /\ uC its known rows /\ qe its known := by
 have key : Ok ((d_law_sayings bM nV).1 (upd (fun _ => none) "items" (.list (its.map It.d)))) fun f _ => ∃ known rows, f = .ret (.tup [.list (known.map dn), m8 rows]) /\ uC its known rows /\ qe its known := by
  unfold d_law_sayings
  dsimp only
  refine Ok.seqT (.eq (ρ := upd (upd (upd (upd (fun _ => none) "items" (.list (its.map It.d))) "done" (dn 0)) "rows" (m8 [[256], [257]])) "known" (.list ([12, 10].map dn))) rfl ⟨rfl, ?_⟩)
  refine Ok.seqT (Ok.while (fun k ρ => ∃ known rows, sk its k known rows ρ /\ uC its known rows /\ k ≤ known.length /\ yx its known k) 16 ?_ (by decide) ?_)
  . refine (eR ([12, 10]) ([[256], [257]]) ⟨rfl, rfl, rfl, rfl⟩ ⟨by decide, rfl, rfl, rfl, fun t ht => by rcases List.mem_cons.mp ht with rfl | ht; exact .h; rw [List.mem_singleton.mp ht]; exact .p, ?_⟩ (Nat.zero_le _) (fun it _ i j a b h => absurd h (Nat.not_lt_zero _)))
    intro i r t er et
    match i, er, et with
    | 0, er, et => cases er; cases et; exact ⟨.h, by decide⟩
    | 1, er, et => cases er; cases et; exact ⟨.p, by decide⟩
  . rintro k ρ ⟨known, rows, s, y, hk, cl⟩
    have df : known.length < 16777216 := Nat.lt_of_le_of_lt y.lt (by decide)
    have el : il [.list (known.map dn)] = some (dn known.length) := by
     (delta il; simp only [List.length_map, if_pos df]); rfl
    simp -implicitDefEqProofs +decide only [eD, if_false, ag, ai, cB, Option.bind_some, fB, yT, s.done, s.known, el, vo, jE]
    by_cases h1 : k < known.length
    . by_cases h2 : known.length < 16
      . right
        refine (h9 (by with_reducible exact Nat.lt_of_le_of_lt ‹_› ‹_›) (by simp [h1, h2]) ?_)
        have en : ix [dn (k + 1)] = some ((List.range (k + 1)).map dn) := by
         unfold dn
         (delta ix; dsimp only)
         rw [if_pos ⟨by with_reducible exact Int.natCast_nonneg _, by lia⟩, Int.toNat_natCast]
        have et : me (.list (its.map It.d)) = some (its.map It.d) := by
         (delta me; dsimp only)
         rw [if_pos (by rw [List.all_map, List.all_eq_true]; intro x _; rfl)]
        refine Ok.seqF ?_
        simp -implicitDefEqProofs +decide only [ai, Option.bind_some, fZ, en]
        refine Ok.for (α := Nat) (enc := dn) (fun a ρ => oY its k known (a.flatMap (wo known its k)) ρ) (List.range (k + 1)) rfl (eR known rows s y List.prefix_rfl (by simp)) ?_ ?_
        . intro a o b ρ e h
          have ho : o < known.length := by
           have : o ∈ List.range (k + 1) := by rw [e]; simp
           have := List.mem_range.mp this
           exact Nat.lt_of_lt_of_le this h1
          refine (bC _ rfl ?_)
          refine Ok.seqF ?_
          (refine gv h fun Mt NR s₁ y₁ NK NO => ?_; clear h)
          simp -implicitDefEqProofs +decide only [ao, ne_eq, Option.bind_some, s₁.items, et]
          refine Ok.for (α := It) (enc := It.d) (fun c ρ => oY its k known (a.flatMap (wo known its k) ++ c.flatMap (wn known k o)) ρ /\ ρ "other" = some (dn o)) its rfl ⟨(eR Mt NR (s₁.set (by decide) (by decide) (by decide) (by decide)) y₁ NK (by simpa using NO)), aj⟩ ?_ ?_
          . rintro c it c' ρ ar ⟨h, eo⟩
            have hi : it ∈ its := by rw [ar]; simp
            refine (bC (upd (upd (upd (upd ρ "number" (dn it.num)) "letters" (.tup [dn it.l0, dn it.l1])) "table" (dn it.table)) "bar" (dn it.bar)) rfl ?_)
            refine Ok.seqF ?_
            have h := (((h.set (x := "number") (d := dn it.num) (by decide) (by decide) (by decide) (by decide)).set (x := "letters") (d := .tup [dn it.l0, dn it.l1]) (by decide) (by decide) (by decide) (by decide)).set (x := "table") (d := dn it.table) (by decide) (by decide) (by decide) (by decide)).set (x := "bar") (d := dn it.bar) (by decide) (by decide) (by decide) (by decide)
            generalize hρ : upd (upd (upd (upd ρ "number" (dn it.num)) "letters" (.tup [dn it.l0, dn it.l1])) "table" (dn it.table)) "bar" (dn it.bar) = aV at h ⊢
            have e1 : aV "number" = some (dn it.num) := by rw [<- hρ]; simp -implicitDefEqProofs +decide only [aj, ao, ne_eq]
            have e2 : aV "letters" = some (.tup [dn it.l0, dn it.l1]) := by rw [<- hρ]; simp -implicitDefEqProofs +decide only [aj, ao, ne_eq]
            have e3 : aV "table" = some (dn it.table) := by rw [<- hρ]; simp -implicitDefEqProofs +decide only [aj, ao, ne_eq]
            have e4 : aV "other" = some (dn o) := by rw [<- hρ]; simp -implicitDefEqProofs +decide only [ao, ne_eq, eo]
            (refine gv h fun Mu NS an y₂ NL NP => ?_; clear h)
            simp -implicitDefEqProofs +decide only [if_true, ai, od, Option.bind_some, List.length_cons, List.length_nil, Nat.reduceAdd, Nat.reduceLeDiff, an.done, e4, eO]
            refine Ok.for (α := Nat × Nat) (enc := pD) (fun q ρ => oY its k known ((a.flatMap (wo known its k) ++ c.flatMap (wn known k o)) ++ q.map (m5 known it)) ρ /\ ρ "other" = some (dn o) /\ ρ "number" = some (dn it.num) /\ ρ "letters" = some (.tup [dn it.l0, dn it.l1]) /\ ρ "table" = some (dn it.table)) [(k, o), (o, k)] rfl (jJ (eR Mu NS an y₂ NL (by simpa using NP)) e4 e1 e2 e3) ?_ ?_
            . rintro q p q' ρ bO ⟨h, f4, f1, f2, f3⟩
              have hp : p.1 < known.length /\ p.2 < known.length := by
               have : p ∈ [(k, o), (o, k)] := by rw [bO]; simp
               rcases List.mem_cons.mp this with rfl | this
               . exact ⟨h1, ho⟩
               . rcases List.mem_cons.mp this with rfl | this
                 . exact ⟨ho, h1⟩
                 . cases this
              refine (bC _ rfl ?_)
              (refine gv h fun kn rs z w pr rq => ?_; clear h)
              have g0 := kz pr (mv hp.1)
              have g1 := kz pr (mv hp.2)
              have hit := eC it hi
              have a0 : Kn known p.1 ≤ 15 := w.le _ (List.mem_of_getElem? g0)
              have a1 : Kn known p.2 ≤ 15 := w.le _ (List.mem_of_getElem? g1)
              have c0 := Nat.lt_trans hp.1 (Nat.lt_of_le_of_lt y.lt (by decide : 16 < 2 ^ 62))
              have c1 := Nat.lt_trans hp.2 (Nat.lt_of_le_of_lt y.lt (by decide : 16 < 2 ^ 62))
              have z := z.set (x := "pair") (d := pD p) (by decide) (by decide) (by decide) (by decide)
              have em := vm it.table _ _ a0 a1
              refine Ok.seqF (.eq (ρ := upd (upd ρ "pair" (pD p)) "made" (dn (m5 known it p))) ?_ ⟨rfl, ?_⟩)
              . simp -implicitDefEqProofs +decide only [aj, ao, ne_eq, ag, f3, z.known]
                have zk := z.known
                simp -implicitDefEqProofs +decide only [ao, ne_eq] at zk
                simp -implicitDefEqProofs +decide only [ag, ai, Option.bind_some, List.getElem?_cons_zero, List.getElem?_cons_succ, pD, g4 (by decide : 0 < 2 ^ 62), g4 (by decide : 1 < 2 ^ 62), ee c0, ee c1, jQ g0, jQ g1, em]
                rfl
              have z := z.set (x := "made") (d := dn (m5 known it p)) (by decide) (by decide) (by decide) (by decide)
              generalize hρ : upd (upd ρ "pair" (pD p)) "made" (dn (m5 known it p)) = ρ₁ at z ⊢
              have k1 : ρ₁ "number" = some (dn it.num) := by rw [<- hρ]; simp -implicitDefEqProofs +decide only [ao, ne_eq, f1]
              have k2 : ρ₁ "letters" = some (.tup [dn it.l0, dn it.l1]) := by rw [<- hρ]; simp -implicitDefEqProofs +decide only [ao, ne_eq, f2]
              have k3 : ρ₁ "table" = some (dn it.table) := by rw [<- hρ]; simp -implicitDefEqProofs +decide only [ao, ne_eq, f3]
              have k4 : ρ₁ "other" = some (dn o) := by rw [<- hρ]; simp -implicitDefEqProofs +decide only [ao, ne_eq, f4]
              have k5 : ρ₁ "pair" = some (pD p) := by rw [<- hρ]; simp -implicitDefEqProofs +decide only [aj, ao, ne_eq]
              have k6 : ρ₁ "made" = some (dn (m5 known it p)) := by rw [<- hρ]; simp -implicitDefEqProofs +decide only [aj]
              refine Ok.seqF ?_
              simp -implicitDefEqProofs +decide only [ag, cB, Option.bind_some, k6, z.known, C1, jE]
              have hpl : ∀ l, gY l p.1 p.2 < known.length := fun l => by unfold gY; split; exact hp.1; exact hp.2
              have hpr : ∀ l, ∃ r, rs[gY l p.1 p.2]? = some r := fun l => by
               have : gY l p.1 p.2 < rs.length := by rw [w.len]; exact Nat.lt_of_lt_of_le (hpl l) pr.length_le
               exact ⟨_, List.getElem?_eq_getElem this⟩
              by_cases hm : m5 known it p ∈ kn
              . rw [if_neg (by simpa using hm)]
                refine .eq rfl ⟨rfl, .eq rfl ⟨rfl, (eR kn rs z w pr (fun m hx => ?_)), k4, k1, k2, k3⟩⟩
                rw [List.map_append, <- List.append_assoc] at hx
                rcases List.mem_append.mp hx with hx | hx
                . exact rq m hx
                . rw [List.map_singleton, List.mem_singleton] at hx
                  rw [hx]; exact hm
              . rw [if_pos (by simpa using hm)]
                refine Ex (hpr it.l0) fun ra fa => ?_
                refine Ex (hpr it.l1) fun rb fb => ?_
                have w' := w.add hi hit g0 g1 fa fb hm
                have la := (w.sent _ _ _ fa (kz pr (mv (hpl it.l0)))).2
                have lb := (w.sent _ _ _ fb (kz pr (mv (hpl it.l1)))).2
                have p16 : ∀ l, 2 ^ (gY l p.1 p.2 + 1) ≤ 2 ^ 16 := fun l => Nat.pow_le_pow_right (by decide) (by have := hpl l; have := y.lt; lia)
                have la' := Nat.lt_of_lt_of_le la (p16 _)
                have lb' := Nat.lt_of_lt_of_le lb (p16 _)
                have d0 : gY it.l0 p.1 p.2 < 2 ^ 62 := Nat.lt_trans (hpl _) (Nat.lt_of_le_of_lt y.lt (by decide))
                have d1 : gY it.l1 p.1 p.2 < 2 ^ 62 := Nat.lt_trans (hpl _) (Nat.lt_of_le_of_lt y.lt (by decide))
                have lk : (kn.map dn).length < 10000 := by rw [List.length_map]; exact Nat.lt_of_le_of_lt w.lt (by decide)
                have lr : (rs.map fun r => D.list (r.map dn)).length < 10000 := by rw [List.length_map, w.len]; exact Nat.lt_of_le_of_lt w.lt (by decide)
                have s1 : eW (.list [dn it.num]) (.list (ra.map dn)) = some (.list ((it.num :: ra).map dn)) := by
                 (delta eW; dsimp only)
                 rw [if_pos (by simp only [List.length_map, List.length_cons, List.length_nil]; lia)]
                 rfl
                have s2 : vV (.list (dn it.num :: ra.map dn)) (.list (rb.map dn)) = some (.list (dn it.num :: ra.map dn ++ rb.map dn)) := by
                 (delta vV; dsimp only)
                 rw [if_pos ⟨by simp only [List.length_map, List.length_cons]; lia, pu (it.num :: ra), pu _⟩]
                have i0 := g4 (xs := [dn p.1, dn p.2]) (i := it.l0) (by have := hit.l0; with_reducible exact Om.lS (OfNat.ofNat _) ‹_› rfl)
                have i1 := g4 (xs := [dn p.1, dn p.2]) (i := it.l1) (by have := hit.l1; with_reducible exact Om.lS (OfNat.ofNat _) ‹_› rfl)
                rw [tU hit.l0] at i0
                rw [tU hit.l1] at i1
                have pk : ∀ l, gY l (dn p.1) (dn p.2) = dn (gY l p.1 p.2) := fun l => by unfold gY; split <;> rfl
                rw [pk] at i0 i1
                refine .eq (ρ := upd (upd ρ₁ "known" (.list ((kn ++ [m5 known it p]).map dn))) "rows" (m8 (rs ++ [it.num :: ra ++ rb]))) ?_ ⟨rfl, .eq rfl ⟨rfl, (eR _ _ ⟨?_, aj, ?_, ?_⟩ w' (pr.trans (List.prefix_append _ _)) (fun m hx => ?_)), ?_, ?_, ?_, ?_⟩⟩
                . simp -implicitDefEqProofs +decide only [ao, ne_eq, if_true, cN, lk]
                  simp -implicitDefEqProofs +decide only [if_true, ag, ai, uG, Option.bind_some, cN, List.length_cons, List.length_nil, Nat.reduceAdd, Nat.reduceLeDiff, List.getElem?_cons_zero, List.getElem?_cons_succ, k1, k2, k5, z.rows, m8, pD, g4 (by decide : 0 < 2 ^ 62), g4 (by decide : 1 < 2 ^ 62), i0, i1, ee d0, ee d1, u8 fa, u8 fb, s1, s2, lr, List.map_append, List.map_cons, List.map_nil]
                . simp -implicitDefEqProofs +decide only [aj, ao, ne_eq]; rfl
                . simp -implicitDefEqProofs +decide only [ao, ne_eq, z.done]
                . simp -implicitDefEqProofs +decide only [ao, ne_eq, z.items]
                . rw [List.map_append, <- List.append_assoc] at hx
                  rcases List.mem_append.mp hx with hx | hx
                  . exact List.mem_append_left _ (rq m hx)
                  . rw [List.map_singleton, List.mem_singleton] at hx
                    rw [hx]; exact List.mem_append_right _ (List.mem_singleton.mpr rfl)
                . simp -implicitDefEqProofs +decide only [ao, ne_eq, k4]
                . simp -implicitDefEqProofs +decide only [ao, ne_eq, k1]
                . simp -implicitDefEqProofs +decide only [ao, ne_eq, k2]
                . simp -implicitDefEqProofs +decide only [ao, ne_eq, k3]
            . rintro ρ ⟨h, f4, _⟩
              refine .eq rfl ⟨rfl, .eq rfl (h9 rfl ?_ f4)⟩
              (refine gv h fun kn rs z w pr rq => ?_; clear h)
              exact (eR kn rs z w pr (fun m hm => rq m (by simpa [List.flatMap_append, wn] using hm)))
          . rintro ρ ⟨h, _⟩
            refine .eq rfl ⟨rfl, .eq rfl ⟨rfl, ?_⟩⟩
            (refine gv h fun kn rs z w pr rq => ?_; clear h)
            exact (eR kn rs z w pr (fun m hm => rq m (by simpa [List.flatMap_append, wo] using hm)))
        . intro ρ h
          (refine gv h fun kn rs z w pr rq => ?_; clear h)
          refine .eq rfl ⟨rfl, ?_⟩
          refine Ok.eq (ρ := upd ρ "done" (dn (k + 1))) ?_ (ql rfl kn rs ⟨(ao (by decide)).trans z.known, (ao (by decide)).trans z.rows, aj, (ao (by decide)).trans z.items⟩ w ?_ ?_)
          . simp -implicitDefEqProofs +decide only [ag, Option.bind_some, cN, z.done, fZ]
          . have := pr.length_le; exact Nat.lt_of_lt_of_le h1 this
          . intro it hi i j a b li lj ea eb
            have li' : i < known.length := by exact Nat.lt_of_lt_of_le li h1
            have lj' : j < known.length := by exact Nat.lt_of_lt_of_le lj h1
            have ea' := mv li'
            have eb' := mv lj'
            rw [kz pr ea'] at ea
            rw [kz pr eb'] at eb
            (replace ea := siE ea; subst ea); (replace eb := siE eb; subst eb)
            have put : ∀ o, o < k + 1 -> ∀ q ∈ [(k, o), (o, k)], m5 known it q ∈ kn := fun o ho q hq =>
             rq _ (List.mem_flatMap.mpr (bC o (List.mem_range.mpr ho) (List.mem_flatMap.mpr (bC it hi (List.mem_map.mpr (bC q hq rfl))))))
            by_cases c1 : i = k
            . subst c1; exact put j lj (i, j) (by simp)
            . by_cases c2 : j = k
              . subst c2; exact put i li (i, j) (by simp)
              . (refine Ex pr fun r q0 => ?_; clear pr; subst q0)
                exact List.mem_append_left _ (cl it hi i j _ _ (by with_reducible exact Om.ne ‹_› ‹_›) (by with_reducible exact Om.ne ‹_› ‹_›) ea' eb')
      . left
        refine ⟨by simp [h1, h2], .eq rfl ⟨rfl, ?_⟩⟩
        simp -implicitDefEqProofs +decide only [if_true, ai, od, Option.bind_some, ik, List.length_cons, List.length_nil, Nat.reduceAdd, Nat.reduceLeDiff, s.known, s.rows]
        refine .eq rfl (d8 known rows rfl y (fun it hi a ha b hb => full y.nodup y.le (by with_reducible exact Nat.le_of_not_lt ‹_›) (r9 (eC it hi).le (y.le _ ha) (y.le _ hb))))
    . left
      refine ⟨by simp [h1], .eq rfl ⟨rfl, ?_⟩⟩
      simp -implicitDefEqProofs +decide only [if_true, ai, od, Option.bind_some, ik, List.length_cons, List.length_nil, Nat.reduceAdd, Nat.reduceLeDiff, s.known, s.rows]
      refine .eq rfl (d8 known rows rfl y (fun it hi a ha b hb => ?_))
      refine Ex (List.mem_iff_getElem?.mp ha) fun i ea => ?_
      refine Ex (List.mem_iff_getElem?.mp hb) fun j eb => ?_
      have li := (List.getElem?_eq_some_iff.mp ea).1
      have lj := (List.getElem?_eq_some_iff.mp eb).1
      exact cl it hi i j a b (by lia) (by lia) ea eb
 (refine yD key fun f ρ e known rows q0 y c => ?_; clear key; subst q0)
 refine (d8 known rows ?_ y c)
 exact Ok.fn (ρ := upd (fun _ => none) "items" (.list (its.map It.d))) rfl (kA _ ρ e rfl)
theorem ev {α : Type} {enc : α -> D} {p : α -> Bool} {out : α -> List D} {t : Expr} {test : af -> Option Bool} {g : af -> Option (List D)} {aV : af} : ∀ (l : List α),
 (∀ x ∈ l, ∃ ρ, iM t (enc x) aV = some ρ /\ test ρ = some (p x) /\ (p x = true -> g ρ = some (out x))) -> ip t test g aV (l.map enc) = some ((l.filter p).flatMap out)
 | [], _ => rfl
 | x :: l, h => by
  refine wS (h x (.head _)) fun ρ am ar bO => ?_
  have ih := ev (out := out) l fun y hy => h y (.tail _ hy)
  rw [List.map_cons, ip, am, Option.bind_some, ar, Option.bind_some, ih, List.filter_cons]
  by_cases c : p x = true
  . rw [if_pos c, if_pos c, bO c, Option.bind_some]; rfl
  . rw [if_neg c, if_neg c, Option.bind_some]; rfl
theorem cW {α : Type} {enc : α -> D} {out : α -> D} {t : Expr} {g : af -> Option (List D)} (l : List α)
 (h : ∀ x ∈ l, ∃ ρ, iM t (enc x) aV = some ρ /\ test ρ = some true /\ g ρ = some [out x]) : ip t test g aV (l.map enc) = some (l.map out) := by
 rw [ev (p := fun _ => true) (out := fun x => [out x]) l fun x hx => let ⟨ρ, a, b, c⟩ := h x hx; ⟨ρ, a, b, fun _ => c⟩]
 congr 1
 induction l with
 | nil => rfl
 | cons a l ih => simpa using ih fun x hx => h x (.tail _ hx)
def Bt (k : Nat) : List Nat := match qK.find? (fun p => pC (some p.2) ((k + 7 : Nat) : Int)) with
 | some p => p.1
 | none => []
def mA : List (List Nat) := (List.range 48).map Bt
noncomputable def cf : List Nat := [832, 833, 8206, 8207, 917505] ++ (List.range 32).map (64976 + ·) ++ (List.range 7).map (65529 + ·) ++ (List.range 12).map (12272 + ·) ++ (List.range 5).map (8234 + ·) ++ (List.range 6).map (8298 + ·) ++ (List.range 96).map (917536 + ·) ++
 (List.range 16).flatMap fun k => [65536 * (k + 1) + 65534, 65536 * (k + 1) + 65535]
noncomputable def ez : List Nat := [173, 847, 6150, 6155, 6156, 6157, 8203, 8204, 8205, 8288, 65279] ++ (List.range 16).map (65024 + ·)
noncomputable def gh : List Int := [0, -32, 119711, 119763, 119815, 119919, 120075, 120127, 120179, 120231, 120283, 120335]
noncomputable def gj : List (List Nat × Nat) := [([104, 112], 13259), ([112, 104], 13271), ([104], 8459), ([104], 8460), ([104], 8461), ([112], 8473)]
def oz (p : List Nat × Nat) : D := .tup [.str p.1, dn p.2]
def I5 (c k : Nat) : Nat := ((c : Int) + gh.getD k 0).toNat
def kx : List Nat := (mA.flatten ++ [32]).eraseDups
def d7 : List (Nat × List Nat) := cf.map (fun c => (c, [63])) ++ ez.map (fun c => (c, [])) ++ (List.range 12).map (fun k => (I5 104 k, [104])) ++ (List.range 12).map (fun k => (I5 112 k, [112])) ++ gj.map (fun p => (p.2, p.1)) ++ kx.map fun c => (c, [c])
def lz (s : Nat) : List Nat := if s < 256 then Bt (s - 7) ++ [32] else [[104, 112, 63].getD (s - 256) 0]
def aY (row : List Nat) : List Nat := row.flatMap lz
def ju (s : Nat) : Prop := (7 ≤ s /\ s < 55) \/ (256 ≤ s /\ s < 259)
theorem iZ : (Str.ofString "").cps.toList = [] := by kernel_rfl
theorem DO : (Str.ofString " ").cps.toList = [32] := by kernel_rfl
theorem wy : (Str.ofString "hp").cps.toList = [104, 112] := by kernel_rfl
theorem B5 : (Str.ofString "hp?").cps.toList = [104, 112, 63] := by kernel_rfl
theorem ry : (Str.ofString "?").cps.toList = [63] := by kernel_rfl
theorem oA : ∀ ls : List (List Nat), pW (ls.map .str) = some ls
 | [] => rfl
 | l :: ls => by rw [List.map_cons, pW, oA ls]; rfl
theorem o9 : ∀ ls : List (List Nat), iU [] ls = ls.flatten
 | [] => rfl
 | [x] => by simp [iU]
 | x :: y :: r => by rw [iU, o9 (y :: r)]; simp
theorem ly {α : Type} (f : α -> Nat) (k : Nat) : ∀ l : List α, (∀ x ∈ l, f x ≤ k) -> (l.map f).sum ≤ k * l.length
 | [], _ => by simp
 | x :: l, h => by
  have := ly f k l fun y hy => h y (.tail _ hy)
  have := h x (.head _)
  simp only [List.map_cons, List.sum_cons, List.length_cons, Nat.mul_succ]
  lia
theorem ww : ((List.range 48).all fun k => Nat.ble (Bt k).length 3 && Nat.ble 1 (Bt k).length) = true := by kernel_rfl
theorem oB {s : Nat} (h : ju s) : (lz s).length ≤ 4 := by
 unfold lz
 split
 . rename_i c
   have : s - 7 < 48 := Om.s48 h c
   have := cx ww this
   simp only [Bool.and_eq_true] at this
   have := Nat.le_of_ble_eq_true this.1
   simp; with_reducible assumption
 . simp
theorem xM (h : k < 48) : (mA.map D.str)[k]? = some (.str (Bt k)) := by
 unfold mA
 rw [List.getElem?_map, List.getElem?_map, List.getElem?_range h]; rfl
theorem ky (h : ∀ s ∈ row, ju s) : (aY row).length ≤ 4 * row.length := by
 unfold aY
 rw [List.flatMap_def, List.length_flatten, List.map_map]
 exact ly _ 4 row fun x hx => oB (h x hx)
theorem Ok.seq2 {k1 k2 : af -> Option (Fl × af)} (P : af -> Prop) (h : Ok r fun f ρ => f = .next /\ Ok (k1 ρ) fun f ρ' => f = .next /\ P ρ') (hk : ∀ ρ', P ρ' -> Ok (k2 ρ') Q) :
 Ok (Mine.seqF r fun ρ => Mine.seqF (k1 ρ) k2) Q := by
 (refine k8 h fun f ρ q0 q1 f' ρ' e q2 p => ?_; clear h; subst q0 q1 q2)
 rw [cN, e, cN]
 exact hk ρ' p
theorem w0 (a b : List Nat) : uF (.str a) (.str b) = decide (a = b) := by
 show PyData.eqv (dw (.str a)) (dw (.str b)) = _
 simp only [dw, PyData.eqv]
 rw [Bool.eq_iff_iff, beq_iff_eq, decide_eq_true_eq]
 constructor
 . intro h; have := congrArg (fun s => s.cps.toList) h; simpa using this
 . rintro rfl; rfl
theorem j0 (h : ∀ c ∈ l, c < 1114112) : PyData.strOk (S l) = true := by
 unfold PyData.strOk
 simpa using h
theorem Ay {a b : List Nat} (ha : ∀ c ∈ a, c < 1114112) (hb : ∀ c ∈ b, c < 1114112) : oN (.str a) (.str b) = some (.bool (decide (a = b))) := by
 unfold oN
 rw [if_pos ⟨(kq (j0 ha) 0).sh (by decide), (kq (j0 hb) 0).sh (by decide)⟩, w0]
theorem Gw : (kx.all fun c => Nat.blt c 128 && !(Nat.beq c 104) && !(Nat.beq c 112) && !(Nat.beq c 63)) = true := by kernel_rfl
theorem Ji (h : c ∈ kx) : c < 128 /\ c ≠ 104 /\ c ≠ 112 /\ c ≠ 63 := by
 have := List.all_eq_true.mp Gw c h
 simp only [Bool.and_eq_true, Bool.not_eq_true'] at this
 (refine Ea this fun q0 e => ?_; clear this; obtain ⟨⟨a, b⟩, d⟩ := q0)
 exact (oE (by have := a; simp [Nat.blt] at this; with_reducible exact Om.lL (OfNat.ofNat _) ‹_› rfl) (fun q => by subst q; simp at b) (fun q => by subst q; simp at d) (fun q => by subst q; simp at e))
theorem tV (h : ∀ s ∈ row, ju s) : ∀ c ∈ aY row, c ∈ kx \/ c = 104 \/ c = 112 \/ c = 63 := by
 intro c hc
 refine ax (List.mem_flatMap.mp hc) fun s hs hc => ?_
 have ho := h s hs
 unfold lz at hc
 split at hc
 . rcases List.mem_append.mp hc with hc | hc
   . left
     refine List.mem_eraseDups.mpr (List.mem_append_left _ <| List.mem_flatten.mpr (bC _ (List.mem_map.mpr (bC (s - 7) (List.mem_range.mpr ?_) rfl)) hc))
     exact Om.s48 ho (by assumption)
   . left; exact List.mem_eraseDups.mpr (List.mem_append_right _ hc)
 . right
   rw [List.mem_singleton] at hc
   have k : s - 256 < 3 := Om.s2 ho (by assumption)
   revert hc k
   generalize s - 256 = m
   intro hc k
   rcases lt3 k with rfl | rfl | rfl
   . left; exact hc
   . right; left; exact hc
   . right; right; exact hc
theorem ol (h : ∀ s ∈ row, ju s) : ∀ c ∈ aY row, c < 1114112 := fun c hc => by
 rcases tV h c hc with q | q | q | q
 . have := (Ji q).1; with_reducible exact Om.lS (OfNat.ofNat _) ‹_› rfl
 all_goals with_reducible exact Om.eT ‹_› rfl
def ja (plain : List Nat) (place c : Nat) : List (List Nat × Nat) := (if [104, 112].contains c then gj else []).filter fun p => decide ((plain.drop place).take p.1.length = p.1)
theorem pV : ∀ p ∈ gj, p.1.length ≤ 2 /\ 1 ≤ p.1.length /\ ∀ c ∈ p.1, c < 1114112 := by decide
theorem CH : ((List.range 12).all fun k => pC (eW (dn 104) (.int (gh.getD k 0))) (I5 104 k) && pC (eW (dn 112) (.int (gh.getD k 0))) (I5 112 k)) = true := by kernel_rfl
theorem fJ {α β : Type} (f : α -> β) (l : List α) : (l.flatMap fun x => [f x]) = l.map f := by
 induction l with
 | nil => rfl
 | cons a l ih => rw [List.flatMap_cons, ih]; rfl
theorem zG (plain : List Nat) (place c : Nat) : ja plain place c = (if (c == 104 || c == 112) = true then gj else []).filter fun p => decide ((plain.drop place).take p.1.length = p.1) := by
 unfold ja
 simp only [List.contains_cons, List.contains_nil, Bool.or_false]
theorem th (plain : List Nat) (place c : Nat) : (ja plain place c).length ≤ 6 := by
 unfold ja
 refine Nat.le_trans (List.length_filter_le _ _) ?_
 split <;> decide
theorem zH {plain : List Nat} {place : Nat} {p : List Nat × Nat} (h : p ∈ ja plain place c) : p ∈ gj /\ (plain.drop place).take p.1.length = p.1 := by
 unfold ja at h
 have := List.mem_filter.mp h
 refine ⟨?_, by simpa using this.2⟩
 have h1 := this.1
 split at h1
 . exact h1
 . cases h1
theorem m6 (h : cf[k]? = some c) : (c, [63]) ∈ d7 := by
 unfold d7
 simp only [List.mem_append]
 exact .inl (.inl (.inl (.inl (.inl (List.mem_map.mpr (bC c (List.mem_of_getElem? h) rfl))))))
theorem re (h : c ∈ ez) : (c, []) ∈ d7 := by
 unfold d7
 simp only [List.mem_append]
 exact .inl (.inl (.inl (.inl (.inr (List.mem_map.mpr (bC c h rfl))))))
theorem tR (h : c = 104 \/ c = 112) (hk : k < 12) : (I5 c k, [c]) ∈ d7 := by
 unfold d7
 simp only [List.mem_append]
 rcases h with rfl | rfl
 . exact .inl (.inl (.inl (.inr (List.mem_map.mpr (bC k (List.mem_range.mpr hk) rfl)))))
 . exact .inl (.inl (.inr (List.mem_map.mpr (bC k (List.mem_range.mpr hk) rfl))))
theorem tS {p : List Nat × Nat} (h : p ∈ gj) : (p.2, p.1) ∈ d7 := by
 unfold d7
 simp only [List.mem_append]
 exact .inl (.inr (List.mem_map.mpr (bC p h rfl)))
theorem AJ (h : c ∈ kx) : (c, [c]) ∈ d7 := by
 unfold d7
 simp only [List.mem_append]
 exact .inr (List.mem_map.mpr (bC c h rfl))
theorem I6 (h : c = 104 \/ c = 112) (hk : k < 12) : eW (dn c) (.int (gh.getD k 0)) = some (dn (I5 c k)) := by
 have := cx CH hk
 simp only [Bool.and_eq_true] at this
 rcases h with rfl | rfl
 . exact o6 this.1
 . exact o6 this.2
theorem AZ (hk : k < 12) : (gh.map D.int)[k]? = some (.int (gh.getD k 0)) := by
 rw [List.getElem?_map, List.getD_eq_getElem?_getD, List.getElem?_eq_getElem (show k < gh.length from hk)]
 rfl
structure qf (row : List Nat) (first step place : Nat) (fC : List (Nat × List Nat)) (ρ : af) : Prop where
 first : ρ "first" = some (dn first)
 step : ρ "step" = some (dn step)
 plain : ρ "plain" = some (.str (aY row))
 shifts : ρ "shifts" = some (.tup (gh.map .int))
 barred : ρ "barred" = some (.list (cf.map dn))
 stock : ρ "stock" = some (.list (gj.map oz))
 unseen : ρ "unseen" = some (.list (ez.map dn))
 codes : ρ "codes" = some (.list (fC.map fun p => dn p.1))
 place : ρ "place" = some (dn place)
def Bv (row : List Nat) (first step k : Nat) (ρ : af) : Prop := ∃ place fC, k ≤ place /\ place ≤ (aY row).length /\ (∀ p ∈ fC, p ∈ d7) /\ (fC.map (·.2)).flatten = (aY row).take place /\ fC.length ≤ 2 * place /\ qf row first step place fC ρ
theorem zd (row : List Nat) (first step : Nat) (h : ∀ s ∈ row, ju s) (hl : row.length ≤ 100) (hs : step < 2 ^ 63) :
 ∃ fC : List (Nat × List Nat), (∀ p ∈ fC, p ∈ d7) /\ iB [.list (row.map dn), dn first, dn step] = some (.tup [.list (fC.map fun p => dn p.1), .str (aY row)]) /\ (fC.map (·.2)).flatten = aY row /\ fC.length ≤ 2 * (aY row).length := by
 have key : Ok ((d_law_codes bM).1 (upd (upd (upd (fun _ => none) "row" (.list (row.map dn))) "first" (dn first)) "step" (dn step))) fun f _ => ∃ fC : List (Nat × List Nat), (∀ p ∈ fC, p ∈ d7) /\ f = .ret (.tup [.list (fC.map fun p => dn p.1), .str (aY row)]) /\ (fC.map (·.2)).flatten = aY row /\ fC.length ≤ 2 * (aY row).length := by
  generalize hρ : upd (upd (upd (fun _ => none) "row" (.list (row.map dn))) "first" (dn first)) "step" (dn step) = aV
  have r0 : aV "row" = some (.list (row.map dn)) := by rw [<- hρ]; simp -implicitDefEqProofs +decide only [aj, ao, ne_eq]
  have r1 : aV "first" = some (dn first) := by rw [<- hρ]; simp -implicitDefEqProofs +decide only [aj, ao, ne_eq]
  have r2 : aV "step" = some (dn step) := by rw [<- hρ]; simp -implicitDefEqProofs only [aj]
  clear hρ
  unfold d_law_codes
  dsimp only
  refine Ok.seqT (.eq (ρ := upd aV "signs" (.list (mA.map .str))) (by kernel_rfl) ⟨rfl, ?_⟩)
  have hj : mI [] (.list (row.map fun s => .str (lz s))) = some (.str (aY row)) := by
   have : (row.map fun s => D.str (lz s)) = (row.map lz).map .str := by rw [List.map_map]; rfl
   rw [this, mI, oA, Option.bind_some, if_pos, o9]
   . rfl
   . rw [List.map_map]
     refine Nat.le_trans (ly _ 4 row fun x hx => ?_) (by with_reducible exact Om.mN (OfNat.ofNat _) ‹_› rfl)
     have := oB (h x hx)
     simpa using this
  refine Ok.seqT (.eq (ρ := upd (upd aV "signs" (.list (mA.map .str))) "plain" (.str (aY row))) ?_ ⟨rfl, ?_⟩)
  . simp -implicitDefEqProofs +decide only [ao, ne_eq, bb, eD, if_false, Option.bind_some, fB, r0, wW, eO]
    rw [cW (enc := dn) (out := fun s => D.str (lz s)) row]
    . simp -implicitDefEqProofs only [ag, Option.bind_some, Option.map_some, yo, List.length_map, if_pos (show row.length ≤ 16777216 by with_reducible exact Om.lN (OfNat.ofNat _) ‹_› rfl), iZ, hj]
    . intro s hs
      refine (cF _ rfl rfl ?_)
      have ho := h s hs
      have lt := oB ho
      simp -implicitDefEqProofs +decide only [eu, aj, ao, ne_eq, ag, cB, Option.bind_some, vo, jE]
      unfold lz at lt ⊢
      by_cases c : s < 256
      . have k : s - 7 < 48 := Om.s48 ho c
        rw [if_pos c] at lt ⊢
        rw [List.length_append] at lt
        have k7 : 7 ≤ s := Om.s7 ho
        simp -implicitDefEqProofs +decide only [if_true, ag, List.length_cons, List.length_nil, Nat.reduceAdd, Nat.reduceLeDiff, decide_eq_true c, kQ k7, ee (by with_reducible exact Om.lS (OfNat.ofNat _) ‹_› rfl : s - 7 < 2 ^ 62), xM k, DO, GA, GC, GB]
        rw [if_pos (by simp at lt ⊢; with_reducible exact Om.lN (OfNat.ofNat _) ‹_› rfl)]
        rfl
      . have k : s - 256 < 3 := Om.s2 ho c
        have k7 : 256 ≤ s := Nat.le_of_not_lt c
        have e3 : [104, 112, 63][s - 256]? = some ([104, 112, 63].getD (s - 256) 0) := by
         rw [List.getD_eq_getElem?_getD, List.getElem?_eq_getElem (show s - 256 < [104, 112, 63].length from k)]; rfl
        rw [if_neg c]
        simp -implicitDefEqProofs only [if_false, ag, Option.map_some, Bool.false_eq_true, decide_eq_false c, kQ k7, AA (by with_reducible exact Om.lS (OfNat.ofNat _) ‹_› rfl : s - 256 < 2 ^ 62), B5, e3]
  generalize hρ : upd (upd aV "signs" (.list (mA.map .str))) "plain" (.str (aY row)) = ρ₁
  have r1' : ρ₁ "first" = some (dn first) := by rw [<- hρ]; simp -implicitDefEqProofs +decide only [ao, ne_eq, r1]
  have r2' : ρ₁ "step" = some (dn step) := by rw [<- hρ]; simp -implicitDefEqProofs +decide only [ao, ne_eq, r2]
  have r3' : ρ₁ "plain" = some (.str (aY row)) := by rw [<- hρ]; simp -implicitDefEqProofs only [aj]
  clear hρ r0 r1 r2 hj
  refine Ok.seqT (.eq (ρ := upd ρ₁ "shifts" (.tup (gh.map .int))) (by kernel_rfl) ⟨rfl, ?_⟩)
  refine Ok.seqT (.eq (ρ := upd (upd ρ₁ "shifts" (.tup (gh.map .int))) "barred" (.list (cf.map dn))) (by kernel_rfl) ⟨rfl, ?_⟩)
  refine Ok.seqT (.eq (ρ := upd (upd (upd ρ₁ "shifts" (.tup (gh.map .int))) "barred" (.list (cf.map dn))) "stock" (.list (gj.map oz))) (by kernel_rfl) ⟨rfl, ?_⟩)
  refine Ok.seqT (.eq (ρ := upd (upd (upd (upd ρ₁ "shifts" (.tup (gh.map .int))) "barred" (.list (cf.map dn))) "stock" (.list (gj.map oz))) "unseen" (.list (ez.map dn))) (by kernel_rfl) ⟨rfl, ?_⟩)
  refine Ok.seqT (.eq (ρ := upd (upd (upd (upd (upd (upd ρ₁ "shifts" (.tup (gh.map .int))) "barred" (.list (cf.map dn))) "stock" (.list (gj.map oz))) "unseen" (.list (ez.map dn))) "codes" (.list [])) "place" (dn 0)) (by kernel_rfl) ⟨rfl, ?_⟩)
  refine Ok.seqT (Ok.while (fun k ρ => Bv row first step k ρ) (aY row).length ?_ ?_ ?_)
  . refine ⟨0, [], Nat.le_refl _, Nat.zero_le _, by simp, by simp, by simp, ?_, ?_, ?_, ?_, ?_, ?_, ?_, ?_, ?_⟩
    all_goals simp -implicitDefEqProofs +decide only [aj, ao, ne_eq, r1', r2', r3', List.map_nil]
  . have := ky h; with_reducible exact Om.cL (OfNat.ofNat _) ‹_› ‹_› rfl
  . rintro k ρ ⟨place, fC, hk, hp, Ae, xm, df, s⟩
    have hL := ky h
    have hc := tV h
    have hlt := ol h
    generalize hP : aY row = plain at *
    have s3 := s.plain
    rw [hP] at s3
    have el : il [.str plain] = some (dn plain.length) := by
     (delta il; simp only [if_pos (show plain.length < 16777216 by with_reducible exact Om.cL (OfNat.ofNat _) ‹_› ‹_› rfl)]); rfl
    simp -implicitDefEqProofs +decide only [bb, eD, if_true, if_false, ag, ai, cB, uG, Option.bind_some, fB, s.place, s3, el, vo, jE]
    by_cases h1 : place < plain.length
    . right
      refine (h9 (by with_reducible exact Nat.lt_of_le_of_lt ‹_› ‹_›) (by rw [decide_eq_true h1]) ?_)
      have eg : plain[place]? = some plain[place] := List.getElem?_eq_getElem h1
      have hm : plain[place] ∈ plain := List.getElem_mem h1
      have hd : (plain.drop place).take 1 = [plain[place]] := by
       rw [List.drop_eq_getElem_cons h1]; rfl
      generalize hcc : plain[place] = c at *
      have c0 := hlt c hm
      refine Ok.seqF (.eq (ρ := upd (upd ρ "sign" (.str [c])) "draw" (dn (first + place * step))) ?_ ⟨rfl, ?_⟩)
      . simp -implicitDefEqProofs +decide only [if_true, ag, ai, od, Option.bind_some, Option.map_some, List.length_cons, List.length_nil, Nat.reduceAdd, Nat.reduceLeDiff, s.first, s.step, oe hs, fZ, AA (show place < 2 ^ 62 by with_reducible exact Om.cT (OfNat.ofNat _) ‹_› ‹_› ‹_› rfl), eg, uD, List.reverse_cons, List.reverse_nil, List.nil_append, List.cons_append, dI]
      generalize first + place * step = draw
      have hin : sW (.str [c]) (.str [104, 112]) = some (.bool ([104, 112].contains c)) := rfl
      generalize hρ : upd (upd ρ "sign" (.str [c])) "draw" (dn draw) = ρ₁
      have t : qf row first step place fC ρ₁ := by
       rw [<- hρ]
       exact ⟨s.first, s.step, s.plain, s.shifts, s.barred, s.stock, s.unseen, s.codes, s.place⟩
      have u1 : ρ₁ "sign" = some (.str [c]) := by rw [<- hρ]; rfl
      have u2 : ρ₁ "draw" = some (dn draw) := by rw [<- hρ]; rfl
      clear hρ s s3
      have s3 := t.plain
      rw [hP] at s3
      refine Ok.seqF (.eq (ρ := upd ρ₁ "fits" (.list ((ja plain place c).map oz))) ?_ ⟨rfl, ?_⟩)
      . have hds : (((if [104, 112].contains c = true then some (.list (gj.map oz)) else if 0 ≤ 10000 then some (D.list []) else none).bind eO) : Option (List D)) = some ((if [104, 112].contains c then gj else []).map oz) := by
         split <;> rfl
        simp -implicitDefEqProofs +decide only [if_true, ag, cB, Option.bind_some, List.contains_nil, List.contains_cons, Bool.or_false, u1, wy, hin, jE, t.stock] at hds ⊢
        rw [hds, Option.bind_some, ev (enc := oz) (p := fun p => decide ((plain.drop place).take p.1.length = p.1)) (out := fun p => [oz p])]
        . rw [fJ]
          rw [<- zG]
          show (yo ((ja plain place c).map oz)).bind _ = _
          rw [yo, if_pos (by rw [List.length_map]; have := th plain place c; with_reducible exact Om.lN (OfNat.ofNat _) ‹_› rfl)]
          rfl
        . intro p hp
          refine (cF _ rfl ?_ (fun _ => rfl))
          have hps : p ∈ gj := by split at hp; exact hp; cases hp
          refine n4 (pV p hps) fun q1 q2 q3 => ?_
          have el2 : il [.str p.1] = some (dn p.1.length) := by
           (delta il; simp only [if_pos (show p.1.length < 16777216 by with_reducible exact Om.lL (OfNat.ofNat _) ‹_› rfl)]); rfl
          have es : cg (some ((place : Nat) : Int)) (some ((place + p.1.length : Nat) : Int)) (.str plain) = some (.str ((plain.drop place).take p.1.length)) := by
           (delta cg; simp only [CI, if_pos (show plain.length ≤ 16777216 by with_reducible exact Om.cM (OfNat.ofNat _) ‹_› ‹_› rfl), Nat.add_sub_cancel_left])
          simp -implicitDefEqProofs +decide only [eu, aj, ao, ne_eq, ag, ai, cB, Option.bind_some, Option.map_some, List.getElem?_cons_zero, s3, t.place, iW, oz, g4 (by decide : 0 < 2 ^ 62), el2, fZ, es]
          rw [Ay (fun c hc => hlt c (List.mem_of_mem_drop (List.mem_of_mem_take hc))) q3]
          rfl
      have fl := th plain place c
      generalize hF : ja plain place c = fits at *
      have lf : il [.list (fits.map oz)] = some (dn fits.length) := by
       (delta il; simp only [List.length_map, if_pos (show fits.length < 16777216 by with_reducible exact Om.lL (OfNat.ofNat _) ‹_› rfl)]); rfl
      have hq : oN (.str [c]) (.str [63]) = some (.bool (decide ([c] = [63]))) := Ay (by simpa using c0) (by decide)
      refine Ok.seq2 (fun ρ => ∃ part code, qf row first step place fC ρ /\ ρ "draw" = some (dn draw) /\ ρ "part" = some (.str part) /\ ρ "code" = some (dn code) /\ (code, part) ∈ d7 /\ part ≠ [] /\ (plain.drop place).take part.length = part) ?_ ?_
      . by_cases c63 : c = 63
        . subst c63
          have hF' : fits = [] := by
           rw [<- hF]; rfl
          have lb : il [.list (cf.map dn)] = some (dn 195) := by
           (delta il; simp only [List.length_map, if_pos (show cf.length < 16777216 by decide)]); rfl
          have hpk : draw / 16 % 195 < cf.length := by
           have : cf.length = 195 := rfl
           rw [this]; exact Nat.mod_lt _ (by decide)
          have eb := List.getElem?_eq_getElem hpk
          refine .eq (ρ := upd (upd ρ₁ "fits" (.list (fits.map oz))) "pick" (dn (draw / 16 % 195))) ?_ ⟨rfl, .eq (ρ := upd (upd (upd (upd ρ₁ "fits" (.list (fits.map oz))) "pick" (dn (draw / 16 % 195))) "part" (.str [63])) "code" (dn cf[draw / 16 % 195])) ?_ (hZ rfl ([63]) _ ⟨t.first, t.step, t.plain, t.shifts, t.barred, t.stock, t.unseen, t.codes, t.place⟩ u2 rfl rfl (m6 eb) (by decide) hd)⟩
          . simp -implicitDefEqProofs +decide only [aj, ao, ne_eq, if_true, ag, ai, cB, Option.bind_some, decide_true, u1, u2, ry, hq, jE, kP _ 16 (by decide), t.barred, lb, f0 _ 195 (by decide)]
          . simp -implicitDefEqProofs +decide only [aj, ao, ne_eq, if_true, ag, ai, cB, od, Option.bind_some, decide_true, List.length_cons, List.length_nil, Nat.reduceAdd, Nat.reduceLeDiff, u1, ry, hq, jE, t.barred, ee (show draw / 16 % 195 < 2 ^ 62 by with_reducible exact Om.md rfl rfl), jQ eb, uD, dI]
        . by_cases chp : c = 104 \/ c = 112
          . have hpk : 0 < 12 + 3 * fits.length := by simp +arith only
            have hm3 : 3 * fits.length < 2 ^ 63 := by lia
            have hin' : (c == 104 || c == 112) = true := by simpa using chp
            have hq' : decide ([c] = [63]) = false := decide_eq_false (by simpa using c63)
            by_cases hlt12 : draw / 16 % (12 + 3 * fits.length) < 12
            . refine .eq (ρ := upd (upd ρ₁ "fits" (.list (fits.map oz))) "pick" (dn (draw / 16 % (12 + 3 * fits.length)))) ?_ ⟨rfl, .eq (ρ := upd (upd (upd (upd ρ₁ "fits" (.list (fits.map oz))) "pick" (dn (draw / 16 % (12 + 3 * fits.length)))) "part" (.str [c])) "code" (dn (I5 c (draw / 16 % (12 + 3 * fits.length))))) ?_ (hZ rfl ([c]) _ ⟨t.first, t.step, t.plain, t.shifts, t.barred, t.stock, t.unseen, t.codes, t.place⟩ u2 rfl rfl (tR chp hlt12) (by simp) hd)⟩
              . simp -implicitDefEqProofs +decide only [aj, ao, ne_eq, if_true, if_false, ag, ai, cB, Option.bind_some, List.contains_nil, List.contains_cons, Bool.or_false, u1, u2, ry, hq, hq', wy, hin, hin', jE, kP _ 16 (by decide), lf, oe (show fits.length < 2 ^ 63 by with_reducible exact Om.lL (OfNat.ofNat _) ‹_› rfl), fZ, f0 _ (12 + 3 * fits.length) (Nat.ne_zero_of_lt hpk)]
              . simp -implicitDefEqProofs +decide only [aj, ao, ne_eq, if_true, if_false, ag, ai, cB, od, Option.bind_some, List.length_cons, List.length_nil, Nat.reduceAdd, Nat.reduceLeDiff, u1, ry, hq, hq', jE, vo, decide_eq_true hlt12, t.shifts, g4 (show draw / 16 % (12 + 3 * fits.length) < 2 ^ 62 by with_reducible exact Om.lS (OfNat.ofNat _) ‹_› rfl), AZ hlt12, zw, Dk, I6 chp hlt12, uD, dI]
            . have hml := Nat.mod_lt (draw / 16) hpk
              have hmm : (draw / 16 % (12 + 3 * fits.length) - 12) % fits.length < fits.length := Nat.mod_lt _ (by lia)
              have eb := List.getElem?_eq_getElem hmm
              have fm := zH (plain := plain) (place := place) (c := c) (by rw [hF]; exact List.getElem_mem hmm)
              have ebD : (fits.map oz)[(draw / 16 % (12 + 3 * fits.length) - 12) % fits.length]? = some (oz fits[(draw / 16 % (12 + 3 * fits.length) - 12) % fits.length]) := by rw [List.getElem?_map, eb]; rfl
              generalize fits[(draw / 16 % (12 + 3 * fits.length) - 12) % fits.length] = f at *
              refine .eq (ρ := upd (upd ρ₁ "fits" (.list (fits.map oz))) "pick" (dn (draw / 16 % (12 + 3 * fits.length)))) ?_ ⟨rfl, .eq (ρ := upd (upd (upd (upd ρ₁ "fits" (.list (fits.map oz))) "pick" (dn (draw / 16 % (12 + 3 * fits.length)))) "part" (.str f.1)) "code" (dn f.2)) ?_ (hZ rfl f.1 f.2 ⟨t.first, t.step, t.plain, t.shifts, t.barred, t.stock, t.unseen, t.codes, t.place⟩ u2 rfl rfl (tS fm.1) ?_ fm.2)⟩
              . simp -implicitDefEqProofs +decide only [aj, ao, ne_eq, if_true, if_false, ag, ai, cB, Option.bind_some, List.contains_nil, List.contains_cons, Bool.or_false, u1, u2, ry, hq, hq', wy, hin, hin', jE, kP _ 16 (by decide), lf, oe (show fits.length < 2 ^ 63 by with_reducible exact Om.lL (OfNat.ofNat _) ‹_› rfl), fZ, f0 _ (12 + 3 * fits.length) (Nat.ne_zero_of_lt hpk)]
              . simp -implicitDefEqProofs +decide only [aj, ao, ne_eq, if_false, ag, ai, cB, Option.bind_some, u1, ry, hq, hq', jE, vo, decide_eq_false hlt12, lf, kQ (show 12 ≤ draw / 16 % (12 + 3 * fits.length) by with_reducible exact Nat.le_of_not_lt ‹_›), f0 _ fits.length (Nat.ne_zero_of_lt hmm), ee (show (draw / 16 % (12 + 3 * fits.length) - 12) % fits.length < 2 ^ 62 by lia), ebD, oz, uD, dI]
              . have := (pV f fm.1).2.1
                intro e; rw [e] at this; exact absurd this (by decide)
          . have hin' : (c == 104 || c == 112) = false := by simpa using chp
            have hq' : decide ([c] = [63]) = false := decide_eq_false (by simpa using c63)
            have hcp : c ∈ kx := by
             rcases hc c hm with q | q | q | q
             . exact q
             . exact absurd (.inl q) chp
             . exact absurd (.inr q) chp
             . exact absurd q c63
            refine .eq (ρ := upd (upd ρ₁ "fits" (.list (fits.map oz))) "pick" (dn 0)) ?_ ⟨rfl, .eq (ρ := upd (upd (upd (upd ρ₁ "fits" (.list (fits.map oz))) "pick" (dn 0)) "part" (.str [c])) "code" (dn c)) ?_ (hZ rfl ([c]) _ ⟨t.first, t.step, t.plain, t.shifts, t.barred, t.stock, t.unseen, t.codes, t.place⟩ u2 rfl rfl (AJ hcp) (by simp) hd)⟩
            . simp -implicitDefEqProofs +decide only [aj, ao, ne_eq, if_false, ag, ai, cB, Option.bind_some, List.contains_nil, List.contains_cons, Bool.or_false, u1, u2, ry, hq, hq', wy, hin, hin', jE, kP _ 16 (by decide), f0 _ 1 (by decide), Nat.mod_one]
            . simp -implicitDefEqProofs +decide only [aj, ao, ne_eq, if_true, if_false, ag, ai, cB, Option.bind_some, decide_true, u1, ry, hq, hq', jE, vo, t.shifts, g4 (show 0 < 2 ^ 62 by decide), AZ (show 0 < 12 by decide), zw, Dk]
              rfl
      . rintro ρ ⟨part, code, z, z1, z2, z3, z4, z5, z6⟩
        have hpl : part.length ≤ plain.length - place := by
         have := congrArg List.length z6
         rw [List.length_take, List.length_drop] at this
         lia
        have hp1 : 1 ≤ part.length := by
         cases part with
         | nil => exact absurd rfl z5
         | cons _ _ => simp
        have lp : il [.str part] = some (dn part.length) := by
         (delta il; simp only [if_pos (show part.length < 16777216 by lia)]); rfl
        have a1 : eW (.list (fC.map fun p => dn p.1)) (.list [dn code]) = some (.list ((fC ++ [(code, part)]).map fun p => dn p.1)) := by
         (delta eW; dsimp only)
         rw [if_pos (by simp only [List.length_map, List.length_cons, List.length_nil]; lia), List.map_append]
         rfl
        have sl1 : cg (some ((draw / 384 % 54 : Nat) : Int)) none (.list (ez.map dn)) = some (.list ((ez.drop (draw / 384 % 54)).map dn)) := by
         (delta cg; simp only [oy, List.map_drop])
         rw [if_pos (by rw [List.length_map]; decide)]
        have sl2 : cg none (some ((1 : Nat) : Int)) (.list ((ez.drop (draw / 384 % 54)).map dn)) = some (.list (((ez.drop (draw / 384 % 54)).take 1).map dn)) := by
         (delta cg; simp only [iY, List.map_take])
         rw [if_pos (by rw [List.length_map, List.length_drop]; have : ez.length = 27 := rfl; with_reducible exact Om.dO rfl)]
        have hul : ((ez.drop (draw / 384 % 54)).take 1).length ≤ 1 := by rw [List.length_take]; with_reducible exact Om.n1 rfl
        have hum : ∀ u ∈ (ez.drop (draw / 384 % 54)).take 1, u ∈ ez := fun u hu => List.mem_of_mem_drop (List.mem_of_mem_take hu)
        generalize (ez.drop (draw / 384 % 54)).take 1 = us at *
        have a2 : eW (.list ((fC ++ [(code, part)]).map fun p => dn p.1)) (.list (us.map dn)) = some (.list (((fC ++ [(code, part)]) ++ us.map fun u => ((u, []) : Nat × List Nat)).map fun p => dn p.1)) := by
         (delta eW; dsimp only)
         rw [if_pos (by simp only [List.length_map, List.length_append, List.length_cons, List.length_nil]; lia), List.map_append (l₂ := us.map _), List.map_map]
         rfl
        refine Ok.seqF (.eq (ρ := upd (upd ρ "codes" (.list (((fC ++ [(code, part)]) ++ us.map fun u => ((u, []) : Nat × List Nat)).map fun p => dn p.1))) "place" (dn (place + part.length))) ?_ ⟨rfl, .eq rfl ⟨rfl, place + part.length, (fC ++ [(code, part)]) ++ us.map fun u => ((u, []) : Nat × List Nat), by exact Nat.add_le_add hk hp1, by rw [hP]; exact (Nat.le_sub_iff_add_le' hp).mp hpl, ?_, ?_, ?_, ⟨z.first, z.step, z.plain, z.shifts, z.barred, z.stock, z.unseen, rfl, rfl⟩⟩⟩)
        . simp -implicitDefEqProofs +decide only [if_true, ag, ai, od, uG, Option.bind_some, Option.map_some, List.length_cons, List.length_nil, Nat.reduceAdd, Nat.reduceLeDiff, z.codes, z.unseen, z.place, z1, z2, z3, kP _ 384 (by decide), f0 _ 54 (by decide), iW, sl1, sl2, a1, a2, lp, fZ, uD, dI]
        . intro p hp
          simp only [List.mem_append, List.mem_singleton, List.mem_map] at hp
          rcases hp with (hp | rfl) | ⟨u, hu, rfl⟩
          . exact Ae p hp
          . exact z4
          . exact re (hum u hu)
        . rw [hP, List.map_append, List.map_append, List.flatten_append, List.flatten_append, xm, List.take_add, z6]
          have : (us.map fun u => ((u, []) : Nat × List Nat)).map (·.2) = us.map fun _ => [] := by rw [List.map_map]; rfl
          rw [this]
          have : ∀ l : List Nat, (l.map fun _ => ([] : List Nat)).flatten = [] := by
           intro l; induction l with
           | nil => rfl
           | cons a l ih => simp
          rw [this]; simp
        . simp only [List.length_append, List.length_map, List.length_cons, List.length_nil]; lia
    . left
      refine ⟨by rw [decide_eq_false h1], .eq rfl ⟨rfl, ?_⟩⟩
      simp -implicitDefEqProofs only [if_true, ai, od, Option.bind_some, ik, List.length_cons, List.length_nil, Nat.reduceAdd, Nat.reduceLeDiff, s.codes, s3]
      refine .eq rfl (jt fC Ae rfl ?_ (by lia))
      rw [xm, List.take_of_length_le (by with_reducible exact Nat.le_of_not_lt ‹_›)]
 (refine yC key fun f ρ e fC h1 q0 h2 h3 => ?_; clear key; subst q0)
 exact (jt fC h1 (Ok.fn (ρ := upd (upd (upd (fun _ => none) "row" (.list (row.map dn))) "first" (dn first)) "step" (dn step)) rfl (kA _ ρ e rfl)) h2 h3)
noncomputable def j6 : List D -> Option (List Bool)
 | [] => some []
 | .bool b :: r => (j6 r).map (b :: ·)
 | _ => none
def jd (code : Nat) : Option (List Bool) := match eM [dn code] with
 | some (.list ds) => j6 ds
 | _ => none
noncomputable def six : Option (List Bool) -> Bool
 | some l => Nat.beq l.length 6
 | none => false
noncomputable def wB (d : Option D) (l : List Nat) : Bool := match d with
 | some (.str m) => m == l
 | _ => false
noncomputable def oK (l : List Bool) : Bool := (l.drop 1).any id
def NI (p : Nat × List Nat) (a o : Bool) : Bool := (bif a then p.2 == [] else bif o then p.2 == [63] else wB (nU [.str [p.1]]) p.2) && (bif o then cf.contains p.1 else true) && Nat.blt p.1 1114112
def iF (p : Nat × List Nat) : Bool := match jd p.1 with
 | some l => Nat.beq l.length 6 && NI p (l.getD 0 false) (oK l)
 | none => false
def qM : List Nat := ((cf.flatMap fun c => [c - 1, (c + 1) % 1114112]).filter fun c => !cf.contains c).eraseDups
theorem kc {α : Type} {p : α -> Bool} {l : List α} (m n : Nat) (h : ((l.drop m).take n).all p = true) (k : (l.drop (m + n)).all p = true) : (l.drop m).all p = true := by rw [<- List.take_append_drop n (l.drop m), List.all_append, h, List.drop_drop, k]; rfl
theorem Cr : ((d7.drop 0).take 70).all iF = true := by kernel_rfl
theorem Cs : ((d7.drop 70).take 70).all iF = true := by kernel_rfl
theorem Ct : ((d7.drop 140).take 50).all iF = true := by kernel_rfl
theorem Cu : ((d7.drop 190).take 20).all iF = true := by kernel_rfl
theorem Cv : ((d7.drop 210).take 20).all iF = true := by kernel_rfl
theorem Cw : ((d7.drop 230).take 15).all iF = true := by kernel_rfl
theorem Cy : (d7.drop 245).all iF = true := by kernel_rfl
theorem xD : d7.all iF = true := kc 0 70 Cr (kc 70 70 Cs (kc 140 50 Ct (kc 190 20 Cu (kc 210 20 Cv (kc 230 15 Cw Cy)))))
theorem xi : (qM.all fun c => six (jd c)) = true := by kernel_rfl
theorem uL : (cf.all fun c => Nat.ble 1 c && (cf.contains (c - 1) || qM.contains (c - 1)) && (cf.contains ((c + 1) % 1114112) || qM.contains ((c + 1) % 1114112))) = true := by kernel_rfl
theorem vR (k : Nat) : Builtin.bitAnd (k : Int) 63 = ((k % 64 : Nat) : Int) := by
 have := nc k 63
 rw [show (k &&& 63) = k % 64 from Nat.and_two_pow_sub_one_eq_mod k 6] at this
 exact this
theorem IK (k : Nat) : k &&& 64 = (k.testBit 6).toNat * 64 := by
 apply Nat.eq_of_testBit_eq
 intro i
 rw [Nat.testBit_and, show (64 : Nat) = 2 ^ 6 from rfl, Nat.testBit_two_pow]
 by_cases h : 6 = i
 . subst h
   cases k.testBit 6 <;> decide
 . rw [decide_eq_false h]
   cases k.testBit 6
   . simp
   . have : Nat.testBit (2 ^ 6) i = false := by rw [Nat.testBit_two_pow, decide_eq_false h]
     rw [Bool.and_false]; exact this.symm
theorem vS (k : Nat) : Builtin.bitAnd (k : Int) 64 = 0 ↔ k.testBit 6 = false := by
 have := nc k 64
 rw [IK] at this
 rw [show Builtin.bitAnd (k : Int) 64 = _ from this]
 cases k.testBit 6 <;> simp
theorem or64 (v k : Nat) : Builtin.bitOr ((v : Int) * 2 ^ 6) ((k % 64 : Nat) : Int) = ((v * 64 + k % 64 : Nat) : Int) := by
 have e : (v : Int) * 2 ^ 6 = ((v * 64 : Nat) : Int) := by exact Eq.symm (Nat.ToInt.mul_congr rfl rfl)
 rw [e, vr]
 congr 1
 have := Nat.two_pow_add_eq_or_of_lt (i := 6) (b := k % 64) (Nat.mod_lt _ (by decide)) v
 rw [Nat.mul_comm v 64]
 exact this.symm
theorem pK (h : c.testBit 6 = false) (r : List Nat) (v : Int) : gu r v c = .ok v r := by
 cases r with
 | nil => rw [gu, if_pos ((vS c).mpr h)]
 | cons k r => rw [gu, if_pos ((vS c).mpr h)]
theorem my (h : c.testBit 6 = true) (k : Nat) (r : List Nat) {v : Nat} (hv : v < 2 ^ 64) : gu (k :: r) (v : Int) c = gu r ((v * 64 + k % 64 : Nat) : Int) k := by
 rw [gu, if_neg (fun e => by rw [(vS c).mp e] at h; cases h), if_pos (by rw [Int.natAbs_natCast]; exact hv), vR, or64]
theorem AO (h : c.testBit 6 = true) {v : Nat} (hv : v < 2 ^ 64) : gu [] (v : Int) c = .stop := by
 rw [gu, if_neg (fun e => by rw [(vS c).mp e] at h; cases h), if_pos (by rw [Int.natAbs_natCast]; exact hv)]
noncomputable def fY (v : Nat) (bs : List Nat) : Nat := bs.foldl (fun v b => v * 64 + b % 64) v
theorem wA {v b : Nat} (h : v < 64 ^ m) : v * 64 + b % 64 < 64 ^ (m + 1) := by
 have := Nat.mod_lt b (show 0 < 64 by decide)
 rw [Nat.pow_succ]; lia
theorem PY {v : Nat} (h : v < 64 ^ m) (hm : m ≤ 10) : v < 2 ^ 64 := by
 have : 64 ^ m ≤ 64 ^ 10 := Nat.pow_le_pow_right (by decide) hm
 exact Nat.lt_of_lt_of_le h (Nat.le_trans this (by decide))
theorem tX {last : Nat} (hl : last.testBit 6 = false) (tail : List Nat) : ∀ (bs : List Nat) (v c m : Nat), c.testBit 6 = true -> (∀ b ∈ bs, b.testBit 6 = true) -> v < 64 ^ m -> m + bs.length ≤ 10 -> gu (bs ++ last :: tail) (v : Int) c = .ok ((fY v (bs ++ [last]) : Nat) : Int) tail
 | [], v, c, m, hc, _, hv, hm => by
  rw [List.nil_append, my hc _ _ (PY hv (by simpa using hm)), pK hl]; rfl
 | b :: bs, v, c, m, hc, hb, hv, hm => by
  simp only [List.length_cons] at hm
  rw [List.cons_append, my hc _ _ (PY hv (by ((with_reducible refine Om.em ‹_› ?_); simp +arith only))), tX hl tail bs _ b (m + 1) (hb b (.head _)) (fun x hx => hb x (.tail _ hx)) (wA hv) (by ((with_reducible refine Om.em ‹_› ?_); simp +arith only))]
  rfl
theorem tY : ∀ (bs : List Nat) (v c m : Nat), c.testBit 6 = true -> (∀ b ∈ bs, b.testBit 6 = true) -> v < 64 ^ m -> m + bs.length ≤ 10 -> gu bs (v : Int) c = .stop
 | [], v, c, m, hc, _, hv, hm => AO hc (PY hv (by simpa using hm))
 | b :: bs, v, c, m, hc, hb, hv, hm => by
  simp only [List.length_cons] at hm
  rw [my hc _ _ (PY hv (by ((with_reducible refine Om.em ‹_› ?_); simp +arith only)))]
  exact tY bs _ b (m + 1) (hb b (.head _)) (fun x hx => hb x (.tail _ hx)) (wA hv) (by ((with_reducible refine Om.em ‹_› ?_); simp +arith only))
theorem AP (hl : last.testBit 6 = false) (tail bs : List Nat) (hb : ∀ b ∈ bs, b.testBit 6 = true) (hn : bs.length ≤ 9) : pv (bs ++ last :: tail) = .ok ((fY 0 (bs ++ [last]) : Nat) : Int) tail := by
 cases bs with
 | nil => rw [List.nil_append, pv, vR, pK hl]; simp [fY]
 | cons b bs =>
  simp only [List.length_cons] at hn
  rw [List.cons_append, pv, vR, tX hl tail bs (b % 64) b 1 (hb b (.head _)) (fun x hx => hb x (.tail _ hx)) (by have := Nat.mod_lt b (show 0 < 64 by decide); with_reducible assumption) (Om.pL 9 hn rfl)]
  simp [fY]
theorem I0 (bs : List Nat) (hb : ∀ b ∈ bs, b.testBit 6 = true) (hn : bs.length ≤ 9) : pv bs = .stop := by
 cases bs with
 | nil => rfl
 | cons b bs =>
  simp only [List.length_cons] at hn
  rw [pv, vR]
  exact tY bs (b % 64) b 1 (hb b (.head _)) (fun x hx => hb x (.tail _ hx)) (by have := Nat.mod_lt b (show 0 < 64 by decide); with_reducible assumption) (Om.pL 9 hn rfl)
noncomputable def gE (place code : Nat) : List Nat := List.replicate (place % 5 / 4 * 3) 64 ++ ([3, 2, 1].filter fun d => decide (64 ^ d ≤ code)).map fun d => 64 + code / 64 ^ d % 64
def ie (place code : Nat) : List Nat := gE place code ++ [code % 64]
def cj : Nat -> List Nat -> List Nat
 | _, [] => []
 | p, c :: r => (ie p c).map (· + 128 * (p % 2)) ++ cj (p + 1) r
theorem uN {d e : Nat} (h : d < 128) : (d + 128 * e).testBit 6 = d.testBit 6 := by
 rw [Nat.testBit_eq_decide_div_mod_eq, Nat.testBit_eq_decide_div_mod_eq]
 rw [Om.bhi]
theorem IL {d : Nat} (h : d < 64) : (64 + d).testBit 6 = true := by
 rw [Nat.testBit_eq_decide_div_mod_eq, decide_eq_true_eq]; lia
theorem Db {d : Nat} (h : d < 64) : d.testBit 6 = false := by
 rw [Nat.testBit_eq_decide_div_mod_eq, decide_eq_false_iff_not]; lia
theorem kg {p b : Nat} (h : b ∈ gE p c) : ∃ d, d < 64 /\ b = 64 + d := by
 unfold gE at h
 rcases List.mem_append.mp h with h | h
 . exact (bC 0 (by decide) ((List.mem_replicate.mp h).2))
 . (refine ax (List.mem_map.mp h) fun d _ q0 => ?_; subst q0)
   exact (bC _ (Nat.mod_lt _ (by decide)) rfl)
theorem kj (p c : Nat) : (gE p c).length ≤ 6 := by
 unfold gE
 rw [List.length_append, List.length_replicate, List.length_map]
 have := List.length_filter_le (fun d => decide (64 ^ d ≤ c)) [3, 2, 1]
 simp only [List.length_cons, List.length_nil] at this
 lia
theorem nQ (e : Nat) : ∀ (l : List Nat) (v : Nat), fY v (l.map (· + 128 * e)) = fY v l
 | [], _ => rfl
 | b :: l, v => by
  show fY (v * 64 + (b + 128 * e) % 64) (l.map (· + 128 * e)) = fY (v * 64 + b % 64) l
  rw [Om.fhi]
  exact nQ e l _
theorem xk (v : Nat) (a b : List Nat) : fY v (a ++ b) = fY (fY v a) b := by unfold fY; rw [List.foldl_append]
theorem mP : ∀ n, fY 0 (List.replicate n 64) = 0
 | 0 => rfl
 | n + 1 => by rw [List.replicate_succ]; exact mP n
theorem nR (p : Nat) (h : c < 16777216) : fY 0 (ie p c) = c := by
 unfold ie gE
 rw [List.append_assoc, xk, mP]
 by_cases h3 : 64 ^ 3 ≤ c
 . have h2 : 64 ^ 2 ≤ c := Nat.le_trans (by decide) h3
   have h1 : 64 ^ 1 ≤ c := Nat.le_trans (by decide) h3
   simp only [List.filter_cons, h3, h2, h1, decide_true, if_true, List.filter_nil, List.map_cons, List.map_nil, List.cons_append, List.nil_append, fY, List.foldl_cons, List.foldl_nil]
   exact Om.oct1 h
 . by_cases h2 : 64 ^ 2 ≤ c
   . have h1 : 64 ^ 1 ≤ c := Nat.le_trans (by decide) h2
     simp only [List.filter_cons, h3, h2, h1, decide_true, decide_false, Bool.false_eq_true, if_false, if_true, List.filter_nil, List.map_cons, List.map_nil, List.cons_append, List.nil_append, fY, List.foldl_cons, List.foldl_nil]
     exact Om.oct2 (Nat.lt_of_not_le h3)
   . by_cases h1 : 64 ^ 1 ≤ c
     . simp only [List.filter_cons, h3, h2, h1, decide_true, decide_false, Bool.false_eq_true, if_false, if_true, List.filter_nil, List.map_cons, List.map_nil, List.cons_append, List.nil_append, fY, List.foldl_cons, List.foldl_nil]
       exact Om.oct3 (Nat.lt_of_not_le h2)
     . simp only [List.filter_cons, h3, h2, h1, decide_false, Bool.false_eq_true, if_false, List.filter_nil, List.map_nil, List.nil_append, fY, List.foldl_cons, List.foldl_nil]
       exact Om.oct4 (Nat.lt_of_not_le h1)
theorem v6 {e : Nat} {bs : List Nat} (h : ∀ b ∈ bs, ∃ d, d < 64 /\ b = 64 + d) : ∀ b ∈ bs.map (· + 128 * e), b.testBit 6 = true := fun b hb => by
 (refine ax (List.mem_map.mp hb) fun x hx q0 => ?_; subst q0)
 (refine ax (h x hx) fun d hd q0 => ?_; subst q0)
 rw [uN (by with_reducible exact Om.pS (OfNat.ofNat _) ‹_› rfl), IL hd]
theorem u0 : ∀ (codes : List Nat) (p n : Nat) (acc : List Int), (∀ c ∈ codes, c < 16777216) -> codes.length < n -> ej n (cj p codes) acc = some (acc ++ codes.map fun (c : Nat) => (c : Int))
 | [], p, n + 1, acc, _, _ => by simp [cj, ej, pv]
 | c :: r, p, n + 1, acc, h, hn => by
  have hb := AP (last := c % 64 + 128 * (p % 2)) (by rw [uN (by with_reducible exact Om.md rfl rfl), Db (Nat.mod_lt _ (by decide))]) (cj (p + 1) r) ((gE p c).map (· + 128 * (p % 2))) (v6 fun b hb => kg hb) (by rw [List.length_map]; have := kj p c; with_reducible exact Om.lN (OfNat.ofNat _) ‹_› rfl)
  have e : cj p (c :: r) = (gE p c).map (· + 128 * (p % 2)) ++ (c % 64 + 128 * (p % 2)) :: cj (p + 1) r := by
   rw [cj, ie, List.map_append, List.append_assoc]; rfl
  have e2 : (gE p c).map (· + 128 * (p % 2)) ++ [c % 64 + 128 * (p % 2)] = (ie p c).map (· + 128 * (p % 2)) := by rw [ie, List.map_append]; rfl
  rw [e2, nQ, nR p (h c (.head _))] at hb
  rw [e, ej, hb]
  show ej n _ _ = _
  rw [u0 r (p + 1) n _ (fun x hx => h x (.tail _ hx)) (by simpa using hn)]
  simp
theorem u3 : ∀ (codes : List Nat) (p n : Nat) (acc : List Int), codes ≠ [] -> (∀ c ∈ codes, c < 16777216) -> codes.length ≤ n -> ej n (cj p codes).dropLast acc = some (acc ++ codes.dropLast.map fun (c : Nat) => (c : Int))
 | [c], p, n, acc, _, h, hn => by
  obtain ⟨n, rfl⟩ : ∃ m, n = m + 1 := ⟨n - 1, by simp at hn; exact (Nat.sub_eq_iff_eq_add hn).mp rfl⟩
  have hc := I0 ((gE p c).map (· + 128 * (p % 2))) (v6 fun b hb => kg hb) (by rw [List.length_map]; have := kj p c; with_reducible exact Om.lN (OfNat.ofNat _) ‹_› rfl)
  have e : (cj p [c]).dropLast = (gE p c).map (· + 128 * (p % 2)) := by
   simp [cj, ie]
  rw [e, ej, hc]
  simp
 | c :: c' :: r, p, n + 1, acc, _, h, hn => by
  have hb := AP (last := c % 64 + 128 * (p % 2)) (by rw [uN (by with_reducible exact Om.md rfl rfl), Db (Nat.mod_lt _ (by decide))]) (cj (p + 1) (c' :: r)).dropLast ((gE p c).map (· + 128 * (p % 2))) (v6 fun b hb => kg hb) (by rw [List.length_map]; have := kj p c; with_reducible exact Om.lN (OfNat.ofNat _) ‹_› rfl)
  have ne : cj (p + 1) (c' :: r) ≠ [] := by simp [cj, ie]
  have e : (cj p (c :: c' :: r)).dropLast = (gE p c).map (· + 128 * (p % 2)) ++ (c % 64 + 128 * (p % 2)) :: (cj (p + 1) (c' :: r)).dropLast := by
   have : cj p (c :: c' :: r) = ((gE p c).map (· + 128 * (p % 2)) ++ [c % 64 + 128 * (p % 2)]) ++ cj (p + 1) (c' :: r) := by
    rw [cj, ie, List.map_append]; rfl
   rw [this, List.dropLast_append_of_ne_nil ne, List.append_assoc]; rfl
  have e2 : (gE p c).map (· + 128 * (p % 2)) ++ [c % 64 + 128 * (p % 2)] = (ie p c).map (· + 128 * (p % 2)) := by rw [ie, List.map_append]; rfl
  rw [e2, nQ, nR p (h c (.head _))] at hb
  rw [e, ej, hb]
  show ej n _ _ = _
  rw [u3 (c' :: r) (p + 1) n _ (by simp) (fun x hx => h x (.tail _ hx)) (by simpa using hn)]
  simp
theorem C2 (h : ∀ b ∈ l, b < 256) : b8 (byteArr (l.map fun (b : Nat) => (b : Int))) = l := by
 have e : (byteArr (l.map fun (b : Nat) => (b : Int))).toList = l.map fun (b : Nat) => b.toUInt8 := by
  simp [byteArr]
 unfold b8
 rw [e, List.map_map]
 have : l.map ((fun c : UInt8 => c.toNat) ∘ fun (b : Nat) => b.toUInt8) = l.map id := List.map_congr_left fun b hb => by
  show (b.toUInt8).toNat = b
  have := h b hb
  simp [Nat.toUInt8]; with_reducible assumption
 rw [this, List.map_id]
theorem DB {a b : List Nat} (ha : ∀ c ∈ a, c < 1114112) (hb : ∀ c ∈ b, c < 1114112) : Dj (.str a) (.str b) = some (.bool (!decide (a = b))) := by
 unfold Dj
 rw [if_pos ⟨(kq (j0 ha) 0).sh (by decide), (kq (j0 hb) 0).sh (by decide)⟩, w0]
noncomputable def vz (c : Nat) : Bool := Nat.beq c 32 || Nat.beq c 104 || Nat.beq c 112 || Nat.beq c 63
theorem Am : (qK.all fun p => !(p.1.any vz)) = true := by kernel_rfl
theorem mT {α β : Type} [BEq α] [LawfulBEq α] {k : α} : ∀ {l : List (α × β)}, (∀ p ∈ l, p.1 ≠ k) -> l.lookup k = none
 | [], _ => rfl
 | p :: l, h => by
  have e : (k == p.1) = false := by simpa using (h p (.head _)).symm
  rw [List.lookup_cons, e]
  exact mT fun q hq => h q (.tail _ hq)
theorem j9 (hc : c ∈ l) (hs : vz c = true) : bM.exact l = none := by
 refine mT fun p hp e => ?_
 have := List.all_eq_true.mp Am p hp
 rw [e, List.any_eq_true.mpr (bC c hc hs)] at this
 cases this
theorem xf : ((List.range 48).all fun k => pC (bM.exact (Bt k)) ((k + 7 : Nat) : Int)) = true := by kernel_rfl
theorem xg (h : k < 48) : bM.exact (Bt k) = some (dn (k + 7)) := o6 (cx xf h)
def mB (text : List Nat) (j : Nat) : Bool := (bM.exact (text.take j)).isSome || decide (j = 1)
theorem B9 {r : List Nat} (h : σ.length < j) : c ∈ (σ ++ c :: r).take j := by
 rw [List.take_append, List.mem_append]
 right
 obtain ⟨m, hm⟩ : ∃ m, j - σ.length = m + 1 := ⟨j - σ.length - 1, Om.tkm h⟩
 rw [hm]
 exact .head _
theorem Ib {r : List Nat} {d : D} (h : bM.exact σ = some d) (h1 : 1 ≤ σ.length) (h3 : σ.length ≤ 3) : ∃ tl, [3, 2, 1].filter (mB (σ ++ 32 :: r)) = σ.length :: tl := by
 have no : ∀ j, σ.length < j -> 1 < j -> mB (σ ++ 32 :: r) j = false := fun j hj h1 => by
  unfold mB
  rw [j9 (B9 hj) rfl, decide_eq_false (Nat.ne_of_lt' h1)]; rfl
 have yes : mB (σ ++ 32 :: r) σ.length = true := by
  unfold mB
  rw [List.take_append_of_le_length (Nat.le_refl _), List.take_length, h]; rfl
 have hl : σ.length = 1 \/ σ.length = 2 \/ σ.length = 3 := by lia
 rcases hl with e | e | e
 . rw [e] at yes ⊢
   refine ⟨[], ?_⟩
   simp only [List.filter_cons, no 3 (by with_reducible exact Om.eT ‹_› rfl) (by decide), no 2 (by with_reducible exact Om.eT ‹_› rfl) (by decide), yes, Bool.false_eq_true, if_false, if_true, List.filter_nil]
 . rw [e] at yes ⊢
   simp only [List.filter_cons, no 3 (by with_reducible exact Om.eT ‹_› rfl) (by decide), yes, Bool.false_eq_true, if_false, if_true, List.filter_nil]
   exact ⟨_, rfl⟩
 . rw [e] at yes ⊢
   simp only [List.filter_cons, yes, if_true]
   exact ⟨_, rfl⟩
theorem wC (hs : vz c = true) (r : List Nat) : [3, 2, 1].filter (mB (c :: r)) = [1] := by
 have no : ∀ j, 1 < j -> mB (c :: r) j = false := fun j h1 => by
  unfold mB
  rw [j9 (c := c) (by obtain ⟨m, rfl⟩ : ∃ m, j = m + 1 := ⟨j - 1, by exact (Nat.sub_add_cancel (Nat.le_of_lt ‹_›)).symm⟩; exact .head _) hs, decide_eq_false (Nat.ne_of_lt' h1)]; rfl
 have yes : mB (c :: r) 1 = true := by unfold mB; simp
 simp only [List.filter_cons, no 3 (by decide), no 2 (by decide), yes, Bool.false_eq_true, if_false, if_true, List.filter_nil]
structure IJ (done text : List Nat) (ρ : af) : Prop where
 row : ρ "row" = some (.list (done.map dn))
 text : ρ "text" = some (.str text)
theorem Hb (c : Nat) (hs : vz c = true) (h : c ≠ 32) : uS [104, 112, 63] (.str [c]) = some (dn ([104, 112, 63].idxOf c)) := by
 unfold vz at hs
 simp only [Bool.or_eq_true] at hs
 rcases hs with ((hs | hs) | hs) | hs <;> obtain rfl := Nat.eq_of_beq_eq_true hs
 . exact absurd rfl h
 all_goals kernel_rfl
theorem rk (h : k < 48) : 1 ≤ (Bt k).length /\ (Bt k).length ≤ 3 := by
 have := cx ww h
 simp only [Bool.and_eq_true] at this
 exact ⟨Nat.le_of_ble_eq_true this.2, Nat.le_of_ble_eq_true this.1⟩
theorem Ia (row : List Nat) (h : ∀ s ∈ row, ju s) (hl : row.length ≤ 100) : oS [.str (aY row)] = some (.list (row.map dn)) := by
 have hpl := ky h
 have hlt := ol h
 refine Ok.fn (ρ := upd (fun _ => none) "text" (.str (aY row))) rfl ?_
 unfold d_law_symbols
 dsimp only
 refine Ok.seqT (.eq (ρ := upd (upd (fun _ => none) "text" (.str (aY row))) "row" (.list [])) rfl ⟨rfl, ?_⟩)
 refine Ok.seqT (Ok.while (fun k ρ => ∃ done rest b text, row = done ++ rest /\ text = (if b then [32] else []) ++ aY rest /\ k + text.length ≤ (aY row).length /\ (∀ c ∈ text, c < 1114112) /\ IJ done text ρ) (aY row).length ⟨[], row, false, aY row, rfl, rfl, by simp +arith only, hlt, rfl, rfl⟩ (by with_reducible exact Om.cL (OfNat.ofNat _) ‹_› ‹_› rfl) ?_)
 rintro k ρ ⟨done, rest, b, text, hr, ht, hk, hc, s⟩
 have hn := DB (b := []) hc (by simp)
 by_cases h0 : text = []
 . left
   have hr0 : rest = [] := by
    rw [h0] at ht
    cases b
    . cases rest with
      | nil => rfl
      | cons a r =>
       exfalso
       have ha := h a (by rw [hr]; simp)
       have : lz a = [] := by
        have := ht.symm
        unfold aY at this
        simp at this
        exact this.1
       unfold lz at this
       split at this <;> simp at this
    . simp at ht
   refine ⟨?_, .eq rfl ⟨rfl, ?_⟩⟩
   . simp -implicitDefEqProofs only [ag, cB, Option.bind_some, s.text, iZ, hn, jE]
     rw [h0]; rfl
   . simp -implicitDefEqProofs only [eD, if_false, Option.bind_some, ik, s.row]
     refine .eq rfl ?_
     rw [hr, hr0, List.append_nil]
 . right
   have hpos : 0 < text.length := List.length_pos_iff.mpr h0
   refine (h9 (by lia) ?_ ?_)
   . simp -implicitDefEqProofs only [ag, cB, Option.bind_some, s.text, iZ, hn, jE, decide_eq_false h0, Bool.not_false]
   obtain ⟨piece, text', tl, add, done', rest', b', hf, htx, hp1, LN, hr', ht'⟩ : ∃ (piece text' tl add done' rest' : List Nat) (b' : Bool), [3, 2, 1].filter (mB text) = piece.length :: tl /\ text = piece ++ text' /\ 1 ≤ piece.length /\
    (((bM.exact piece).isSome = true /\ ∃ d, bM.exact piece = some (dn d) /\ add = [d]) \/ ((bM.exact piece) = none /\ ∃ c, vz c = true /\ piece = [c] /\ add = if c = 32 then [] else [256 + [104, 112, 63].idxOf c])) /\ (row = done' ++ rest' /\ done' = done ++ add) /\ text' = (if b' then [32] else []) ++ aY rest' := by
    cases b with
    | true =>
     refine (gk ([32]) (aY rest) ([]) ([]) done rest false ?_ ht (by decide) (.inr (rE (j9 (.head _) rfl) 32 rfl rfl rfl)) ⟨hr, by simp⟩ rfl)
     rw [ht]; exact wC rfl _
    | false =>
     cases rest with
     | nil => exact absurd ht h0
     | cons a r =>
      have ha := h a (by rw [hr]; simp)
      have ht2 : text = lz a ++ aY r := ht
      unfold lz at ht2
      by_cases c : a < 256
      . rw [if_pos c, List.append_assoc] at ht2
        have k7 : a - 7 < 48 := Om.s48 ha c
        have hx := xg k7
        have ea : a - 7 + 7 = a := Nat.sub_add_cancel (Om.s7 ha)
        rw [ea] at hx
        refine Ex (Ib (r := aY r) hx (rk k7).1 (rk k7).2) fun tl hf => ?_
        refine (gk (Bt (a - 7)) (32 :: aY r) tl ([a]) (done ++ [a]) r true ?_ ht2 ((rk k7).1) (.inl ⟨by rw [hx]; rfl, a, hx, rfl⟩) ⟨by rw [hr]; simp, rfl⟩ rfl)
        rw [ht2]; exact hf
      . rw [if_neg c] at ht2
        have k3 : a = 256 \/ a = 257 \/ a = 258 := Om.s3 ha c
        have hsp : vz ([104, 112, 63].getD (a - 256) 0) = true /\ [a] = (if [104, 112, 63].getD (a - 256) 0 = 32 then [] else [256 + [104, 112, 63].idxOf ([104, 112, 63].getD (a - 256) 0)]) := by
         rcases k3 with rfl | rfl | rfl <;> exact ⟨rfl, rfl⟩
        generalize [104, 112, 63].getD (a - 256) 0 = c at ht2 hsp
        refine (gk ([c]) (aY r) ([]) ([a]) (done ++ [a]) r false ?_ ht2 (by simp) (.inr (rE (j9 (.head _) hsp.1) c hsp.1 rfl hsp.2)) ⟨by rw [hr]; simp, rfl⟩ rfl)
        rw [ht2]; exact wC hsp.1 _
   have htl : text.length ≤ 400 := by lia
   have etk : text.take piece.length = piece := by rw [htx, List.take_append_of_le_length (Nat.le_refl _), List.take_length]
   have edr : text.drop piece.length = text' := by rw [htx, List.drop_append_of_le_length (Nat.le_refl _), List.drop_length, List.nil_append]
   refine Ok.seqF (.eq (ρ := upd ρ "piece" (.str piece)) ?_ ⟨rfl, ?_⟩)
   . simp -implicitDefEqProofs +decide only [bb, if_true, ai, od, Option.bind_some, fB, eO]
     rw [show [dn 3, dn 2, dn 1] = [3, 2, 1].map dn from rfl, ev (p := mB text) (out := fun j => [.str (text.take j)])]
     . have df : (piece.length :: tl).length ≤ 3 := by rw [<- hf]; exact List.length_filter_le _ _
       have fw : yo ((piece.length :: tl).map fun j => D.str (text.take j)) = some (D.str piece :: tl.map fun j => D.str (text.take j)) := by
        rw [yo, if_pos (by rw [List.length_map]; with_reducible exact Om.lN (OfNat.ofNat _) ‹_› rfl), List.map_cons, etk]
       rw [hf, fJ]
       simp -implicitDefEqProofs only [ag, Option.bind_some, Option.map_some, List.getElem?_cons_zero, fw, ee (by decide : 0 < 2 ^ 62)]
     . intro j hj
       have sl : cg none (some (j : Int)) (.str text) = some (.str (text.take j)) := by
        (delta cg; simp only [iY])
        rw [if_pos (by with_reducible exact Om.lN (OfNat.ofNat _) ‹_› rfl)]
       refine (cF _ rfl ?_ (fun _ => ?_))
       . simp -implicitDefEqProofs +decide only [eu, aj, ao, ne_eq, ag, cB, Option.bind_some, Option.map_some, s.text, iW, sl, wW, tH, jE, mB]
         by_cases hj1 : j = 1 <;> cases (bM.exact (text.take j)).isSome <;> simp [hj1]
       . simp -implicitDefEqProofs +decide only [eu, aj, ao, ne_eq, ag, Option.bind_some, Option.map_some, s.text, iW, sl]
   have sl : cg (some ((piece.length : Nat) : Int)) none (.str text) = some (.str text') := by
    (delta cg; simp only [oy, edr])
    rw [if_pos (by with_reducible exact Om.lN (OfNat.ofNat _) ‹_› rfl)]
   have lp : il [.str piece] = some (dn piece.length) := by
    have : piece.length ≤ text.length := by rw [htx, List.length_append]; simp +arith only
    (delta il; simp only [if_pos (show piece.length < 16777216 by lia)]); rfl
   have hdl : done.length ≤ 100 := by rw [hr, List.length_append] at hl; ((with_reducible refine Om.em ‹_› ?_); simp +arith only)
   have hal : add.length ≤ 1 := by
    rcases LN with ⟨_, d, _, rfl⟩ | ⟨_, c, _, _, rfl⟩
    . simp
    . split <;> simp
   have ad : eW (.list (done.map dn)) (.list (add.map dn)) = some (.list ((done ++ add).map dn)) := by
    (delta eW; dsimp only)
    rw [if_pos (by simp only [List.length_map]; with_reducible exact Om.aN (OfNat.ofNat _) (OfNat.ofNat _) ‹_› ‹_› rfl), List.map_append]
   refine Ok.seqF (.eq (ρ := upd (upd (upd ρ "piece" (.str piece)) "row" (.list ((done ++ add).map dn))) "text" (.str text')) ?_ ⟨rfl, .eq rfl ⟨rfl, done', rest', b', text', hr'.1, ht', ?_, ?_, ?_⟩⟩)
   . rcases LN with ⟨hs, d, hd, rfl⟩ | ⟨hs, c, hcs, rfl, he⟩
     . simp -implicitDefEqProofs +decide only [aj, ao, ne_eq, bb, eD, if_true, if_false, ag, ai, od, uG, Option.bind_some, Option.map_some, fB, List.length_cons, List.length_nil, Nat.reduceAdd, Nat.reduceLeDiff, s.row, s.text, wW, hd, Option.isSome_some, lp, iW, sl, uD, dI, show eW (.list (done.map dn)) (.list [dn d]) = some (.list ((done ++ [d]).map dn)) from ad]
     . have sl1 : cg (some ((1 : Nat) : Int)) none (.str text) = some (.str text') := sl
       have c0 : c < 1114112 := hc c (by rw [htx]; exact .head _)
       simp -implicitDefEqProofs +decide only [aj, ao, ne_eq, bb, eD, if_false, ag, ai, Option.bind_some, Option.map_some, fB, List.length_cons, List.length_nil, Nat.reduceAdd, s.row, s.text, wW, hs, Option.isSome_none, lp, iW]
       rw [show eO (.str [c]) = some ([c].map fun c => D.str [c]) from rfl, Option.bind_some, ev (enc := fun c => D.str [c]) (p := fun c => !decide (c = 32)) (out := fun c => [dn (256 + [104, 112, 63].idxOf c)])]
       . have ea : ([c].filter fun c => !decide (c = 32)).flatMap (fun c => [dn (256 + [104, 112, 63].idxOf c)]) = add.map dn := by
          rw [he]
          by_cases c32 : c = 32
          . subst c32; rfl
          . rw [if_neg c32]; simp [c32]
         rw [ea]
         simp -implicitDefEqProofs only [if_true, ag, ai, od, Option.bind_some, Option.map_some, List.length_cons, List.length_nil, Nat.reduceAdd, Nat.reduceLeDiff, yo, List.length_map, if_pos (show add.length ≤ 16777216 by with_reducible exact Om.lN (OfNat.ofNat _) ‹_› rfl), ad, sl1, uD, dI]
       . intro x hx
         rw [List.mem_singleton] at hx
         subst hx
         have hn2 := DB (a := [x]) (b := [32]) (by simpa using c0) (by decide)
         refine (cF _ rfl ?_ (fun hp => ?_))
         . simp -implicitDefEqProofs only [aj, ag, cB, Option.bind_some, DO, hn2, jE, List.cons.injEq, and_true]
         . have hx32 : x ≠ 32 := by simpa using hp
           simp -implicitDefEqProofs only [aj, ag, Option.map_some, B5, Hb x hcs hx32, fZ]
   . have : text.length = piece.length + text'.length := by rw [htx, List.length_append]
     lia
   . intro c h; exact hc c (by rw [htx]; exact List.mem_append_right _ h)
   . rw [hr'.2]; exact ⟨by simp -implicitDefEqProofs +decide only [aj, ao, ne_eq], by simp -implicitDefEqProofs +decide only [aj]⟩
theorem Ok.forTo {α : Type} {enc : α -> D} {t : Expr} {go : af -> Option (Fl × af)} (Inv : List α -> af -> Prop) (l : List α) {ds2 : List D} (hd : ds = l.map enc ++ ds2) (h0 : Inv [] ρ)
 (hs : ∀ a x b ρ, l = a ++ x :: b -> Inv a ρ -> ∃ ρ₁, iM t (enc x) ρ = some ρ₁ /\ Ok (gb ρ₁) fun f ρ₂ => f = .next /\ Inv (a ++ [x]) ρ₂) (hk : ∀ ρ, Inv l ρ -> Ok (iP t gb go ds2 ρ) Q) : Ok (iP t gb go ds ρ) Q := by
 subst hd
 have H : ∀ (b a : List α) (ρ : af), l = a ++ b -> Inv a ρ -> Ok (iP t gb go (b.map enc ++ ds2) ρ) Q := by
  intro b
  induction b with
  | nil => intro a ρ e i; rw [List.append_nil] at e; subst e; exact hk ρ i
  | cons x b ih =>
   intro a ρ e i
   (refine qi (hs a x b ρ e i) fun ρ₁ am f ρ₂ ar q0 bW => ?_; subst q0)
   rw [List.map_cons, List.cons_append, iP, am, Option.bind_some, ar]
   exact ih (a ++ [x]) ρ₂ (by rw [e]; simp) bW
 exact H l [] ρ rfl h0
theorem Ok.forRet {t : Expr} {go : af -> Option (Fl × af)} {d x : D} {ρ₁ ρ₂ : af} (h1 : iM t d ρ = some ρ₁) (h2 : gb ρ₁ = some (.ret x, ρ₂)) (h : Q (.ret x) ρ₂) : Ok (iP t gb go (d :: ds) ρ) Q := by
 rw [iP, h1, Option.bind_some, h2]
 exact (kA _ _ rfl h)
theorem Ok.seqTret {k : af -> Option (Fl × af)} (h : Ok r fun f ρ => (f = .next /\ Ok (k ρ) Q) \/ ∃ d, f = .ret d /\ Q (.ret d) ρ) : Ok (Mine.seqT r k) Q := by
 obtain ⟨f, ρ, rfl, h⟩ := h
 rcases h with ⟨rfl, q⟩ | ⟨d, rfl, q⟩
 . exact q
 . exact (kA _ _ rfl q)
def PX (k : Nat) : List Int -> Option (List Int)
 | a :: b :: st => if 0 ≤ a /\ a ≤ 15 /\ 0 ≤ b /\ b ≤ 15 then some ((fk k a.toNat b.toNat : Nat) :: st) else none
 | _ => none
def ug (s : Nat) (st : List Int) : Option (List Int) := if 256 ≤ s then some ((if s = 258 then -1 else if s = 256 then 12 else 10) :: st) else PX ((s - 7) % 16) st
def iG : List Nat -> List Int -> Option (List Int)
 | [], st => some st
 | s :: r, st => (ug s st).bind (iG r)
theorem fU : ∀ (a b : List Nat) (st : List Int), iG (a ++ b) st = (iG a st).bind (iG b)
 | [], b, st => rfl
 | s :: a, b, st => by
  rw [List.cons_append, iG, iG, Option.bind_assoc]
  congr 1
  funext x
  exact fU a b x
theorem AU {s : Nat} (h : s < 256) {a b : Nat} (ha : a ≤ 15) (hb : b ≤ 15) (st : List Int) : iG [s] ((a : Int) :: (b : Int) :: st) = some (((fk ((s - 7) % 16) a b : Nat) : Int) :: st) := by
 rw [iG, ug, if_neg (Nat.not_le_of_lt h), PX, if_pos (oE (by with_reducible exact Int.natCast_nonneg _) (by with_reducible exact Om.iE (OfNat.ofNat _) ‹_› (by decide)) (by with_reducible exact Int.natCast_nonneg _) (by with_reducible exact Om.iE (OfNat.ofNat _) ‹_› (by decide)))]
 rfl
theorem ox : ∀ (a : List Nat) (st st' : List Int), iG a st = some st' -> st'.length ≤ st.length + a.length
 | [], st, st', h => by cases h; simp
 | s :: a, st, st', h => by
  rw [iG] at h
  refine ax (obE h) fun x h1 h2 => ?_
  have := ox a x st' h2
  have hx : x.length ≤ st.length + 1 := by
   unfold ug at h1
   split at h1
   . (replace h1 := siE h1; subst h1); simp
   . unfold PX at h1
     split at h1
     . split at h1
       . (replace h1 := siE h1; subst h1); simp
       . exact nS h1
     . exact nS h1
  simp only [List.length_cons]
  lia
def qn (row : List Nat) (dx : List Int) : Prop := ∀ st, iG row.reverse st = some (dx ++ st)
theorem u9 (eC : ∀ it ∈ its, it.Ok) {t : Nat} (h : kB its row t) : qn row [(t : Int)] := by
 induction h with
 | h => intro st; rfl
 | p => intro st; rfl
 | @op i aB ek kG n9 hi a b iha ihb =>
  intro st
  have h1 := a.le
  have h2 := b.le
  have hn := (eC i hi).hi
  have e : (i.num :: aB ++ ek).reverse = ek.reverse ++ (aB.reverse ++ [i.num]) := by simp
  rw [e, fU, ihb st, Option.bind_some, fU, iha, Option.bind_some]
  show iG [i.num] ((kG : Int) :: (n9 : Int) :: st) = _
  rw [AU (by with_reducible exact Om.lS (OfNat.ofNat _) ‹_› rfl) h1 h2]
  rfl
theorem mS : ∀ l : List (List Nat × List Int), (∀ p ∈ l, qn p.1 p.2) -> qn (l.map (·.1)).flatten (l.map (·.2)).flatten
 | [], _ => fun st => rfl
 | p :: l, h => fun st => by
  have ih := mS l (fun q hq => h q (.tail _ hq)) st
  rw [List.map_cons, List.map_cons, List.flatten_cons, List.flatten_cons, List.reverse_append, fU, ih, Option.bind_some, h p (.head _), List.append_assoc]
noncomputable def fP (i : It) : List Nat := [i.num, 256 + i.l0, 256 + i.l1] ++ List.replicate i.bar 258
noncomputable def gg (i : It) : List Int := [(i.table : Int), -1].take (1 + i.bar)
theorem xr {i : It} (h : i.Ok) : qn (fP i) (gg i) := by
 intro st
 have hn := h.hi
 have h0 := h.l0
 have h1 := h.l1
 have hb := h.bar
 have v : ∀ l, l < 2 -> ∀ st, iG [256 + l] st = some ((pj l : Int) :: st) := fun l hl st => by
  rcases PR hl with rfl | rfl <;> rfl
 have e : (fP i).reverse = List.replicate i.bar 258 ++ ([256 + i.l1] ++ ([256 + i.l0] ++ [i.num])) := by
  unfold fP; simp
 have e2 : iG (List.replicate i.bar 258) st = some (([(-1 : Int)].take i.bar) ++ st) := by
  generalize i.bar = b at hb
  rcases PR hb with rfl | rfl <;> rfl
 rw [e, fU, e2, Option.bind_some, fU, v _ h1, Option.bind_some, fU, v _ h0, Option.bind_some]
 have p0 := pH i.l0
 have p1 := pH i.l1
 rw [AU (by with_reducible exact Om.lS (OfNat.ofNat _) ‹_› rfl) p0 p1, <- h.table]
 unfold gg
 rw [Nat.add_comm 1 i.bar]
 rfl
noncomputable def di (i : Int) : D := .tup [.bool (decide (i = 0)), .bool (decide (i < 256)), .bool (decide (256 ≤ i))]
def zZ (aU : Addr) : af -> Option (Fl × af) := (mo aU (nW aU) nV).1
theorem CO (aU : Addr) (drawn : List Nat) (rest : List Int) (fin : List Int) (h : ∀ s ∈ drawn, ju s) (hl : drawn.length ≤ 1000) (qW : iG drawn.reverse [] = some fin) :
 ((dI (fun _ => none) ["back", "told"] [.list ((drawn.reverse.map fun (s : Nat) => (s : Int)) ++ 0 :: rest |>.map .int), .list ((drawn.reverse.map fun (s : Nat) => (s : Int)) ++ 0 :: rest |>.map di)]).bind fun ρ => (zZ aU (upd (upd ρ "look" eZ) "pile" (.list []))).bind vx) = some (.list (fin.map .int)) := by
 have key : Ok (zZ aU (upd (upd (upd (upd (fun _ => none) "back" (.list (((drawn.reverse.map fun (s : Nat) => (s : Int)) ++ 0 :: rest).map .int))) "told" (.list (((drawn.reverse.map fun (s : Nat) => (s : Int)) ++ 0 :: rest).map di))) "look" eZ) "pile" (.list []))) fun f _ => f = .ret (.list (fin.map .int)) := by
  generalize hρ : upd (upd (upd (upd (fun _ => none) "back" (.list (((drawn.reverse.map fun (s : Nat) => (s : Int)) ++ 0 :: rest).map .int))) "told" (.list (((drawn.reverse.map fun (s : Nat) => (s : Int)) ++ 0 :: rest).map di))) "look" eZ) "pile" (.list []) = aV
  have r0 : aV "back" = some (.list (((drawn.reverse.map fun (s : Nat) => (s : Int)) ++ 0 :: rest).map .int)) := by rw [<- hρ]; simp -implicitDefEqProofs +decide only [aj, ao, ne_eq]
  have r1 : aV "told" = some (.list (((drawn.reverse.map fun (s : Nat) => (s : Int)) ++ 0 :: rest).map di)) := by rw [<- hρ]; simp -implicitDefEqProofs +decide only [aj, ao, ne_eq]
  have r2 : aV "look" = some eZ := by rw [<- hρ]; simp -implicitDefEqProofs +decide only [aj, ao, ne_eq]
  have r3 : aV "pile" = some (.list []) := by rw [<- hρ]; simp -implicitDefEqProofs only [aj]
  clear hρ
  have hz : ∀ xs : List Int, sZ [.list (xs.map .int), .list (xs.map di)] = some (xs.map fun i => .tup [.int i, di i]) := fun xs => by
   (delta sZ; dsimp only)
   congr 1
   induction xs with
   | nil => rfl
   | cons x xs ih => simp only [List.map_cons, List.zip_cons_cons, ih]
  unfold zZ mo
  dsimp only
  refine Ok.seqTret ?_
  simp -implicitDefEqProofs +decide only [eD, if_true, if_false, ai, od, Option.bind_some, fB, yT, r0, r1, hz]
  refine Ok.forTo (enc := fun s : Nat => .tup [dn s, di s]) (fun a ρ => ∃ st : List Int, iG a [] = some st /\ ρ "pile" = some (.list (st.reverse.map .int)) /\ ρ "look" = some eZ) drawn.reverse (ds2 := .tup [.int 0, di 0] :: rest.map fun i => .tup [.int i, di i]) ?_ (cF ([]) rfl r3 r2) ?_ ?_
  . rw [List.map_append, List.map_map]; rfl
  . rintro a s b ρ e ⟨st, hst, hp, hlk⟩
    have hs : ju s := h s (by rw [<- List.mem_reverse, e]; simp)
    rw [e, fU, hst, Option.bind_some, iG] at qW
    refine ax (obE qW) fun st2 h2 _ => ?_
    have Dt : iG (a ++ [s]) [] = some st2 := by
     rw [fU, hst, Option.bind_some, iG, h2]; rfl
    refine (bC (upd (upd ρ "symbol" (dn s)) "says" (di s)) rfl ?_)
    have t0 : ef (di s) (dn 0) = some (.bool false) := by
     show some (D.bool (decide ((s : Int) = 0))) = _
     rw [decide_eq_false (Om.s0 hs)]
    have t1 : ef (di s) (dn 1) = some (.bool (decide ((s : Int) < 256))) := rfl
    have t2 : ef (di s) (dn 2) = some (.bool (decide (256 ≤ (s : Int)))) := rfl
    have hsl : (st.reverse.map D.int).length < 10000 := by
     have := ox a [] st hst
     have := congrArg List.length e
     rw [List.length_reverse, List.length_append, List.length_cons] at this
     rw [List.length_map, List.length_reverse]
     simp at *
     lia
    by_cases c : 256 ≤ s
    . have Mf : st2 = (if s = 258 then -1 else if s = 256 then 12 else 10) :: st := by
       rw [ug, if_pos c] at h2; (replace h2 := siE h2; subst h2); rfl
      have k3 : s = 256 \/ s = 257 \/ s = 258 := Om.s3 hs (Nat.not_lt.mpr c)
      refine .eq (ρ := upd (upd (upd (upd (upd ρ "symbol" (dn s)) "says" (di s)) "answer" (if s = 258 then .tup [.val (.ref aU), .str []] else if s = 256 then .tup [dn 12, dn 12] else .tup [dn 10, dn 10])) "good" (.bool true)) "pile" (.list (st2.reverse.map .int))) ?_ (rE rfl st2 Dt (by simp -implicitDefEqProofs +decide only [aj]) (by simp -implicitDefEqProofs +decide only [ao, ne_eq, hlk]))
      have t2' : ef (di s) (dn 2) = some (.bool true) := by rw [t2, decide_eq_true (by with_reducible exact Om.gI (OfNat.ofNat _) ‹_› (by decide))]
      have gn : eZ ≠ D.none := by unfold eZ; intro h; cases h
      have i0 : ∀ x y : D, ef (.tup [x, y]) (dn 0) = some x := fun x y => rfl
      have i1 : ∀ x y : D, ef (.tup [x, y]) (dn 1) = some y := fun x y => rfl
      have zD : oN (dn s) (dn 258) = some (.bool (decide (s = 258))) := tH _ _
      have l2 : ∀ x y : D, il [.tup [x, y]] = some (dn 2) := fun x y => rfl
      have z2 : oN (dn 2) (dn 2) = some (.bool true) := by rw [tH]; rfl
      rw [Mf]
      rcases k3 with rfl | rfl | rfl
      . have g1 : nW aU [dn 0, eZ] (.tup [dn 12, dn 10]) = some (.tup [dn 12, dn 12]) := by
         unfold nW; dsimp only [dn]; rw [if_neg gn, if_pos rfl]; rfl
        have z : oN (dn 12) (dn 12) = some (.bool true) := by rw [tH]; rfl
        simp -implicitDefEqProofs +decide only [aj, ao, ne_eq, if_true, if_false, ag, ai, cB, Option.bind_some, Option.map_some, decide_false, cN, Nat.reduceSub,  hp, hlk, t0, t2', jx, jz, jA, jy, kQ (show 256 ≤ 256 by decide), zD, jE, g1, nF, l2, z2, i0, i1, z, Bool.not_true, hsl]
        simp only [List.reverse_cons, List.map_append]; rfl
      . have g1 : nW aU [dn 1, eZ] (.tup [dn 12, dn 10]) = some (.tup [dn 10, dn 10]) := by
         unfold nW; dsimp only [dn]; rw [if_neg gn, if_pos rfl]; rfl
        have z : oN (dn 10) (dn 10) = some (.bool true) := by rw [tH]; rfl
        simp -implicitDefEqProofs +decide only [aj, ao, ne_eq, if_true, if_false, ag, ai, cB, Option.bind_some, Option.map_some, decide_false, cN, Nat.reduceSub,  hp, hlk, t0, t2', jx, jz, jA, jy, kQ (show 256 ≤ 257 by decide), zD, jE, g1, nF, l2, z2, i0, i1, z, Bool.not_true, hsl]
        simp only [List.reverse_cons, List.map_append]; rfl
      . have g1 : nW aU [dn 2, D.none] (.tup [dn 12, dn 10]) = some (.tup [.val (.ref aU), .str []]) := by
         unfold nW; dsimp only [dn]; rw [if_pos rfl]
        have z : oN (.str []) (.str []) = some (.bool true) := by rw [Ay (by simp) (by simp)]; rfl
        have zi : PN (.val (.ref aU)) (.val (.ref aU)) = some (.bool true) := if_pos rfl
        simp -implicitDefEqProofs +decide only [aj, ao, ne_eq, if_true, if_false, ag, ai, cB, Option.bind_some, Option.map_some, decide_true, cN, Nat.reduceSub,  hp, hlk, t0, t2', jx, jz, jA, jy, kQ (show 256 ≤ 258 by decide), zD, jE, g1, nF, l2, z2, i0, i1, zi, iZ, z, Bool.not_true, hsl]
        simp only [List.reverse_cons, List.map_append]; rfl
    . have h7 : 7 ≤ s := Om.s7 hs
      rw [ug, if_neg c] at h2
      have t1' : ef (di s) (dn 1) = some (.bool true) := by rw [t1, decide_eq_true (by lia)]
      have t2' : ef (di s) (dn 2) = some (.bool false) := by rw [t2, decide_eq_false (by lia)]
      match st, h2 with
      | a1 :: b1 :: st', h2 =>
       rw [PX] at h2
       split at h2
       . rename_i hab
         (replace h2 := siE h2; subst h2)
         have el : lZ ((a1 :: b1 :: st').reverse.map D.int) = some (st'.reverse.map D.int, .int b1, .int a1) := by
          unfold lZ
          rw [<- List.map_reverse, List.reverse_reverse]
          show some ((st'.map D.int).reverse, D.int b1, D.int a1) = _
          rw [List.map_reverse]
         have em : nV [dn ((s - 7) % 16), .int a1, .int b1] = some (dn (fk ((s - 7) % 16) a1.toNat b1.toNat)) := by
          have := vm ((s - 7) % 16) a1.toNat b1.toNat (Int.toNat_le.mpr hab.right.left) (Int.toNat_le.mpr hab.right.right.right)
          unfold dn at this ⊢
          rw [Int.toNat_of_nonneg hab.1, Int.toNat_of_nonneg hab.2.2.1] at this
          exact this
         refine .eq (ρ := upd (upd (upd ρ "symbol" (dn s)) "says" (di s)) "pile" (.list (((((fk ((s - 7) % 16) a1.toNat b1.toNat : Nat) : Int) :: st').reverse).map .int))) ?_ (rE rfl _ Dt (by simp -implicitDefEqProofs +decide only [aj]) (by simp -implicitDefEqProofs +decide only [ao, ne_eq, hlk]))
         simp -implicitDefEqProofs +decide only [aj, ao, ne_eq, if_true, if_false, ag, cB, Option.bind_some, cN, hp, t0, t1', t2', jx, jz, jA, jy, el, kQ h7, f0 _ 16 (by decide), em, hsl]
         simp only [List.reverse_cons, List.map_append]; rfl
       . exact nS h2
  . rintro ρ ⟨st, hst, hp, hlk⟩
    rw [qW] at hst
    (replace hst := siE hst; subst hst)
    have hfl : (fin.reverse.map D.int).all lh = true := by
     rw [List.all_map, List.all_eq_true]; intro x _; rfl
    have hrv : sY (.list (fin.reverse.map D.int)) = some (.list (fin.map .int)) := by
     simp only [sY]
     rw [if_pos (by have := ox _ _ _ qW; rw [List.length_map, List.length_reverse]; simp at this; lia), List.map_reverse, List.reverse_reverse]
    refine Ok.forRet (ρ₁ := upd (upd ρ "symbol" (.int 0)) "says" (di 0)) (ρ₂ := upd (upd ρ "symbol" (.int 0)) "says" (di 0)) (x := .list (fin.map .int)) rfl ?_ (.inr (bC _ rfl rfl))
    have ti : ef (di 0) (.int 0) = some (.bool true) := rfl
    simp -implicitDefEqProofs only [upd, nj, String.reduceEq, if_true, if_false, Option.bind_some, hp, jx, jz, jA, jy, zK, hfl, hrv]
    rfl
 (refine nk key fun f ρ e q0 => ?_; clear key; subst q0)
 show ((zZ aU _).bind vx) = _
 rw [e]
 rfl
noncomputable def hx (n : Nat) : List Nat := (Nat.toDigits 16 n).map Char.toNat
theorem DN : (Str.ofString "0x").cps.toList = [48, 120] := by kernel_rfl
theorem qS (n : Nat) : l8 (n : Int) = [48, 120] ++ hx n := by
 have app : ∀ a b : Str, (a ++ b).cps.toList = a.cps.toList ++ b.cps.toList := fun a b => by
  show (Str.append a b).cps.toList = _
  simp [Str.append]
 unfold l8 hx
 rw [PySem.baseText_nonneg (by with_reducible exact Int.natCast_nonneg _), Int.natAbs_natCast, app, app, iZ, DN, Str.ofString_eq_toList]
 simp
theorem wg {d : Nat} (h : 0 < n) (hd : d < 16) : hx (16 * n + d) = hx n ++ hx d := by
 unfold hx
 rw [<- Nat.toDigits_append_toDigits (by decide) h hd, List.map_append]
theorem tB {n : Nat} (h : 0 < n) : ∀ k, hx (n * 16 ^ k) = hx n ++ List.replicate k 48
 | 0 => by simp
 | k + 1 => by
  have h2 : 0 < n * 16 ^ k := Nat.mul_pos h (Nat.pow_pos (by decide))
  have e : n * 16 ^ (k + 1) = 16 * (n * 16 ^ k) + 0 := by rw [Nat.pow_succ, <- Nat.mul_assoc, Nat.mul_comm _ 16]; rfl
  rw [e, wg h2 (by decide), tB h k, List.append_assoc]
  congr 1
  rw [show hx 0 = [48] from by decide, <- List.replicate_succ']
def nm (i : Nat) : List Nat := match bM.flags ((2 ^ i : Nat) : Int) with
 | some (.str l) => l
 | _ => l8 ((2 ^ i : Nat) : Int)
theorem vq : ((List.range 32).all fun i => wB (some ((bM.flags ((2 ^ i : Nat) : Int)).getD (.str (l8 ((2 ^ i : Nat) : Int))))) (nm i) && Nat.ble (nm i).length 100 && (nm i).all (fun c => Nat.blt c 1000)) = true := by kernel_rfl
theorem uh {d : Option D} (h : wB d l = true) : d = some (.str l) := by
 unfold wB at h
 split at h
 . rw [beq_iff_eq.mp h]
 . cases h
theorem MC (h : i < 32) : (bM.flags ((2 ^ i : Nat) : Int)).getD (.str (l8 ((2 ^ i : Nat) : Int))) = .str (nm i) := by
 have := cx vq h
 simp only [Bool.and_eq_true] at this
 have := uh this.1.1
 injection this
theorem Hm (h : i < 32) : (nm i).length ≤ 100 := by
 have := cx vq h
 simp only [Bool.and_eq_true] at this
 exact Nat.le_of_ble_eq_true this.1.2
theorem MB (h : i < 32) : ∀ c ∈ nm i, c < 1114112 := fun c hc => by
 have := cx vq h
 simp only [Bool.and_eq_true] at this
 have := List.all_eq_true.mp this.2 c hc
 simp [Nat.blt] at this
 with_reducible exact Om.lL (OfNat.ofNat _) ‹_› rfl
theorem vN (x i : Nat) : x &&& 2 ^ i = if x.testBit i then 2 ^ i else 0 := by
 apply Nat.eq_of_testBit_eq
 intro j
 rw [Nat.testBit_and, Nat.testBit_two_pow]
 by_cases h : i = j
 . subst h
   cases hx : x.testBit i
   . simp
   . simp [Nat.testBit_two_pow]
 . rw [decide_eq_false h, Bool.and_false]
   split
   . rw [Nat.testBit_two_pow, decide_eq_false h]
   . simp
theorem LO (N i : Nat) : N / 2 ^ (i + 1) = N / 2 ^ i / 2 := by rw [Nat.pow_succ, Nat.div_div_eq_div_mul]
theorem ke (N i : Nat) : N.testBit i = decide (N / 2 ^ i % 2 = 1) := Nat.testBit_eq_decide_div_mod_eq
theorem wF (N i : Nat) : (N / 2 ^ i * 2 ^ i).testBit i = N.testBit i := by
 rw [ke, ke, Nat.mul_div_cancel _ (Nat.pow_pos (by decide))]
theorem Ok.forB {α : Type} {enc : α -> D} {t : Expr} {go : af -> Option (Fl × af)} (Inv : List α -> af -> Prop) (l : List α) (hd : ds = l.map enc) (h0 : Inv [] ρ)
 (hs : ∀ a x b ρ, l = a ++ x :: b -> Inv a ρ -> ∃ ρ₁, iM t (enc x) ρ = some ρ₁ /\ Ok (gb ρ₁) fun f ρ₂ => (f = .next /\ Inv (a ++ [x]) ρ₂) \/ (f = .brk /\ Q .next ρ₂)) (hk : ∀ ρ, Inv l ρ -> Ok (go ρ) Q) : Ok (iP t gb go ds ρ) Q := by
 subst hd
 have H : ∀ (b a : List α) (ρ : af), l = a ++ b -> Inv a ρ -> Ok (iP t gb go (b.map enc) ρ) Q := by
  intro b
  induction b with
  | nil => intro a ρ e i; rw [List.append_nil] at e; subst e; exact hk ρ i
  | cons x b ih =>
   intro a ρ e i
   refine Gd (hs a x b ρ e i) fun ρ₁ am f ρ₂ ar h => ?_
   rw [List.map_cons, iP, am, Option.bind_some, ar]
   rcases h with ⟨rfl, bW⟩ | ⟨rfl, q⟩
   . exact ih (a ++ [x]) ρ₂ (by rw [e]; simp) bW
   . exact (kA _ _ rfl q)
 exact H l [] ρ rfl h0
def eQ (N : Nat) : List (List Nat) := ((List.range 32).filter N.testBit).map nm ++ if N / 2 ^ 32 = 0 then [] else [l8 ((N / 2 ^ 32 * 2 ^ 32 : Nat) : Int)]
theorem p5 (h : N / 2 ^ i = 0) (hj : i ≤ j) : N.testBit j = false := by
 rw [ke, decide_eq_false]
 have : N / 2 ^ j = 0 := by
  have : 2 ^ i ≤ 2 ^ j := Nat.pow_le_pow_right (by decide) hj
  have h1 : N < 2 ^ i := by
   rcases Nat.lt_or_ge N (2 ^ i) with c | c
   . exact c
   . have := Nat.div_pos c (Nat.pow_pos (by decide : 0 < 2)); lia
  exact Nat.div_eq_of_lt (Nat.lt_of_lt_of_le h1 this)
 rw [this]; decide
theorem AR {a b : List Nat} {x : Nat} (h : List.range n = a ++ x :: b) : x = a.length /\ a = List.range a.length /\ x < n := by
 have h1 : (List.range n)[a.length]? = some x := by rw [h]; simp
 have hlt : a.length < n := by have := (List.getElem?_eq_some_iff.mp h1).1; simpa using this
 rw [List.getElem?_range hlt] at h1
 (replace h1 := siE h1; subst h1)
 refine (h9 rfl ?_ hlt)
 have h2 : (List.range n).take a.length = a := by rw [h]; simp
 rw [<- h2, List.take_range, Nat.min_eq_left (by with_reducible exact Nat.le_of_lt ‹_›), List.length_range]
theorem uf : (Str.ofString ", ").cps.toList = [44, 32] := by kernel_rfl
theorem tw (n : Nat) (h : n < 2 ^ 64) : (l8 (n : Int)).length ≤ 100 := by
 rw [qS]
 have : (Nat.toDigits 16 n).length ≤ 16 := PySem.toDigits_len_pow (by decide) (by decide) (by with_reducible assumption)
 unfold hx
 simp only [List.length_append, List.length_cons, List.length_nil, List.length_map]
 with_reducible exact Om.pN (OfNat.ofNat _) ‹_› rfl
theorem v2 (n : Nat) (h : n < 2 ^ 64) : BM [dn n] = some (.str (l8 (n : Int))) := by
 have hl := tw n h
 unfold l8 at hl ⊢
 unfold dn BM l8
 dsimp only
 generalize PySem.baseText "0x" 16 (n : Int) = b at hl
 rw [if_pos]
 show b.cps.size ≤ 16777216
 rw [Array.length_toList] at hl
 with_reducible exact Om.lN (OfNat.ofNat _) ‹_› rfl
theorem qY (sep : List Nat) (h1 : ∀ l ∈ ls, l.length ≤ 200) (h2 : ls.length ≤ 1000) (h3 : sep.length ≤ 10) : mI sep (.list (ls.map .str)) = some (.str (iU sep ls)) := by
 rw [mI, oA, Option.bind_some, if_pos]
 have := ly (fun l : List Nat => l.length + sep.length) 210 ls fun l hl => by have := h1 l hl; with_reducible exact Om.aN (OfNat.ofNat _) (OfNat.ofNat _) ‹_› ‹_› rfl
 with_reducible exact Om.cM (OfNat.ofNat _) ‹_› ‹_› rfl
theorem uA (N : Nat) (h : N < 2 ^ 60) : (eQ N).length ≤ 33 /\ (∀ l ∈ eQ N, l.length ≤ 200) := by
 unfold eQ
 refine ⟨?_, fun l hl => ?_⟩
 . have := List.length_filter_le N.testBit (List.range 32)
   rw [List.length_range] at this
   rw [List.length_append, List.length_map]
   split <;> simp <;> (first | with_reducible assumption | with_reducible exact Om.lN (OfNat.ofNat _) ‹_› rfl)
 . rcases List.mem_append.mp hl with hl | hl
   . (refine ax (List.mem_map.mp hl) fun i hi q0 => ?_; subst q0)
     have := Hm (List.mem_range.mp (List.mem_filter.mp hi).1)
     with_reducible exact Om.lN (OfNat.ofNat _) ‹_› rfl
   . split at hl
     . cases hl
     . rw [List.mem_singleton] at hl
       subst hl
       have hb : N / 2 ^ 32 * 2 ^ 32 < 2 ^ 64 := Nat.lt_of_le_of_lt (Nat.div_mul_le_self N (2 ^ 32)) (Nat.lt_trans h (by decide))
       exact Nat.le_trans (tw _ hb) (by decide)
theorem mM {N i : Nat} (h : N / 2 ^ i = 0) : ∀ m, (List.range (i + m)).filter N.testBit = (List.range i).filter N.testBit
 | 0 => rfl
 | m + 1 => by
  rw [<- Nat.add_assoc, List.range_succ, List.filter_append, mM h m, List.filter_cons, p5 h (Nat.le_add_right i m)]
  simp
theorem tg (h : N / 2 ^ i = 0) (hi : i ≤ 32) : (List.range 32).filter N.testBit = (List.range i).filter N.testBit := by
 have := mM h (32 - i)
 rwa [Nat.add_sub_of_le hi] at this
theorem AY {k : af -> Option (Fl × af)} : seqF (some (.brk, ρ)) k = some (.brk, ρ) := rfl
theorem zJ (N : Nat) (h0 : 0 < N) (hN : N < 2 ^ 60) : iC [dn N] = some (.str (iU [44, 32] (eQ N))) := by
 refine Ok.fn (ρ := upd (fun _ => none) "flags" (dn N)) rfl ?_
 unfold iy
 dsimp only
 refine Ok.seqT (.eq (ρ := upd (upd (fun _ => none) "flags" (dn N)) "names" (.list [])) rfl ⟨rfl, ?_⟩)
 have hw := uA N hN
 have fin : ∀ ρ : af, ρ "names" = some (.list ((eQ N).map .str)) -> Ok (Mine.seqT (((((some (D.str (Str.ofString ", ").cps.toList)).bind wW).bind fun l => (ρ "names").bind fun y => mI l y).bind mO).bind fun d => some (Fl.ret d, ρ)) fun ρ => some (Fl.next, ρ)) fun f _ => f = .ret (.str (iU [44, 32] (eQ N))) := fun ρ hρ => by
  simp -implicitDefEqProofs only [Option.bind_some, ik, hρ, wW, uf, qY [44, 32] hw.2 (by with_reducible exact Om.cAN (OfNat.ofNat _) ‹_› rfl) (by decide), mO]
  exact .eq rfl rfl
 have er : ix [dn 32] = some ((List.range 32).map dn) := rfl
 refine Ok.seqT ?_
 simp -implicitDefEqProofs +decide only [eD, if_false, ai, Option.bind_some, fB, yT, er]
 refine Ok.forB (enc := dn) (fun a ρ => ρ "flags" = some (dn (N / 2 ^ a.length * 2 ^ a.length)) /\ ρ "names" = some (.list ((((List.range a.length).filter N.testBit).map nm).map .str)) /\ N / 2 ^ a.length ≠ 0) (List.range 32) rfl (h9 (by simp -implicitDefEqProofs +decide only [aj, ao, ne_eq, List.length_nil, Nat.reducePow]; simp) (by simp -implicitDefEqProofs +decide only [aj, List.length_nil]; rfl) (by simp; exact Nat.ne_zero_of_lt h0)) ?_ ?_
 . rintro a i b ρ e ⟨hf, hn, hz⟩
   refine n4 (AR e) fun hi ha hlt => ?_
   rw [<- hi] at hf hn hz
   have hp0 : 0 < 2 ^ i := Nat.pow_pos (by decide)
   have hsh : kt qQ (dn 1) (dn i) = some (dn (2 ^ i)) := by
    rw [Az (by decide) (by with_reducible exact Om.lE (OfNat.ofNat _) ‹_› rfl), Nat.one_mul]
   refine (bC (upd ρ "i" (dn i)) rfl ?_)
   have df : ((((List.range i).filter N.testBit).map nm).map D.str).length < 10000 := by
    have := List.length_filter_le N.testBit (List.range i)
    rw [List.length_range] at this
    rw [List.length_map, List.length_map]; lia
   have hF : ((bM.flags ((2 ^ i : Nat) : Int)).getD (.str (l8 ((2 ^ i : Nat) : Int)))) = .str (nm i) := MC hlt
   have h64 : 2 ^ i < 2 ^ 64 := Nat.pow_lt_pow_right (by decide) (by with_reducible exact Om.lS (OfNat.ofNat _) ‹_› rfl)
   have hal : (a ++ [i]).length = i + 1 := by rw [List.length_append, <- hi]; rfl
   refine Ok.seqF (.eq (ρ := upd (upd ρ "i" (dn i)) "flag" (dn (2 ^ i))) ?_ ⟨rfl, ?_⟩)
   . simp -implicitDefEqProofs +decide only [aj, ag, Option.bind_some, hsh]
   by_cases hb : N.testBit i = true
   . have A9 : (N / 2 ^ i * 2 ^ i) &&& 2 ^ i = 2 ^ i := by rw [vN, wF, if_pos hb]
     have hodd : N / 2 ^ i % 2 = 1 := by rw [ke] at hb; exact of_decide_eq_true hb
     have tA : N / 2 ^ i * 2 ^ i - 2 ^ i = N / 2 ^ (i + 1) * 2 ^ (i + 1) := by
      rw [LO, Nat.pow_succ]
      generalize N / 2 ^ i = q at hodd ⊢
      obtain ⟨r, rfl⟩ : ∃ r, q = 2 * r + 1 := ⟨q / 2, by lia⟩
      rw [show (2 * r + 1) / 2 = r by lia, Nat.add_mul, Nat.one_mul, Nat.add_sub_cancel, Nat.mul_comm 2 r, Nat.mul_assoc, Nat.mul_comm 2]
     have hnm : (((List.range (i + 1)).filter N.testBit).map nm).map D.str = (((List.range i).filter N.testBit).map nm).map D.str ++ [.str (nm i)] := by
      rw [List.range_succ, List.filter_append, List.filter_cons, if_pos hb]; simp
     have hx2 : kt GT (dn (N / 2 ^ i * 2 ^ i)) (dn (2 ^ i)) = some (dn (N / 2 ^ (i + 1) * 2 ^ (i + 1))) := by rw [MA _ _ A9, tA]
     have ht : eU (dn (2 ^ i)) = some true := by rw [m4, decide_eq_true (Nat.ne_zero_of_lt hp0)]
     have e1 : ((bM.flags ((2 ^ i : Nat) : Int)).getD (D.str (l8 ((2 ^ i : Nat) : Int)))) = .str (nm i) := hF
     by_cases BU : N / 2 ^ (i + 1) = 0
     . have ht2 : eU (dn (N / 2 ^ (i + 1) * 2 ^ (i + 1))) = some false := by rw [BU, Nat.zero_mul, m4]; rfl
       refine (kA .brk (upd (upd (upd (upd ρ "i" (dn i)) "flag" (dn (2 ^ i))) "names" (.list ((((List.range (i + 1)).filter N.testBit).map nm).map .str))) "flags" (dn (N / 2 ^ (i + 1) * 2 ^ (i + 1)))) ?_ (.inr (h9 rfl rfl ?_)))
       . simp -implicitDefEqProofs +decide only [aj, ao, ne_eq, if_true, ag, ai, Option.bind_some, Option.map_some, cN, hf, hn, tG, A9, ht, df, iW, v2 _ h64, e1, hnm, hx2, ht2, Bool.not_false, AY]
       . refine fin _ ?_
         have hw32 : N / 2 ^ 32 = 0 := by
          have : N < 2 ^ (i + 1) := by
           rcases Nat.lt_or_ge N (2 ^ (i + 1)) with c | c
           . exact c
           . have := Nat.div_pos c (Nat.pow_pos (by decide : 0 < 2)); lia
          exact Nat.div_eq_of_lt (Nat.lt_of_lt_of_le this (Nat.pow_le_pow_right (by decide) (Nat.succ_le_of_lt hlt)))
         have hwl : eQ N = ((List.range (i + 1)).filter N.testBit).map nm := by
          unfold eQ
          rw [tg BU (Nat.succ_le_of_lt hlt), if_pos hw32, List.append_nil]
         rw [hwl]
         simp -implicitDefEqProofs +decide only [aj, ao, ne_eq]
     . have ht2 : eU (dn (N / 2 ^ (i + 1) * 2 ^ (i + 1))) = some true := by
        rw [m4, decide_eq_true (Nat.mul_ne_zero BU (Nat.ne_of_gt (Nat.pow_pos (by decide : 0 < 2))))]
       refine (kA .next (upd (upd (upd (upd ρ "i" (dn i)) "flag" (dn (2 ^ i))) "names" (.list ((((List.range (i + 1)).filter N.testBit).map nm).map .str))) "flags" (dn (N / 2 ^ (i + 1) * 2 ^ (i + 1)))) ?_ (.inl (oE rfl ?_ ?_ ?_)))
       . simp -implicitDefEqProofs +decide only [aj, ao, ne_eq, if_true, if_false, ag, ai, Option.bind_some, Option.map_some, cN, hf, hn, tG, A9, ht, df, iW, v2 _ h64, e1, hnm, hx2, ht2, Bool.not_true]
       . rw [hal]; simp -implicitDefEqProofs +decide only [aj]
       . rw [hal]; simp -implicitDefEqProofs +decide only [aj, ao, ne_eq]
       . rw [hal]; exact BU
   . have hb' : N.testBit i = false := by simpa using hb
     have A9 : (N / 2 ^ i * 2 ^ i) &&& 2 ^ i = 0 := by rw [vN, wF, if_neg hb]
     have M0 : N / 2 ^ i % 2 = 0 := by rw [ke] at hb'; have := of_decide_eq_false hb'; with_reducible exact Om.m2 _ ‹_›
     have tA : N / 2 ^ i * 2 ^ i = N / 2 ^ (i + 1) * 2 ^ (i + 1) := by
      rw [LO, Nat.pow_succ]
      generalize N / 2 ^ i = q at M0 ⊢
      obtain ⟨r, rfl⟩ : ∃ r, q = 2 * r := ⟨q / 2, by lia⟩
      rw [show (2 * r) / 2 = r by lia, Nat.mul_comm 2 r, Nat.mul_assoc, Nat.mul_comm 2]
     have hnm : (((List.range (i + 1)).filter N.testBit).map nm).map D.str = (((List.range i).filter N.testBit).map nm).map D.str := by
      rw [List.range_succ, List.filter_append, List.filter_cons, if_neg hb]; simp
     have ht : eU (dn 0) = some false := by rw [m4]; rfl
     refine (kA .next (upd (upd ρ "i" (dn i)) "flag" (dn (2 ^ i))) ?_ (.inl (oE rfl ?_ ?_ ?_)))
     . simp -implicitDefEqProofs +decide only [aj, ao, ne_eq, if_false, ag, ai, Option.bind_some, cN, hf, tG, A9, ht]
     . rw [hal, <- tA]; simp -implicitDefEqProofs +decide only [ao, ne_eq, hf]
     . rw [hal, hnm]; simp -implicitDefEqProofs +decide only [ao, ne_eq, hn]
     . rw [hal]
       intro c
       rw [c, Nat.zero_mul] at tA
       exact (Nat.mul_ne_zero hz (Nat.ne_of_gt (Nat.pow_pos (by decide : 0 < 2)))) tA
 . rintro ρ ⟨hf, hn, hz⟩
   rw [List.length_range] at hf hn hz
   have hq : N / 2 ^ 32 * 2 ^ 32 < 2 ^ 64 := Nat.lt_of_le_of_lt (Nat.div_mul_le_self N (2 ^ 32)) (Nat.lt_trans hN (by decide))
   have df : ((((List.range 32).filter N.testBit).map nm).map D.str).length < 10000 := by
    have := List.length_filter_le N.testBit (List.range 32)
    rw [List.length_range] at this
    rw [List.length_map, List.length_map]; with_reducible exact Om.lL (OfNat.ofNat _) ‹_› rfl
   refine .eq (ρ := upd ρ "names" (.list ((eQ N).map .str))) ?_ ⟨rfl, fin _ (by simp -implicitDefEqProofs only [aj])⟩
   have hw : (eQ N).map D.str = (((List.range 32).filter N.testBit).map nm).map D.str ++ [.str (l8 ((N / 2 ^ 32 * 2 ^ 32 : Nat) : Int))] := by
    unfold eQ; rw [if_neg hz, List.map_append]; rfl
   generalize hQ : N / 2 ^ 32 * 2 ^ 32 = q at hf hq hw
   simp -implicitDefEqProofs only [if_true, ai, Option.bind_some, cN, hf, hn, df, v2 q hq, hw]
theorem O0 : (Str.ofString "00000000").cps.toList = List.replicate 8 48 := by kernel_rfl
theorem CJ : (Str.ofString "0123456789abcdef").cps.toList = [48, 49, 50, 51, 52, 53, 54, 55, 56, 57, 97, 98, 99, 100, 101, 102] := by kernel_rfl
noncomputable def hd (d : Nat) : Nat := [48, 49, 50, 51, 52, 53, 54, 55, 56, 57, 97, 98, 99, 100, 101, 102].getD d 0
theorem H9 : ((List.range 16).all fun d => hx d == [hd d]) = true := by kernel_rfl
theorem Af {d : Nat} (h : d < 16) : hx d = [hd d] := beq_iff_eq.mp (cx H9 h)
theorem GX {d : Nat} (h : d < 16) : [48, 49, 50, 51, 52, 53, 54, 55, 56, 57, 97, 98, 99, 100, 101, 102][d]? = some (hd d) := by
 unfold hd
 rw [List.getD_eq_getElem?_getD, List.getElem?_eq_getElem (show d < [48, 49, 50, 51, 52, 53, 54, 55, 56, 57, 97, 98, 99, 100, 101, 102].length from h)]; rfl
def kr (n : Nat) : List Nat := if n = 0 then [] else hx n
theorem Ag (h : n ≠ 0) : kr n = kr (n / 16) ++ [hd (n % 16)] := by
 unfold kr
 rw [if_neg h]
 by_cases c : n / 16 = 0
 . rw [if_pos c, List.nil_append, show n % 16 = n by lia, Af (by lia)]
 . rw [if_neg c]
   have := wg (n := n / 16) (d := n % 16) (by with_reducible exact Nat.pos_of_ne_zero ‹_›) (by with_reducible exact Om.md rfl rfl)
   rw [show 16 * (n / 16) + n % 16 = n by with_reducible exact Om.dm _ _, Af (Nat.mod_lt n (by decide))] at this
   exact this
theorem Bo (N : Nat) (h0 : 0 < N) (hN : N < 2 ^ 48) : iD [dn N, .list ((List.range 32).map fun i => .str (nm i))] = some (.str (iU [44, 32] (eQ N))) := by
 refine Ok.fn (ρ := upd (upd (fun _ => none) "number" (dn N)) "names" (.list ((List.range 32).map fun i => .str (nm i)))) rfl ?_
 unfold d_law_words
 dsimp only
 generalize hρ : upd (upd (fun _ => none) "number" (dn N)) "names" (.list ((List.range 32).map fun i => .str (nm i))) = aV
 have r0 : aV "number" = some (dn N) := by rw [<- hρ]; simp -implicitDefEqProofs +decide only [aj, ao, ne_eq]
 have r1 : aV "names" = some (.list ((List.range 32).map fun i => .str (nm i))) := by rw [<- hρ]; simp -implicitDefEqProofs only [aj]
 clear hρ
 refine Ok.seqT (.eq (ρ := upd (upd aV "figures" (.str (List.replicate 8 48))) "high" (dn (N / 2 ^ 32))) ?_ ⟨rfl, ?_⟩)
 . simp -implicitDefEqProofs +decide only [eD, if_true, if_false, ag, ai, od, Option.bind_some, fB, List.length_cons, List.length_nil, Nat.reduceAdd, Nat.reduceLeDiff, Nat.reducePow, r0, wm, O0, uD, dI, List.reverse_cons, List.reverse_nil, List.nil_append, List.cons_append]
 refine Ok.seqT (Ok.while (fun k ρ => ∃ mt figs, k + mt ≤ N / 2 ^ 32 /\ kr mt ++ figs = kr (N / 2 ^ 32) ++ List.replicate 8 48 /\ figs.length ≤ 8 + k /\ ρ "high" = some (dn mt) /\ ρ "figures" = some (.str figs) /\ ρ "number" = some (dn N) /\ ρ "names" = some (.list ((List.range 32).map fun i => .str (nm i)))) (N / 2 ^ 32) ?_ ?_ ?_)
 . refine (ma (N / 2 ^ 32) (List.replicate 8 48) (by simp +arith only) rfl (by simp) ?_ ?_ ?_ ?_) <;> simp -implicitDefEqProofs +decide only [aj, ao, ne_eq, Nat.reducePow, r0, r1]
 . have : N / 2 ^ 32 < 2 ^ 16 := by exact Nat.div_lt_of_lt_mul hN
   with_reducible exact Om.lS (_ ^ _) ‹_› rfl
 . rintro k ρ ⟨mt, figs, hk, he, hl, e1, e2, e3, e4⟩
   by_cases c : mt = 0
   . left
     refine ⟨?_, .eq rfl ⟨rfl, ?_⟩⟩
     . simp -implicitDefEqProofs only [ag, cB, Option.bind_some, fB, e1, My, jE]
       rw [decide_eq_false (Std.Rxo.size_eq_zero_iff_not_le.mp c)]
     . have hz : figs = kr (N / 2 ^ 32) ++ List.replicate 8 48 := by rw [<- he, c]; rfl
       have hb16 : N / 2 ^ 32 < 2 ^ 16 := by exact Nat.div_lt_of_lt_mul hN
       have hen : mH [.list ((List.range 32).map fun i => .str (nm i))] = some ((List.range 32).map fun i => .tup [dn i, .str (nm i)]) := rfl
       have ha : eW (.str [48, 120]) (.str figs) = some (.str ([48, 120] ++ figs)) := by
        (delta eW; dsimp only)
        rw [if_pos (by simp only [List.length_cons, List.length_nil]; lia)]
       have hsl : cg none (some ((N / 2 ^ 32 : Nat) : Int)) (.list [.str ([48, 120] ++ figs)]) = some (.list ([D.str ([48, 120] ++ figs)].take (N / 2 ^ 32))) := by
        (delta cg; simp only [iY])
        rw [if_pos (by simp)]
       have hw := uA N (Nat.lt_trans hN (by decide))
       have htk : ([D.str ([48, 120] ++ figs)].take (N / 2 ^ 32)) = (if N / 2 ^ 32 = 0 then [] else [l8 ((N / 2 ^ 32 * 2 ^ 32 : Nat) : Int)]).map D.str := by
        by_cases q : N / 2 ^ 32 = 0
        . rw [if_pos q, q]; rfl
        . rw [if_neg q, qS, show (2 : Nat) ^ 32 = 16 ^ 8 from by decide, tB (by with_reducible exact Nat.pos_of_ne_zero ‹_›), hz]
          unfold kr
          rw [show (16 : Nat) ^ 8 = 2 ^ 32 from by decide, if_neg q]
          obtain ⟨m, hm⟩ : ∃ m, N / 2 ^ 32 = m + 1 := ⟨N / 2 ^ 32 - 1, by exact Eq.symm (Nat.succ_pred_eq_of_ne_zero q)⟩
          rw [hm, List.take_succ_cons, List.take_nil]; rfl
       have hab : eW (.list (((List.range 32).filter N.testBit).map fun i => .str (nm i))) (.list ([D.str ([48, 120] ++ figs)].take (N / 2 ^ 32))) = some (.list ((eQ N).map .str)) := by
        have e : (eQ N).map D.str = (((List.range 32).filter N.testBit).map fun i => .str (nm i)) ++ ([D.str ([48, 120] ++ figs)].take (N / 2 ^ 32)) := by
         rw [htk]; unfold eQ; rw [List.map_append, List.map_map]; rfl
        have hl := congrArg List.length e
        rw [List.length_append, List.length_map] at hl
        (delta eW; dsimp only)
        rw [if_pos (by lia), e]
       have htr : eU (.list ((eQ N).map D.str)) = some true := by
        have hne : eQ N ≠ [] := by
         intro q
         unfold eQ at q
         refine Ea (List.append_eq_nil_iff.mp q) fun q1 q2 => ?_
         by_cases z : N / 2 ^ 32 = 0
         . obtain ⟨i, hi⟩ : ∃ i, N.testBit i = true := by
            refine Classical.byContradiction fun hno => ?_
            have : N = 0 := Nat.eq_of_testBit_eq fun i => by
             rw [Nat.zero_testBit]
             cases hb : N.testBit i
             . rfl
             . exact absurd ⟨i, hb⟩ hno
            with_reducible exact Om.zF ‹_› ‹_›
           have hi32 : i < 32 := by
            rcases Nat.lt_or_ge i 32 with c | c
            . exact c
            . rw [p5 z c] at hi; cases hi
           have : i ∈ (List.range 32).filter N.testBit := List.mem_filter.mpr ⟨List.mem_range.mpr hi32, hi⟩
           rw [List.map_eq_nil_iff.mp q1] at this
           cases this
         . rw [if_neg z] at q2; cases q2
        (delta eU; simp only [List.length_map])
        rw [if_pos (by with_reducible exact Om.cAS (OfNat.ofNat _) ‹_› rfl)]
        cases hq : eQ N with
        | nil => exact absurd hq hne
        | cons _ _ => rfl
       have hj := qY (ls := eQ N) [44, 32] hw.2 (by with_reducible exact Om.cAN (OfNat.ofNat _) ‹_› rfl) (by decide)
       simp -implicitDefEqProofs +decide only [bb, eD, if_true, if_false, ag, ai, uG, Option.bind_some, Option.map_some, fB, List.length_cons, List.length_nil, Nat.reduceAdd, Nat.reduceLeDiff, Nat.reducePow, wW, uf, e2, e3, e4, hen, DN, ha, wm, iW, hsl]
       rw [ev (enc := fun i => .tup [dn i, .str (nm i)]) (p := N.testBit) (out := fun i => [.str (nm i)])]
       . have hfl : (((List.range 32).filter N.testBit).map fun i => D.str (nm i)).length ≤ 16777216 := by
          have := List.length_filter_le N.testBit (List.range 32)
          rw [List.length_range] at this
          rw [List.length_map]; with_reducible exact Om.lN (OfNat.ofNat _) ‹_› rfl
         rw [fJ]
         simp -implicitDefEqProofs only [if_true, ag, Option.bind_some, Option.map_some, ik, yo, if_pos hfl, hab, htr, hj]
         exact .eq rfl rfl
       . intro i hi
         refine (cF _ rfl ?_ (fun _ => ?_))
         . simp -implicitDefEqProofs +decide only [eu, aj, ao, ne_eq, ag, Option.bind_some, e3, wm, tG, m4]
           rw [ke, Nat.and_one_is_mod]
           congr 1
           rcases Nat.mod_two_eq_zero_or_one (N / 2 ^ i) with h | h <;> rw [h] <;> rfl
         . simp -implicitDefEqProofs only [aj, Option.map_some]
   . right
     refine (h9 (by lia) ?_ ?_)
     . simp -implicitDefEqProofs only [ag, cB, Option.bind_some, fB, e1, My, jE]
       rw [decide_eq_true (by with_reducible exact Nat.pos_of_ne_zero ‹_›)]
     . have hd16 : mt % 16 < 16 := Nat.mod_lt _ (by decide)
       have hb16 : N / 2 ^ 32 < 2 ^ 16 := by exact Nat.div_lt_of_lt_mul hN
       have ad : eW (.str [hd (mt % 16)]) (.str figs) = some (.str (hd (mt % 16) :: figs)) := by
        (delta eW; dsimp only)
        rw [if_pos (by simp only [List.length_cons, List.length_nil]; lia)]
        rfl
       refine Ok.seqF (.eq (ρ := upd (upd ρ "figures" (.str (hd (mt % 16) :: figs))) "high" (dn (mt / 16))) ?_ ⟨rfl, .eq rfl (hZ rfl (mt / 16) (hd (mt % 16) :: figs) (by lia) ?_ ?_ ?_ ?_ ?_ ?_)⟩)
       . simp -implicitDefEqProofs +decide only [eD, if_true, if_false, ag, ai, od, Option.bind_some, Option.map_some, fB, List.length_cons, List.length_nil, Nat.reduceAdd, Nat.reduceLeDiff, e1, e2, kP _ 16 (by decide), f0 _ 16 (by decide), CJ, AA (show mt % 16 < 2 ^ 62 by with_reducible exact Om.lS (OfNat.ofNat _) ‹_› rfl), GX hd16, ad, uD, dI, List.reverse_cons, List.reverse_nil, List.nil_append, List.cons_append]
       . rw [<- he, Ag c, List.append_assoc]; rfl
       . simp only [List.length_cons]; exact Nat.add_le_add_right hl 1
       all_goals simp -implicitDefEqProofs +decide only [aj, ao, ne_eq, e3, e4]
def kp (t : Nat) : List Bool := match gB [dn t] with
 | some (.list ds) => (j6 ds).getD []
 | _ => []
def qX : Option D -> List Bool -> Bool
 | some (.list ds), l => match j6 ds with
  | some m => m == l
  | none => false
 | _, _ => false
noncomputable def Ms : Nat := 0xf594710bff10bff048a7000118602186021003b5
noncomputable def De : List (Nat × Nat × Nat × Nat) := [(2, 0x8012010012414418111115311c13c13a1aa1ac1cc1, 14, 65535), (128, 0xef7bf7ff7bd7dd7e777775377c73c73a7aa7ac7cc7, 14, 65535), (4, 0xa22ca2ac2cc2, 4, 5397), (2048, 0xabbcabacbccb, 4, 64512), (2049, 0x8eb0eb07b4db0db0bbabb3ab0abcab0cbacbccbcc0, 14, 65535), (12, 0xc93c83c13b22a225c2c43c23c03ca3cc3ca2ac2cc2, 14, 65535), (8193, 0x60d70db2da3de0ddcdb0dd0da0dc0dcadacdccdcc0, 14, 65535), (36, 0x9c58c51c5b22a225c24c52c50c5ac5cc5ca2ac2cc2, 14, 65535), (24, 0x1742b4c13c23c83c43c03a34ca45c4ac4cc4ca3cc3, 14, 65535), (16, 0x4c4ca4ac4cc4, 4, 5397), (8192, 0xdcdcadacdccd, 4, 64512), (516, 0x7091094092093a90a94c92c90c9ac9cc9ca2ac2cc2, 14, 65535), (264, 0xdb8e78c13c23c43c03c835383a85c83c8ac8ca3cc3, 14, 65535), (48, 0x9c52b41f48f4a344c42c54c50c5ac5cc5ca4ac4cc4, 14, 65535), (528, 0x1097092094093a90a92c94c90c9ac9cc9ca4ac4cc4, 14, 65535), (288, 0xdb8e781c52c54c50c58c55383a85c83c8ac8ac5cc5, 14, 65535), (2052, 0x2bbabbb22a22dc20abcab4cb0cbacbccbca2ac2cc2, 14, 65535), (2056, 0x17b2bbce3cd3c73cb3cf3a3bcab5cbacbccbca3cc3, 14, 65535), (8196, 0xb22a22dc232db2da2da0dc0dcadacdccdca2ac2cc2, 14, 65535), (32772, 0xe82f82f12d42f42f22a223a2fa2fc2ccfca2ac2cc2, 14, 65535), (8200, 0x71db2dc73cb3ce3cd3cf3a3dcad5cdacdccdca3cc3, 14, 65535), (16392, 0x42e81ec73cb3cd3cf3ce353e3ae5ce3ceaceca3cc3, 14, 65535), (2064, 0xabb1742b4ab44c40abcab4cb0cbacbccbca4ac4cc4, 14, 65535), (2080, 0x17b2bbec5dc57c5bc5fc5a3bcab5cbacbccbac5cc5, 14, 65535), (2112, 0x1f6df67f6bf6dc606b0abcab6cb0cbacbccbac6cc6, 14, 65535), (8, 0xca3cc3, 2, 5160), (64, 0xac6cc6, 2, 5185), (512, 0xac9cc9, 2, 38400), (513, 0x3a90a90c9ac9cc9cc0, 6, 38505), (68, 0x4c62c6ac6ca2ac2cc2, 6, 21845), (72, 0x5c63c6ac6cc6ca3cc3, 6, 38505), (8208, 0xef46f44c454dd4dc4da0dc0dcadacdccdca4ac4cc4, 14, 65535), (32784, 0x1f41742b4a348f42f44f4af4cf44c4ccfca4ac4cc4, 14, 65535), (8224, 0x71db2d7c5bc5ec5dc5fc5a3dcad5cdacdccdac5cc5, 14, 65535), (16416, 0x42e81e7c5bc5dc5fc5ec553e3ae5ce3ceaceac5cc5, 14, 65535), (8256, 0x4c6dc636dc6db0dd0d60da0dc0dcadacdccdac6cc6, 14, 65535), (768, 0xba98a98c9ac9cc9ac8, 6, 65280), (16388, 0xa2242eaceca2ac2cc2, 6, 21845), (80, 0x2c64c6ac6ca4ac4cc4, 6, 21845), (96, 0x5c63c6ac6cc6ac5cc5, 6, 38505), (2304, 0xabbdb8cabacbccbac8, 6, 65280), (2560, 0xbc9c9bcabacbac9cc9, 6, 65280), (9, 0xc03ca3cc3cc0, 4, 37929), (520, 0x5c93c9ac9cc9ca3cc3, 6, 38505), (16400, 0x4c424eaceca4ac4cc4, 6, 21845), (320, 0x2c66a86c8ac8ac6cc6, 6, 21845), (8448, 0xdcdbd8cadacdccdac8, 6, 65280), (8704, 0xbc9cad9cdacdac9cc9, 6, 65280), (0, 0x0, 0, 5120), (1, 0xcc0, 1, 5121), (32, 0xac5cc5, 2, 5160), (256, 0xac8, 1, 5376), (16384, 0xace, 1, 21504), (32768, 0xccf, 1, 37888), (33, 0xc5ac5cc5cc0, 4, 37929), (32776, 0xcf3ccfca3cc3, 4, 37929), (544, 0x5c93c9ac9cc9ac5cc5, 6, 38505), (576, 0x6c90c9ac9cc9ac6cc6, 6, 38505), (16448, 0x2a6ea6ec6aceac6cc6, 6, 21845), (32832, 0x3a6fa6fc6ccfac6cc6, 6, 38505), (16896, 0xbc99ae9ceaceac9cc9, 6, 65280), (257, 0xac8cc0, 2, 5377), (16385, 0xacecc0, 2, 21505), (32769, 0xccfcc0, 2, 37889), (32800, 0xfc5ccfac5cc5, 4, 37929), (16640, 0xaceac8, 2, 21760), (33024, 0xccfac8, 2, 38144), (49152, 0xccface, 2, 54272), (769, 0xe09d09b09809ba93a98a90a98c90c9ac9cc9ac8cc0, 14, 65535), (16641, 0xaceac8cc0, 3, 21761), (33025, 0xccfac8cc0, 3, 38145), (16897, 0x4a97a97c9bc953e9ae9ceace3a90a90c9ac9cc9cc0, 14, 65535), (49153, 0xccfacecc0, 3, 54273), (832, 0xba98a92c94c98c96c90c9ac9cc96a86c8ac8ac6cc6, 14, 65535), (33088, 0x986586386f863a6fa6fc62c6ccf6a86c8ac8ac6cc6, 14, 65535), (16960, 0x2a6ea6dc6ec636e9ae9ceace6c90c9ac9cc9ac6cc6, 14, 65535), (49216, 0x9e65e63e6fe63a62a6fa6ea6fc6ec6ccfaceac6cc6, 14, 65535), (49408, 0xccfaceac8, 3, 54528)]
def gt (t : Nat) : Nat := Ms / 2 ^ (10 * t) % 1024
theorem He : ((List.range 16).all fun t => qX (gB [dn t]) ((List.range 10).map (gt t).testBit)) = true := by kernel_rfl
theorem kW : ∀ {ds : List D} {l : List Bool}, j6 ds = some l -> ds = l.map .bool
 | [], _, h => by cases h; rfl
 | .bool b :: r, l, h => by
  unfold j6 at h
  (refine ax (omE h) fun m e q0 => ?_; subst q0)
  rw [kW e]; rfl
 | .none :: _, _, h | .int _ :: _, _, h | .str _ :: _, _, h | .list _ :: _, _, h | .tup _ :: _, _, h | .val _ :: _, _, h | .opq _ :: _, _, h => by simp [j6] at h
theorem vd {d : Option D} {l : List Bool} (h : qX d l = true) : d = some (.list (l.map .bool)) := by
 unfold qX at h
 split at h
 . split at h
   . rename_i e
     rw [kW e, beq_iff_eq.mp h]
   . cases h
 . cases h
theorem Al {t : Nat} (h : t < 16) : gB [dn t] = some (.list ((List.range 10).map fun p => .bool ((gt t).testBit p))) := by
 have := vd (cx He h)
 rw [List.map_map] at this
 exact this
theorem AM : ((List.range 16).all fun c => (List.range 16).all fun a => (List.range 16).all fun b => Nat.beq ((gt c &&& gt a &&& gt b) &&& gt (fk c a b)) (gt c &&& gt a &&& gt b)) = true := by kernel_rfl
theorem oa {a : Nat} (h : a ≤ 15) : a < 16 := Nat.lt_succ_of_le h
theorem pres {a b p : Nat} (hc : c ≤ 15) (ha : a ≤ 15) (hb : b ≤ 15) (h1 : (gt c).testBit p = true) (h2 : (gt a).testBit p = true) (h3 : (gt b).testBit p = true) : (gt (fk c a b)).testBit p = true := by
 have := congrArg (·.testBit p) (Nat.eq_of_beq_eq_true (cx (cx (cx AM (oa hc)) (oa ha)) (oa hb)))
 simpa only [Nat.testBit_and, h1, h2, h3, Bool.true_and] using this
theorem Bs.le (eC : ∀ it ∈ its, it.Ok) {t : Nat} (h : Bs its t) : t ≤ 15 := by
 induction h with
 | h => decide
 | p => decide
 | op hi _ _ a b => exact r9 (eC _ hi).le a b
theorem Bs.keep (eC : ∀ it ∈ its, it.Ok) {p t : Nat} (hp : p < 10) (hk : ∀ it ∈ its, (gt it.table).testBit p = true) (h : Bs its t) : (gt t).testBit p = true := by
 have z : ((List.range 10).all fun p => (gt 12).testBit p && (gt 10).testBit p) = true := by kernel_rfl
 have z := cx z hp
 rw [Bool.and_eq_true] at z
 induction h with
 | h => exact z.1
 | p => exact z.2
 | op hi x y a b => exact pres (eC _ hi).le (x.le eC) (y.le eC) (hk _ hi) a b
def PO : Nat -> Nat -> Nat -> Nat -> Nat
 | 0, _, _, m => m
 | n + 1, F, code, m => bif F.testBit (code % 16) && m.testBit (code / 16 % 16) && m.testBit (code / 256 % 16) then PO n F (code / 4096) (m ||| 2 ^ fk (code % 16) (code / 16 % 16) (code / 256 % 16)) else m
theorem zC {P : Nat -> Prop} {F : Nat} (hc : ∀ f a b, F.testBit f = true -> P a -> P b -> P (fk f a b)) : ∀ (n code m : Nat), (∀ t, m.testBit t = true -> P t) -> ∀ t, (PO n F code m).testBit t = true -> P t
 | 0, _, _, h, t, ht => h t ht
 | n + 1, code, m, h, t, ht => by
  unfold PO at ht
  cases e : F.testBit (code % 16) && m.testBit (code / 16 % 16) && m.testBit (code / 256 % 16) with
  | false => rw [e] at ht; exact h t ht
  | true =>
   rw [e] at ht
   simp only [Bool.and_eq_true] at e
   refine zC hc n _ _ (fun u hu => ?_) t ht
   rw [Nat.testBit_or, Bool.or_eq_true] at hu
   rcases hu with hu | hu
   . exact h u hu
   . rw [Nat.testBit_two_pow, decide_eq_true_eq] at hu
     exact hu ▸ hc _ _ _ e.1.1 (h _ e.1.2) (h _ e.2)
theorem x6 : (De.all fun c => Nat.beq (PO c.2.2.1 c.1 c.2.1 5120) c.2.2.2) = true := by kernel_rfl
def Do (T K : Nat) (c : Nat × Nat × Nat × Nat) : Bool := Nat.beq (c.1 &&& T) c.1 && (List.range 16).all fun t => !(Nat.beq (K &&& gt t) K) || c.2.2.2.testBit t
theorem x9 : ((List.range 16).all fun a => (List.range 16).all fun b => (List.range 16).all fun c => De.any (Do (2 ^ a ||| 2 ^ b ||| 2 ^ c) (gt a &&& gt b &&& gt c))) = true := by kernel_rfl
theorem BZ {K : Nat} (hK : K < 2 ^ 10) (h : ∀ p < 10, K.testBit p = true -> k.testBit p = true) : K &&& k = K := by
 apply Nat.eq_of_testBit_eq
 intro i
 rw [Nat.testBit_and]
 cases e : K.testBit i
 . rfl
 . rw [Bool.true_and]
   refine h i ?_ e
   rcases Nat.lt_or_ge i 10 with c | c
   . exact c
   . rw [Nat.testBit_lt_two_pow (Nat.lt_of_lt_of_le hK (Nat.pow_le_pow_right (by decide) c))] at e
     cases e
theorem Hd (t : Nat) : gt t < 2 ^ 10 := Nat.mod_lt _ (by decide)
theorem Dc {a b t : Nat} (h : (2 ^ a ||| 2 ^ b ||| 2 ^ c).testBit t = true) : t = a \/ t = b \/ t = c := by
 simp only [Nat.testBit_or, Nat.testBit_two_pow, Bool.or_eq_true, decide_eq_true_eq] at h
 rcases h with (h | h) | h
 . exact .inl h.symm
 . exact .inr (.inl h.symm)
 . exact .inr (.inr h.symm)
theorem yY {t : Nat} (h : Nat.testBit 5120 t = true) : t = 12 \/ t = 10 := by
 have : (5120 : Nat) = 2 ^ 12 ||| 2 ^ 10 ||| 2 ^ 10 := by decide
 rw [this] at h
 rcases Dc h with h | h | h
 . exact .inl h
 . exact .inr h
 . exact .inr h
theorem wu {P : Nat -> Prop} {a b : Nat} (ha : a ≤ 15) (hb : b ≤ 15) (hc : c ≤ 15) (h12 : P 12) (h10 : P 10) (cl : ∀ f, f = a \/ f = b \/ f = c -> ∀ x y, P x -> P y -> P (fk f x y)) {t : Nat} (ht : t < 16)
 (hk : ∀ p < 10, (gt a).testBit p = true -> (gt b).testBit p = true -> (gt c).testBit p = true -> (gt t).testBit p = true) : P t := by
 refine ax (List.any_eq_true.mp (cx (cx (cx x9 (oa ha)) (oa hb)) (oa hc))) fun r hr hf => ?_
 unfold Do at hf
 rw [Bool.and_eq_true] at hf
 have hs := Nat.eq_of_beq_eq_true hf.1
 have hR := Nat.eq_of_beq_eq_true (List.all_eq_true.mp x6 r hr)
 have hK : (gt a &&& gt b &&& gt c) &&& gt t = gt a &&& gt b &&& gt c := BZ (Nat.lt_of_le_of_lt Nat.and_le_right (Hd c)) fun p hp h => by
  simp only [Nat.testBit_and, Bool.and_eq_true] at h
  exact hk p hp h.1.1 h.1.2 h.2
 have := cx hf.2 ht
 rw [hK, Nat.beq_refl, Bool.not_true, Bool.false_or, <- hR] at this
 refine zC (fun f x y h hx hy => cl f ?_ x y hx hy) _ _ _ (fun u hu => ?_) t this
 . have h2 := congrArg (·.testBit f) hs
   simp only [Nat.testBit_and, h, Bool.true_and] at h2
   exact Dc h2
 . rcases yY hu with rfl | rfl
   . exact h12
   . exact h10
theorem xx : ((List.range 16).all fun a => (List.range 16).all fun b => Nat.beq (fk 12 a b) a) = true := by kernel_rfl
theorem AL (eC : ∀ it ∈ its, it.Ok) (hn : its.length ≤ 3) {known : List Nat} (y : uC its known rows) (cl : qe its known) {t : Nat} (ht : t < 16) :
 t ∈ known ↔ ∀ p < 10, (∀ it ∈ its, (gt it.table).testBit p = true) -> (gt t).testBit p = true := by
 refine ⟨fun h p hp hk => (y.gen t h).keep eC hp hk, fun h => ?_⟩
 have h12 : 12 ∈ known := List.mem_of_getElem? y.k0
 have h10 : 10 ∈ known := List.mem_of_getElem? y.k1
 rcases its with _ | ⟨i, _ | ⟨j, _ | ⟨k, _ | ⟨_, _⟩⟩⟩⟩
 . skip
   refine wu (P := (· ∈ known)) (a := 12) (b := 12) (c := 12) (by decide) (by decide) (by decide) h12 h10 (fun f hf a b ha hb => ?_) ht fun p hp _ _ _ => h p hp fun _ q => by cases q
   have : f = 12 := by rcases hf with q | q | q <;> exact q
   rw [this, Nat.eq_of_beq_eq_true (cx (cx xx (oa (y.le a ha))) (oa (y.le b hb)))]
   exact ha
 . skip
   have oi := (eC i (by simp)).le
   refine wu (P := (· ∈ known)) (a := i.table) (b := i.table) (c := i.table) oi oi oi h12 h10 (fun f hf a b ha hb => ?_) ht fun p hp h1 _ _ => h p hp fun j q => by rw [List.mem_singleton.mp q]; exact h1
   have : f = i.table := by rcases hf with q | q | q <;> exact q
   rw [this]; exact cl i (by simp) a ha b hb
 . skip
   have oi := (eC i (by simp)).le
   have oj := (eC j (by simp)).le
   refine wu (P := (· ∈ known)) (a := i.table) (b := j.table) (c := j.table) oi oj oj h12 h10 (fun f hf a b ha hb => ?_) ht fun p hp h1 h2 _ => h p hp fun k q => ?_
   . rcases hf with q | q | q
     . rw [q]; exact cl i (by simp) a ha b hb
     . rw [q]; exact cl j (by simp) a ha b hb
     . rw [q]; exact cl j (by simp) a ha b hb
   . rcases List.mem_cons.mp q with rfl | q
     . exact h1
     . rw [List.mem_singleton.mp q]; exact h2
 . skip
   have oi := (eC i (by simp)).le
   have oj := (eC j (by simp)).le
   have ok := (eC k (by simp)).le
   refine wu (P := (· ∈ known)) (a := i.table) (b := j.table) (c := k.table) oi oj ok h12 h10 (fun f hf a b ha hb => ?_) ht fun p hp h1 h2 h3 => h p hp fun m q => ?_
   . rcases hf with q | q | q
     . rw [q]; exact cl i (by simp) a ha b hb
     . rw [q]; exact cl j (by simp) a ha b hb
     . rw [q]; exact cl k (by simp) a ha b hb
   . rcases List.mem_cons.mp q with rfl | q
     . exact h1
     . rcases List.mem_cons.mp q with rfl | q
       . exact h2
       . rw [List.mem_singleton.mp q]; exact h3
 . exact absurd hn (by simp)
theorem Mq {l : List Bool} (h : jd c = some l) : eM [dn c] = some (.list (l.map .bool)) := by
 unfold jd at h
 split at h
 . rename_i e; rw [e, kW h]
 . exact nS h
def jl (c : Nat) : List Bool := (jd c).getD []
structure Jd (c : Nat) : Prop where
 len : (jl c).length = 6
 eq : eM [dn c] = some (.list ((jl c).map .bool))
theorem Dw {l : List Bool} (h : jd c = some l) (hl : l.length = 6) : Jd c := by
 have : jl c = l := by unfold jl; rw [h]; rfl
 exact ⟨by rw [this]; exact hl, by rw [this]; exact Mq h⟩
theorem I7 (h : six (jd c) = true) : Jd c := by
 cases e : jd c with
 | none => rw [e] at h; cases h
 | some l => rw [e] at h; exact Dw e (Nat.eq_of_beq_eq_true h)
structure yN (p : Nat × List Nat) : Prop where
 jd : Jd p.1
 h1 : (jl p.1).getD 0 false = true -> p.2 = []
 h2 : (jl p.1).getD 0 false = false -> (jl p.1).any id = true -> p.2 = [63]
 h3 : (jl p.1).any id = false -> nU [.str [p.1]] = some (.str p.2)
 bar : oK (jl p.1) = true -> p.1 ∈ cf
 lt : p.1 < 1114112
theorem vO {l : List Bool} (h : l.getD 0 false = false) : l.any id = oK l := by
 cases l with
 | nil => rfl
 | cons a l => have h : a = false := h; subst h; rfl
theorem yQ {l : List Bool} (h : l.any id = false) : l.getD 0 false = false := by
 cases l with
 | nil => rfl
 | cons a l => exact (Bool.or_eq_false_iff.mp h).1
theorem rd {p : Nat × List Nat} (h : p ∈ d7) : yN p := by
 have h : iF p = true := List.all_eq_true.mp xD p h
 delta iF at h
 cases hj : jd p.1 with
 | none => rw [hj] at h; cases h
 | some l =>
  rw [hj] at h
  have hl : jl p.1 = l := by unfold jl; rw [hj]; rfl
  obtain ⟨h0, hp⟩ := (Bool.and_eq_true _ _).mp h
  obtain ⟨hq, h3⟩ := (Bool.and_eq_true _ _).mp hp
  obtain ⟨h1, h2⟩ := (Bool.and_eq_true _ _).mp hq
  have lt : p.1 < 1114112 := by have := h3; simp [Nat.blt] at this; with_reducible exact Om.lL (OfNat.ofNat _) ‹_› rfl
  refine ⟨Dw hj (Nat.eq_of_beq_eq_true h0), ?_, ?_, ?_, ?_, lt⟩
  . intro ha
    rw [hl] at ha
    rw [ha] at h1
    exact beq_iff_eq.mp h1
  . intro ha hb
    rw [hl] at ha hb
    rw [ha, <- vO ha, hb] at h1
    exact beq_iff_eq.mp h1
  . intro hb
    rw [hl] at hb
    rw [yQ hb, <- vO (yQ hb), hb] at h1
    exact uh h1
  . intro hb
    rw [hl] at hb
    rw [hb] at h2
    simpa using h2
theorem sx (h : c ∈ cf) : (c, [63]) ∈ d7 := by
 refine Ex (List.mem_iff_getElem?.mp h) fun i hi => ?_
 exact m6 hi
theorem oZ (h : c ∈ cf) : 1 ≤ c /\ Jd (c - 1) /\ Jd ((c + 1) % 1114112) := by
 have h := List.all_eq_true.mp uL c h
 simp only [Bool.and_eq_true, Bool.or_eq_true] at h
 have one : ∀ x : Nat, cf.contains x = true \/ qM.contains x = true -> Jd x := fun x hx => by
  rcases hx with hx | hx
  . exact (rd (sx (List.contains_iff_mem.mp hx))).jd
  . exact I7 (List.all_eq_true.mp xi x (List.contains_iff_mem.mp hx))
 exact (h9 (Nat.le_of_ble_eq_true h.1.1) (one _ h.1.2) (one _ h.2))
theorem CG (eC : ∀ it ∈ its, it.Ok) {t : Nat} (h : kB its row t) : ∀ s ∈ row, ju s := by
 induction h with
 | h => intro s hs; rw [List.mem_singleton.mp hs]; exact .inr ⟨by decide, by decide⟩
 | p => intro s hs; rw [List.mem_singleton.mp hs]; exact .inr ⟨by decide, by decide⟩
 | @op i aB ek kG n9 hi a b iha ihb =>
  intro s hs
  have hn := eC i hi
  rcases List.mem_append.mp hs with hs | hs
  . rcases List.mem_cons.mp hs with rfl | hs
    . exact .inl ⟨hn.lo, hn.hi⟩
    . exact iha s hs
  . exact ihb s hs
theorem Ah {i : It} (h : i.Ok) : ∀ s ∈ fP i, ju s := by
 intro s hs
 have h0 := h.l0
 have h1 := h.l1
 unfold fP at hs
 rcases List.mem_append.mp hs with hs | hs
 . simp only [List.mem_cons, List.not_mem_nil, or_false] at hs
   rcases hs with rfl | rfl | rfl
   . exact .inl ⟨h.lo, h.hi⟩
   . exact .inr ⟨by simp +arith only, by with_reducible exact Om.pS (OfNat.ofNat _) ‹_› rfl⟩
   . exact .inr ⟨by simp +arith only, by with_reducible exact Om.pS (OfNat.ofNat _) ‹_› rfl⟩
 . rw [(List.mem_replicate.mp hs).2]; exact .inr ⟨by decide, by decide⟩
theorem xq {i : It} (h : i.Ok) : (fP i).length ≤ 4 := by
 have := h.bar
 unfold fP
 simp only [List.length_append, List.length_cons, List.length_nil, List.length_replicate]
 with_reducible exact Om.pL (OfNat.ofNat _) ‹_› rfl
theorem wE : ∀ (codes : List Nat) (k : Nat), ((((codes.zipIdx k).map fun p => ie p.2 p.1).zipIdx k).flatMap fun q => q.1.map fun b => b + 128 * (q.2 % 2)) = cj k codes
 | [], _ => rfl
 | c :: r, k => by
  rw [List.zipIdx_cons, List.map_cons, List.zipIdx_cons, List.flatMap_cons, wE r (k + 1)]
  rfl
theorem Cq {p b : Nat} (h : b ∈ ie p c) : b < 128 := by
 unfold ie at h
 rcases List.mem_append.mp h with h | h
 . (refine ax (kg h) fun d hd q0 => ?_; subst q0); with_reducible exact Om.pS (OfNat.ofNat _) ‹_› rfl
 . rw [List.mem_singleton.mp h]
   have := Nat.mod_lt c (show 0 < 64 by decide)
   with_reducible exact Om.lS (OfNat.ofNat _) ‹_› rfl
theorem rz : ∀ (codes : List Nat) (k : Nat), ∀ b ∈ cj k codes, b < 256
 | [], _, b, h => by cases h
 | c :: r, k, b, h => by
  rw [cj] at h
  rcases List.mem_append.mp h with h | h
  . (refine ax (List.mem_map.mp h) fun x hx q0 => ?_; subst q0)
    have := Cq hx
    lia
  . exact rz r (k + 1) b h
theorem AH (p c : Nat) : 1 ≤ (ie p c).length /\ (ie p c).length ≤ 7 := by
 have := kj p c
 unfold ie
 rw [List.length_append, List.length_singleton]
 lia
theorem jY : ∀ (codes : List Nat) (k : Nat), codes.length ≤ (cj k codes).length /\ (cj k codes).length ≤ 7 * codes.length
 | [], _ => ⟨Nat.le_refl _, Nat.le_refl _⟩
 | c :: r, k => by
  have h1 := jY r (k + 1)
  have h2 := AH k c
  rw [cj, List.length_append, List.length_map, List.length_cons]
  lia
theorem mu : ∀ l : List Nat, iS (l.map dn) = some (l.map fun (n : Nat) => (n : Int))
 | [] => rfl
 | a :: l => by rw [List.map_cons, dn, iS, mu l]; rfl
theorem sX {out : List Int} (h : ∀ b ∈ l, b < 256) (hl : l.length ≤ 9000) (hr : ej (l.length + 1) l [] = some out) : mJ (.list (l.map dn)) = some out := by
 rw [mJ, mu, Option.bind_some, if_pos, List.length_map, C2 h]
 . exact hr
 . rw [List.length_map]
   refine ⟨List.all_eq_true.mpr fun n hn => ?_, hl⟩
   (refine ax (List.mem_map.mp hn) fun b hb q0 => ?_; subst q0)
   have := h b hb
   simp only [Bool.and_eq_true, decide_eq_true_eq]
   lia
theorem xc (h : ∀ c ∈ codes, c < 16777216) (hl : codes.length ≤ 1000) : mJ (.list ((cj 0 codes).map dn)) = some (codes.map fun (c : Nat) => (c : Int)) := by
 have := jY codes 0
 refine sX (rz codes 0) (Om.cM 1000 this.right hl rfl) ?_
 exact u0 codes 0 _ [] h (Nat.lt_succ_of_le this.left)
theorem xd (h0 : codes ≠ []) (h : ∀ c ∈ codes, c < 16777216) (hl : codes.length ≤ 1000) : mJ (.list ((cj 0 codes).dropLast.map dn)) = some (codes.dropLast.map fun (c : Nat) => (c : Int)) := by
 have := jY codes 0
 have hp := List.length_pos_iff.mpr h0
 refine sX (fun b hb => rz codes 0 b (List.dropLast_subset _ hb)) (by rw [List.length_dropLast]; lia) ?_
 rw [List.length_dropLast]
 exact u3 codes 0 _ [] h0 h (by lia)
theorem ud {α : Type} (l : List α) : slc none (some (-1)) l = l.dropLast := by
 unfold slc wY
 have e : (max 0 (min (if (-1 : Int) < 0 then (-1 : Int) + (l.length : Int) else -1) (l.length : Int))).toNat = l.length - 1 := by
  rw [if_pos (by decide)]; exact Om.sin _
 simp only [e, List.drop_zero, Nat.sub_zero]
 rw [List.dropLast_eq_take]
theorem CP (i : Int) : kN [.int i] = some (.bool (decide (i < 256))) := by
 refine Ok.fn (ρ := upd (fun _ => none) "x" (.int i)) rfl ?_
 unfold jO
 dsimp only
 exact .eq rfl rfl
theorem C3 (i : Int) : kM [.int i] = some (.bool (decide (256 ≤ i))) := by
 refine Ok.fn (ρ := upd (fun _ => none) "x" (.int i)) rfl ?_
 unfold i2
 dsimp only
 exact .eq rfl rfl
theorem eq0 (i j : Int) : oN (.int i) (.int j) = some (.bool (decide (i = j))) := by
 unfold oN; rw [if_pos ⟨(qP i 0).sh (by decide), (qP j 0).sh (by decide)⟩]
 rfl
theorem GK (i : Int) : oQ [.int i] = some (.bool (decide (i = 0))) := by
 refine Ok.fn (ρ := upd (fun _ => none) "x" (.int i)) rfl ?_
 unfold uR
 dsimp only
 simp -implicitDefEqProofs only [aj, eD, if_false, ag, fB, show bM.endM = 0 from rfl]
 exact .eq rfl rfl
theorem zP (i : Int) (k : Nat) : oD (k + 1) (di i) := BR fun x hx => by
 simp only [List.mem_cons, List.not_mem_nil, or_false] at hx
 rcases hx with rfl | rfl | rfl <;> exact nN _ k
theorem zM (l : List Int) (k : Nat) : oD (k + 1) (.list (l.map .int)) := jT fun x hx => by
 (refine ax (List.mem_map.mp hx) fun a _ q0 => ?_; subst q0)
 exact qP a k
theorem ko (l : List Bool) (k : Nat) : oD (k + 1) (.list (l.map .bool)) := jT fun x hx => by
 (refine ax (List.mem_map.mp hx) fun a _ q0 => ?_; subst q0)
 exact nN a k
theorem p7 {l : List Bool} (h : l ≠ []) : uF (.list (l.map .bool)) (.list []) = false := by
 cases l with
 | nil => exact absurd rfl h
 | cons b r => simp [uF, dw, g9, PyData.eqv, PyData.eqvAll]
theorem zE (a b : Bool) : uF (.bool a) (.bool b) = (a == b) := by
 simp [uF, dw, PyData.eqv]
theorem yR (l : List Bool) : ((l.map D.bool).any fun y => uF y (.bool true)) = l.any id := by
 induction l with
 | nil => rfl
 | cons a l ih =>
  rw [List.map_cons, List.any_cons, ih, zE, List.any_cons]
  cases a <;> rfl
theorem wh (l : List Bool) : sW (.bool true) (.list (l.map .bool)) = some (.bool (l.any id)) := by
 unfold sW KR
 simp only []
 rw [if_pos ⟨(nN true 0).sh (by decide), (ko l 0).sh (by decide)⟩, yR]
theorem sz : ∀ l : List Bool, mf (l.map .bool) = some l
 | [] => rfl
 | a :: l => by rw [List.map_cons, mf, sz l]; rfl
theorem qy (l : List Bool) : BK [.list (l.map .bool)] = some (.bool (l.all id)) := by
 rw [BK, sz]; rfl
theorem uo : ∀ l : List Nat, (l.map fun (n : Nat) => (n : Int)).sum = ((l.sum : Nat) : Int)
 | [] => rfl
 | a :: l => by rw [List.map_cons, List.sum_cons, uo l, List.sum_cons]; exact Int.ofNat_add_ofNat a l.sum
theorem B7 (l : List Nat) : BP [.list (l.map dn)] = some (dn l.sum) := by
 rw [BP, mu, Option.map_some, uo]; rfl
noncomputable def bY (ρ : af) : List String -> List D -> Prop
 | x :: xs, d :: ds => ρ x = some d /\ bY ρ xs ds
 | _, _ => True
theorem bY.upd {ρ : af} {x : String} {d : D} : ∀ {xs : List String} {ds : List D}, bY ρ xs ds -> xs.contains x = false -> bY (upd ρ x d) xs ds
 | [], _, _, _ => trivial
 | _ :: _, [], _, _ => trivial
 | y :: xs, e :: ds, h, hx => by
  rw [List.contains_cons, Bool.or_eq_false_iff] at hx
  exact ⟨(ao (by simpa using hx.1)).trans h.1, bY.upd h.2 hx.2⟩
theorem bY.set {x : String} {d : D} {xs : List String} (h : bY ρ xs ds) (hx : xs.contains x = false) : bY (Mine.upd ρ x d) (x :: xs) (d :: ds) := ⟨aj, h.upd hx⟩
theorem Ok.step {k : af -> Option (Fl × af)} (P : af -> Prop) (h : Ok r fun f ρ => f = .next /\ P ρ) (hk : ∀ ρ, P ρ -> Ok (k ρ) Q) : Ok (Mine.seqT r k) Q := by
 (refine bk h fun f ρ q0 q1 p => ?_; clear h; subst q0 q1)
 exact hk ρ p
theorem Ok.set {k : af -> Option (Fl × af)} {xs : List String} (K : bY ρ xs ds) (x : String) (d : D) (hr : r = some (.next, upd ρ x d)) (hx : xs.contains x = false)
 (h : ∀ ρ, bY ρ (x :: xs) (d :: ds) -> Ok (k ρ) Q) : Ok (Mine.seqT r k) Q := by
 subst hr; exact h _ (K.set hx)
theorem Ok.set2 {k : af -> Option (Fl × af)} {xs : List String} (K : bY ρ xs ds) (x y : String) (d e : D) (hr : r = some (.next, upd (upd ρ x d) y e)) (hx : xs.contains x = false) (hy : (x :: xs).contains y = false)
 (h : ∀ ρ, bY ρ (y :: x :: xs) (e :: d :: ds) -> Ok (k ρ) Q) : Ok (Mine.seqT r k) Q := by
 subst hr; exact h _ ((K.set hx).set hy)
theorem Ok.set3 {k : af -> Option (Fl × af)} {xs : List String} (K : bY ρ xs ds) (x y z : String) (d e f : D) (hr : r = some (.next, upd (upd (upd ρ x d) y e) z f)) (hx : xs.contains x = false) (hy : (x :: xs).contains y = false) (hz : (y :: x :: xs).contains z = false)
 (h : ∀ ρ, bY ρ (z :: y :: x :: xs) (f :: e :: d :: ds) -> Ok (k ρ) Q) : Ok (Mine.seqT r k) Q := by
 subst hr; exact h _ (((K.set hx).set hy).set hz)
theorem jU (h : i < l.length) : l[i]? = some (l.getD i 0) := by
 rw [List.getD_eq_getElem?_getD, List.getElem?_eq_getElem h]; rfl
theorem dL {l : List D} (h : l.length ≤ 16777216) : yo l = some l := if_pos h
theorem pl {l : List D} (h : l.length < 16777216) : il [.list l] = some (dn l.length) := by
 (delta il; simp only [if_pos h]); rfl
theorem iL {a b : List D} (h : a.length + b.length ≤ 16777216) : eW (.list a) (.list b) = some (.list (a ++ b)) := by
 (delta eW; simp only [if_pos h])
def gC (r : List Nat) : D := .list (r.map dn)
noncomputable def lu (goal : Nat) (known : List Nat) (rows : List (List Nat)) : List (List Nat) := ((known.zip rows).filter fun p => decide (p.1 = goal) && decide (p.2.length < 20)).map (·.2)
theorem uB {known : List Nat} (y : uC its known rows) {p : Nat × List Nat} (h : p ∈ known.zip rows) : kB its p.2 p.1 /\ p.2.length < 2 ^ 17 := by
 obtain ⟨i, hi, rfl⟩ := List.mem_iff_getElem.mp h
 rw [List.length_zip] at hi
 have h1 : i < known.length := by exact Nat.lt_of_lt_of_le hi (Nat.min_le_left _ _)
 have h2 : i < rows.length := by exact Nat.lt_of_lt_of_le hi (Nat.min_le_right _ _)
 rw [List.getElem_zip]
 have := y.sent i rows[i] known[i] (List.getElem?_eq_getElem h2) (List.getElem?_eq_getElem h1)
 refine ⟨this.1, Nat.lt_of_lt_of_le this.2 (Nat.pow_le_pow_right (by decide) ?_)⟩
 have := y.lt
 exact Nat.le_trans (Nat.lt_of_lt_of_le h1 this) (by decide)
theorem CF {known : List Nat} (y : uC its known rows) (goal : Nat) : ∀ r ∈ lu goal known rows, kB its r goal /\ r.length < 20 := by
 intro r hr
 (refine ax (List.mem_map.mp hr) fun p hp q0 => ?_; subst q0)
 have hp := List.mem_filter.mp hp
 simp only [Bool.and_eq_true, decide_eq_true_eq] at hp
 have := (uB y hp.1).1
 rw [hp.2.1] at this
 exact ⟨this, hp.2.2⟩
theorem wP {goal : Nat} {q : Nat × List Nat -> Bool} : ∀ {known : List Nat} {rows : List (List Nat)}, known.Nodup -> ((known.zip rows).filter fun p => decide (p.1 = goal) && q p).length ≤ 1
 | [], _, _ => by simp
 | _ :: _, [], _ => by simp
 | k :: known, r :: rows, h => by
  refine Ea (List.nodup_cons.mp h) fun h1 h2 => ?_
  rw [List.zip_cons_cons, List.filter_cons]
  split
  . rename_i c
    simp only [Bool.and_eq_true, decide_eq_true_eq] at c
    have : (known.zip rows).filter (fun p => decide (p.1 = goal) && q p) = [] := by
     rw [List.filter_eq_nil_iff]
     intro p hp e
     simp only [Bool.and_eq_true, decide_eq_true_eq] at e
     have := (List.of_mem_zip (show (p.1, p.2) ∈ known.zip rows from hp)).1
     rw [e.1, <- c.1] at this
     exact h1 this
    rw [this]; exact Nat.le_refl _
  . exact wP h2
theorem AV {known : List Nat} (y : uC its known rows) (goal : Nat) : (lu goal known rows).length ≤ 1 := by
 unfold lu
 rw [List.length_map]
 exact wP y.nodup
theorem kf {α : Type} {enc : α -> D} {out : α -> List D} {t : Expr} {g : af -> Option (List D)} (l : List α)
 (h : ∀ x ∈ l, ∃ ρ, iM t (enc x) aV = some ρ /\ test ρ = some true /\ g ρ = some (out x)) : ip t test g aV (l.map enc) = some (l.flatMap out) := by
 rw [ev (p := fun _ => true) (out := out) l fun x hx => let ⟨ρ, a, b, c⟩ := h x hx; ⟨ρ, a, b, fun _ => c⟩]
 congr 2
 exact List.filter_eq_self.mpr fun _ _ => rfl
theorem mul_one {d : D} {b : Nat} (h : b ≤ 1000) : BO (.list [d]) (dn b) = some (.list (List.replicate b d)) := by
 show (if (0 : Int) ≤ b /\ (b : Int) ≤ 1000 /\ [d].length ≤ 1000 then _ else _) = _
 rw [if_pos (h9 (by with_reducible exact Int.natCast_nonneg _) (by with_reducible exact Om.iE (OfNat.ofNat _) ‹_› (by decide)) (by simp)), Int.toNat_natCast]
 congr 2
 unfold fI
 induction b with
 | zero => rfl
 | succ b ih => rw [List.replicate_succ, List.flatten_cons, ih (by ((with_reducible refine Om.em ‹_› ?_); simp +arith only))]; rfl
theorem xL (ls : List (List Nat)) : (ls.flatMap fun r => r.map dn) = ls.flatten.map dn := by
 induction ls with
 | nil => rfl
 | cons a l ih => rw [List.flatMap_cons, ih, List.flatten_cons, List.map_append]
def gQ (eH : List (List Nat)) (its : List It) : List Nat := (eH ++ its.map fP).flatten
theorem nM {k : Nat} : ∀ {ls : List (List Nat)}, (∀ l ∈ ls, l.length ≤ k) -> ls.flatten.length ≤ k * ls.length
 | [], _ => by simp
 | a :: ls, h => by
  have h1 := h a (.head _)
  have h2 := nM (ls := ls) fun l hl => h l (.tail _ hl)
  rw [List.flatten_cons, List.length_append, List.length_cons, Nat.mul_succ]
  exact Om.x1 h2 h1
theorem zB (eC : ∀ it ∈ its, it.Ok) (h1 : 1 ≤ its.length) (h3 : its.length ≤ 3) (mR : ∀ it ∈ its0, it.Ok) {eH : List (List Nat)} (hs : ∀ r ∈ eH, kB its0 r goal /\ r.length < 20) (hl : eH.length ≤ 1) :
 (∀ s ∈ gQ eH its, ju s) /\ (gQ eH its).length ≤ 32 /\ gQ eH its ≠ [] := by
 unfold gQ
 rw [List.flatten_append]
 refine (h9 (fun s h => ?_) ?_ ?_)
 . rcases List.mem_append.mp h with h | h
   . refine ax (List.mem_flatten.mp h) fun r hr h => ?_
     exact CG mR (hs r hr).1 s h
   . refine ax (List.mem_flatten.mp h) fun r hr h => ?_
     (refine ax (List.mem_map.mp hr) fun i hi q0 => ?_; subst q0)
     exact Ah (eC i hi) s h
 . have a := nM (k := 19) (ls := eH) fun l h => by have := (hs l h).2; with_reducible exact Om.lE (OfNat.ofNat _) ‹_› rfl
   have b := nM (k := 4) (ls := its.map fP) fun l h => by
    (refine ax (List.mem_map.mp h) fun i hi q0 => ?_; subst q0)
    exact xq (eC i hi)
   rw [List.length_map] at b
   rw [List.length_append]
   lia
 . cases its with
   | nil => cases h1
   | cons i r => simp [fP]
theorem o8 (its : List It) : me (.list (its.map It.d)) = some (its.map It.d) := by
 (delta me; dsimp only)
 rw [if_pos (by rw [List.all_map, List.all_eq_true]; intro x _; rfl)]
theorem Co {p : Nat} : List.replicate (p % 5 / 4 * 3) (dn 64) ++ ([3, 2, 1].filter fun d => decide (64 ^ d ≤ c)).map (fun d => dn (64 + c / 64 ^ d % 64)) ++ [dn (c % 64)] = (ie p c).map dn := by
 unfold ie gE
 rw [List.map_append, List.map_append, List.map_replicate, List.map_map]
 rfl
theorem LD (c : Nat) : ([3, 2, 1].filter fun d => decide (64 ^ d ≤ c)).length ≤ 3 := List.length_filter_le _ _
theorem Ok.same {k : af -> Option (Fl × af)} (hr : r = some (.next, ρ)) (h : Ok (k ρ) Q) : Ok (Mine.seqT r k) Q := by
 subst hr; exact h
theorem tK (l : List Nat) : (l.map fun (n : Nat) => (n : Int)).map D.int = l.map dn := by rw [List.map_map]; rfl
theorem Bq {f g : Nat -> D} (l : List Nat) : ((l.map f).zip (l.map g)).map (fun p => D.tup [p.1, p.2]) = l.map fun c => .tup [f c, g c] := by
 induction l with
 | nil => rfl
 | cons c l ih => simp only [List.map_cons, List.zip_cons_cons, ih]
def lY (c : Nat) : D := .list ((jl c).map .bool)
theorem zN (c : Nat) (k : Nat) : oD (k + 1) (lY c) := ko _ k
noncomputable def lx (shift : Nat) (known : List Nat) : Nat := (known.map fun t => 2 ^ (t + shift)).sum
def Iq (t : Nat) : D := .list ((List.range 10).map fun p => .bool ((gt t).testBit p))
theorem Ao {t p : Nat} (h : p < 10) : ef (Iq t) (dn p) = some (.bool ((gt t).testBit p)) := by
 unfold Iq
 rw [ee (by with_reducible exact Om.lS (OfNat.ofNat _) ‹_› rfl), List.getElem?_map, List.getElem?_range h]; rfl
theorem pE {t : Nat} (h : t < 16) : ef (.list ((List.range 16).map Iq)) (dn t) = some (Iq t) := by
 rw [ee (by with_reducible exact Om.lS (OfNat.ofNat _) ‹_› rfl), List.getElem?_map, List.getElem?_range h]; rfl
theorem LH (i : Int) : dGt (.int i) (.int 255) = some (.bool (decide (256 ≤ i))) := by
 have : (255 < i) = (256 ≤ i) := propext (by simp +arith only)
 show some (D.bool (decide (255 < i))) = _
 simp only [this]
def nK (goal : Nat) (eH : List (List Nat)) (its : List It) : List Int := List.replicate eH.length (goal : Int) ++ its.flatMap gg
theorem GN (eC : ∀ it ∈ its, it.Ok) (mR : ∀ it ∈ its0, it.Ok) {eH : List (List Nat)} (hs : ∀ r ∈ eH, kB its0 r goal /\ r.length < 20) : iG (gQ eH its).reverse [] = some (nK goal eH its) := by
 have := mS (eH.map (fun r => (r, [(goal : Int)])) ++ its.map fun i => (fP i, gg i)) (fun p hp => by
  rcases List.mem_append.mp hp with hp | hp
  . (refine ax (List.mem_map.mp hp) fun r hr q0 => ?_; subst q0)
    exact u9 mR (hs r hr).1
  . (refine ax (List.mem_map.mp hp) fun i hi q0 => ?_; subst q0)
    exact xr (eC i hi)) []
 rw [List.append_nil] at this
 have e1 : ((eH.map (fun r => (r, [(goal : Int)])) ++ its.map fun i => (fP i, gg i)).map (·.1)).flatten = gQ eH its := by
  unfold gQ
  rw [List.map_append, List.map_map, List.map_map]
  congr 2
  exact List.map_id' eH
 have e2 : ((eH.map (fun r => (r, [(goal : Int)])) ++ its.map fun i => (fP i, gg i)).map (·.2)).flatten = nK goal eH its := by
  unfold nK
  rw [List.map_append, List.map_map, List.map_map, List.flatten_append, List.flatMap_def]
  congr 1
  clear this e1 hs
  induction eH with
  | nil => rfl
  | cons r l ih => rw [List.map_cons, List.flatten_cons, ih]; rfl
 rw [e1, e2] at this
 exact this
theorem xO (eC : ∀ it ∈ its, it.Ok) (hn : its.length ≤ 3) {known : List Nat} (y : uC its known rows) (cl : qe its known) (shift : Nat) :
 lx shift ((List.range 16).filter fun t => ((List.range 10).filter fun p => its.all fun i => (gt i.table).testBit p).all fun p => (gt t).testBit p) = lx shift known := by
 have hp : ((List.range 16).filter fun t => ((List.range 10).filter fun p => its.all fun i => (gt i.table).testBit p).all fun p => (gt t).testBit p).Perm known := by
  rw [List.perm_ext_iff_of_nodup (List.nodup_range.filter _) y.nodup]
  intro t
  rw [List.mem_filter, List.mem_range]
  constructor
  . rintro ⟨ht, h⟩
    refine (AL eC hn y cl ht).mpr fun p hp hk => ?_
    exact List.all_eq_true.mp h p (List.mem_filter.mpr ⟨List.mem_range.mpr hp, List.all_eq_true.mpr hk⟩)
  . intro h
    have ht := oa (y.le t h)
    refine ⟨ht, List.all_eq_true.mpr fun p hp => ?_⟩
    refine Ea (List.mem_filter.mp hp) fun h1 h2 => ?_
    exact (AL eC hn y cl ht).mp h p (List.mem_range.mp h1) (List.all_eq_true.mp h2)
 unfold lx
 exact (hp.map _).sum_nat
theorem C0 (x : Int) (h : m ≠ 0) : kt zX (.int x) (dn m) = some (dn (x.fmod m).toNat) := by
 show (if (m : Int) ≠ 0 then _ else _ : Option Int).map _ = _
 rw [if_pos (Int.ofNat_ne_zero.mpr h)]
 show some (D.int _) = some (D.int _)
 rw [Int.toNat_of_nonneg (Int.fmod_nonneg_of_pos _ (by with_reducible exact Om.zI _ ‹_›))]
theorem mod_lt (x : Int) (h : m ≠ 0) : (x.fmod m).toNat < m := by
 have h1 := Int.fmod_lt_of_pos x (b := (m : Int)) (by with_reducible exact Om.zI _ ‹_›)
 have h2 := Int.fmod_nonneg_of_pos x (b := (m : Int)) (by with_reducible exact Om.zI _ ‹_›)
 exact (Int.toNat_lt h2).mpr h1
def zV : af -> Option (Fl × af) := (zA bM oQ kM kN iB i8 eM gB oR oS iD nU iC).1
def nT : af -> Option (List D) := (nG bM oQ kM kN iB i8 eM gB oR oS iD nU iC).1
def wa : af -> Option D := (qJ bM oQ kM kN iB i8 eM gB oR oS iD nU iC).1
def zW : af -> Option D := (uV bM oQ kM kN iB i8 eM gB oR oS iD nU iC).1
noncomputable def ic (drawn : List Nat) (rest : List Int) : List Int := (drawn.reverse.map fun (s : Nat) => (s : Int)) ++ 0 :: rest
def vp : D := .list ((List.range 32).map fun i => .str (nm i))
def Gl (ρ : af) : Prop := ∃ (drawn known : List Nat) (rest fin : List Int) (shift : Nat), (∀ s ∈ drawn, ju s) /\ drawn.length ≤ 100 /\ iG drawn.reverse [] = some fin /\ (∀ t ∈ known, t ≤ 15) /\ known.Nodup /\ 12 ∈ known /\ shift < 32 /\
 bY ρ ["asked", "told", "due", "known", "shift", "every", "names"] [.list ((ic drawn rest).map .int), .list ((ic drawn rest).map di), .list (fin.map .int), .list (known.map dn), dn shift, dn (lx shift known), vp]
theorem Hj (xs : List Int) (hl : xs.length ≤ 63) : Ok (zV (upd (fun _ => none) "script" (.list (xs.map .int)))) fun f ρ => f = .next /\ Gl ρ := by
 unfold zV zA
 dsimp only
 have K : bY (upd (fun _ => none) "script" (.list (xs.map .int))) ["script"] [.list (xs.map .int)] := ⟨rfl, trivial⟩
 generalize upd (fun _ => none) "script" (.list (xs.map .int)) = ρ at K ⊢
 refine Ok.set K "cells" (.list ([88, 38, 199, 2, 14, 5, 4051, 1237].map dn)) rfl (by decide) fun ρ K => ?_
 refine Ok.step (fun ρ => ∃ cs : List Nat, cs.length = 8 /\ (∀ c ∈ cs, c < 10 ^ 9) /\ bY ρ ["cells"] [.list (cs.map dn)]) ?_ ?_
 . simp only [bY] at K
   have hsl : cg none (some ((60 : Nat) : Int)) (.list (xs.map .int)) = some (.list ((xs.take 60).map .int)) := by
    (delta cg; simp only [iY, List.map_take])
    rw [if_pos (by rw [List.length_map]; with_reducible exact Om.lN (OfNat.ofNat _) ‹_› rfl)]
   simp -implicitDefEqProofs +decide only [eD, if_false, ag, ai, Option.bind_some, Option.map_some, fB, Nat.reducePow, yT, K, iW, hsl, mH]
   refine Ok.for (enc := fun p : Int × Nat => .tup [.int p.2, .int p.1]) (fun a ρ => ∃ cs : List Nat, cs.length = 8 /\ (∀ c ∈ cs, c < 5000 + 1000000 * a.length) /\ bY ρ ["cells"] [.list (cs.map dn)]) (xs.take 60).zipIdx ?_ (jt ([88, 38, 199, 2, 14, 5, 4051, 1237]) rfl (by decide) K.1 trivial) ?_ ?_
   . rw [List.zipIdx_map, List.map_map]; rfl
   . rintro a ⟨x, p⟩ b ρ e ⟨cs, h8, hc, k, _⟩
     have df : a.length < 60 := by
      have := congrArg List.length e
      rw [List.length_zipIdx, List.length_take, List.length_append, List.length_cons] at this
      lia
     refine (bC (upd (upd ρ "place" (dn p)) "number" (.int x)) rfl ?_)
     have hp8 : p % 8 < cs.length := by rw [h8]; exact Nat.mod_lt _ (by decide)
     have e8 := jQ (List.getElem?_eq_getElem hp8)
     have h1 := ee (xs := cs.map dn) (show p % 8 < 2 ^ 62 by with_reducible exact Om.md rfl rfl)
     have hm := C0 x (m := 1000000) (by decide)
     have hm2 := mod_lt x (m := 1000000) (by decide)
     have hc1 := hc _ (List.getElem_mem hp8)
     generalize (x.fmod (1000000 : Nat)).toNat = y at hm hm2
     generalize hcv : cs[p % 8] = c at *
     have LZ : (0 : Int) ≤ ((p % 8 : Nat) : Int) /\ ((p % 8 : Nat) : Int) < ((cs.map dn).length : Int) /\ (cs.map dn).length < 16777216 := by
      rw [List.length_map]; lia
     refine Ok.seqF (.eq (ρ := upd (upd (upd ρ "place" (dn p)) "number" (.int x)) "cells" (.list ((cs.set (p % 8) (c + y + 1)).map dn))) ?_ ⟨rfl, .eq rfl ⟨rfl, cs.set (p % 8) (c + y + 1), by rw [List.length_set, h8], fun z hz => ?_, aj, trivial⟩⟩)
     . simp -implicitDefEqProofs +decide only [aj, ao, ne_eq, ag, Option.bind_some, k, f0 _ 8 (by decide), h1, e8, hm, fZ]
       rw [show mO (dn (c + y + 1)) = some (dn (c + y + 1)) from rfl, Option.bind_some, iW, Option.bind_some, if_pos LZ, Int.toNat_natCast, List.map_set]
     . rw [List.length_append, List.length_singleton]
       rcases List.mem_or_eq_of_mem_set hz with hz | rfl
       . have := hc z hz; ((with_reducible refine Om.lr ‹_› ?_); simp +arith only)
       . lia
   . rintro ρ ⟨cs, h8, hc, k⟩
     refine .eq rfl (rE rfl cs h8 (fun c h => ?_) k)
     have := hc c h
     have hz : (xs.take 60).zipIdx.length ≤ 60 := by rw [List.length_zipIdx, List.length_take]; with_reducible exact Om.n1 rfl
     lia
 rintro ρ ⟨cs, h8, hc, K⟩
 obtain ⟨its, eC, hn1, hn3, hgi⟩ : ∃ its : List It, (∀ it ∈ its, it.Ok) /\ 1 ≤ its.length /\ its.length ≤ 3 /\ i8 [.list (cs.map dn)] = some (.list (its.map It.d)) := by
  refine (jt ((cs.take (1 + cs.getD 3 0 % 3)).map xp) (fun it h => ?_) ?_ ?_ ?_)
  . (refine ax (List.mem_map.mp h) fun c _ q0 => ?_; subst q0); exact BV c
  . rw [List.length_map, List.length_take]; lia
  . rw [List.length_map, List.length_take]; lia
  . rw [Ai cs h8 hc, List.map_map]; rfl
 have e4 := jQ (jU (l := cs) (i := 4) (by with_reducible exact Om.eG ‹_› rfl))
 have e5 := jQ (jU (l := cs) (i := 5) (by with_reducible exact Om.eG ‹_› rfl))
 have hgoal : cs.getD 4 0 % 16 < 16 := Nat.mod_lt _ (by decide)
 have H7 : cs.getD 5 0 % 32 < 32 := Nat.mod_lt _ (by decide)
 refine Ok.set3 K "items" "goal" "shift" (.list (its.map It.d)) (dn (cs.getD 4 0 % 16)) (dn (cs.getD 5 0 % 32)) ?_ (by decide) (by decide) (by decide) fun ρ K => ?_
 . simp only [bY] at K
   simp -implicitDefEqProofs +decide only [eD, if_true, if_false, ag, ai, od, Option.bind_some, fB, List.length_cons, List.length_nil, Nat.reduceAdd, Nat.reduceLeDiff, K, hgi, ee (show 4 < 2 ^ 62 by decide), ee (show 5 < 2 ^ 62 by decide), e4, e5, f0 _ 16 (by decide), f0 _ 32 (by decide), uD, dI]
 generalize cs.getD 4 0 % 16 = goal at *
 generalize cs.getD 5 0 % 32 = shift at *
 have mR : ∀ it ∈ its.filter fun i => decide (i.bar = 0), it.Ok := fun it h => eC it (List.mem_filter.mp h).1
 have M7 : (its.filter fun i => decide (i.bar = 0)).length ≤ 3 := Nat.le_trans (List.length_filter_le _ _) hn3
 refine bk (I4 (its.filter fun i => decide (i.bar = 0)) mR (by with_reducible exact Om.lN (OfNat.ofNat _) ‹_› rfl)) fun known rows hgs say closed => ?_
 refine Ok.set2 K "known" "rows" (.list (known.map dn)) (m8 rows) ?_ (by decide) (by decide) fun ρ K => ?_
 . simp only [bY] at K
   simp -implicitDefEqProofs +decide only [bb, eD, if_false, Option.bind_some, fB, K, eO]
   rw [ev (enc := It.d) (p := fun i => decide (i.bar = 0)) (out := fun i => [i.d])]
   . rw [fJ, Option.bind_some, dL (by rw [List.length_map]; with_reducible exact Om.lN (OfNat.ofNat _) ‹_› rfl)]
     simp -implicitDefEqProofs +decide only [ai, Option.bind_some, Option.map_some, hgs, uD, dI]
   . intro i hi
     refine (cF _ rfl ?_ (fun _ => rfl))
     simp -implicitDefEqProofs +decide only [aj, ag, cB, Option.bind_some, List.getElem?_cons_zero, List.getElem?_cons_succ, It.d, g4 (show 3 < 2 ^ 62 by decide), tH, jE]
 have hsl := AV say goal
 have hso := CF say goal
 refine Ok.set K "said" (.list ((lu goal known rows).map gC)) ?_ (by decide) fun ρ K => ?_
 . simp only [bY] at K
   have hz : sZ [.list (known.map dn), m8 rows] = some ((known.zip rows).map fun p => .tup [dn p.1, gC p.2]) := by
    unfold m8
    (delta sZ; dsimp only)
    rw [List.zip_map, List.map_map]; rfl
   simp -implicitDefEqProofs +decide only [bb, eD, if_false, ai, Option.bind_some, fB, K, hz]
   rw [ev (enc := fun p : Nat × List Nat => .tup [dn p.1, gC p.2]) (p := fun p => decide (p.1 = goal) && decide (p.2.length < 20)) (out := fun p => [gC p.2])]
   . rw [fJ]
     have : ((known.zip rows).filter fun p => decide (p.1 = goal) && decide (p.2.length < 20)).map (fun p => gC p.2) = (lu goal known rows).map gC := by
      unfold lu; rw [List.map_map]; rfl
     rw [this, Option.bind_some, dL (by rw [List.length_map]; with_reducible exact Om.lN (OfNat.ofNat _) ‹_› rfl)]
     simp -implicitDefEqProofs +decide only [Option.bind_some]
   . intro p hp
     refine (cF _ rfl ?_ (fun _ => rfl))
     have hl : (p.2.map dn).length < 16777216 := by
      have := (uB say hp).2
      rw [List.length_map]; with_reducible exact Om.lS (_ ^ _) ‹_› rfl
     simp -implicitDefEqProofs +decide only [eu, aj, ao, ne_eq, ag, ai, cB, Option.bind_some, K, gC, tH, jE, pl hl, vo, List.length_map]
     by_cases c : p.1 = goal <;> by_cases c2 : p.2.length < 20 <;> simp [c, c2]
 generalize lu goal known rows = eH at *
 have hdo := zB eC hn1 hn3 mR hso hsl
 refine Ok.set K "drawn" (.list ((gQ eH its).map dn)) ?_ (by decide) fun ρ K => ?_
 . simp only [bY] at K
   simp -implicitDefEqProofs +decide only [bb, eD, if_true, if_false, ai, uG, Option.bind_some, fB, K, o8]
   rw [cW (enc := It.d) (out := fun i => gC (fP i)) its]
   . have hl2 : (eH.map gC).length + (its.map fun i => gC (fP i)).length ≤ 16777216 := by simp only [List.length_map]; with_reducible exact Om.aN (OfNat.ofNat _) (OfNat.ofNat _) ‹_› ‹_› rfl
     rw [Option.bind_some, dL (by rw [List.length_map]; with_reducible exact Om.lN (OfNat.ofNat _) ‹_› rfl)]
     simp -implicitDefEqProofs +decide only [ag, Option.bind_some, Option.map_some, iL hl2, eO]
     rw [show eH.map gC ++ its.map (fun i => gC (fP i)) = (eH ++ its.map fP).map gC by rw [List.map_append, List.map_map]; rfl]
     rw [kf (enc := gC) (out := fun r => r.map dn)]
     . rw [xL, Option.bind_some, dL (by rw [List.length_map]; exact Nat.le_trans hdo.2.1 (by decide))]
       rfl
     . intro r hr
       refine (cF _ rfl rfl ?_)
       simp -implicitDefEqProofs +decide only [aj, if_false, Option.bind_some, gF, dh, gC, eO]
       rw [cW (enc := dn) (out := dn)]
       intro x hx
       exact (cF _ rfl rfl rfl)
   . intro i hi
     refine (cF _ rfl rfl ?_)
     have hb := (eC i hi).bar
     have h0 := (eC i hi).l0
     have h1 := (eC i hi).l1
     have hm := mul_one (d := dn 258) (b := i.bar) (by with_reducible exact Om.lE (OfNat.ofNat _) ‹_› rfl)
     have ha : eW (.list [dn i.num, dn (256 + i.l0), dn (256 + i.l1)]) (.list (List.replicate i.bar (dn 258))) = some (gC (fP i)) := by
      rw [iL (by simp only [List.length_cons, List.length_nil, List.length_replicate]; with_reducible exact Om.pL (OfNat.ofNat _) ‹_› rfl)]
      unfold gC fP
      rw [List.map_append, List.map_replicate]; rfl
     simp -implicitDefEqProofs +decide only [aj, ao, ne_eq, if_true, ag, ai, uG, Option.bind_some, Option.map_some, List.length_cons, List.length_nil, Nat.reduceAdd, Nat.reduceLeDiff, List.getElem?_cons_zero, List.getElem?_cons_succ, g4 (show 0 < 2 ^ 62 by decide), g4 (show 1 < 2 ^ 62 by decide), fZ, hm, ha]
 generalize hdr : gQ eH its = drawn at *
 (refine n4 hdo fun v7 hdl hd0 => ?_; clear hdo)
 have e6 := jQ (jU (l := cs) (i := 6) (by with_reducible exact Om.eG ‹_› rfl))
 have e7 := jQ (jU (l := cs) (i := 7) (by with_reducible exact Om.eG ‹_› rfl))
 have l7 : cs.getD 7 0 < 2 ^ 63 := by
  have := hc _ (List.mem_of_getElem? (jU (l := cs) (i := 7) (by with_reducible exact Om.eG ‹_› rfl)))
  with_reducible exact Om.lS (_ ^ _) ‹_› rfl
 refine gD (zd drawn (cs.getD 6 0) (cs.getD 7 0) v7 (by with_reducible exact Om.lN (OfNat.ofNat _) ‹_› rfl) l7) fun fC Ae hgc xm hpl => ?_
 have hplen := ky v7
 have hpr0 : fC ≠ [] := by
  rintro rfl
  have : aY drawn = [] := xm.symm
  cases drawn with
  | nil => exact hd0 rfl
  | cons s r =>
   have hs : lz s = [] := by unfold aY at this; simp at this; exact this.1
   unfold lz at hs
   split at hs <;> simp at hs
 refine Ok.set2 K "codes" "plain" (.list ((fC.map (·.1)).map dn)) (.str (aY drawn)) ?_ (by decide) (by decide) fun ρ K => ?_
 . simp only [bY] at K
   rw [List.map_map]
   simp -implicitDefEqProofs +decide only [eD, if_false, ag, ai, Option.bind_some, fB, K, ee (show 6 < 2 ^ 62 by decide), ee (show 7 < 2 ^ 62 by decide), e6, e7, hgc, uD, dI]
   rfl
 have hcl : (fC.map (·.1)).length ≤ 256 := by rw [List.length_map]; with_reducible exact Om.cC (OfNat.ofNat _) ‹_› ‹_› ‹_› rfl
 have hclt : ∀ c ∈ fC.map (·.1), c < 1114112 := fun c h => by
  (refine ax (List.mem_map.mp h) fun p hp q0 => ?_; subst q0)
  exact (rd (Ae p hp)).lt
 have hc0 : fC.map (·.1) ≠ [] := by simpa using hpr0
 generalize hcd : fC.map (·.1) = codes at *
 refine Ok.set K "numbers" (.list ((codes.zipIdx.map fun p => ie p.2 p.1).map gC)) ?_ (by decide) fun ρ K => ?_
 . simp only [bY] at K
   have he : mH [.list (codes.map dn)] = some (codes.zipIdx.map fun p => .tup [dn p.2, dn p.1]) := by
    (delta mH; dsimp only)
    rw [List.zipIdx_map, List.map_map]; rfl
   simp -implicitDefEqProofs +decide only [bb, eD, if_true, if_false, ai, od, uG, Option.bind_some, fB, K, he]
   rw [cW (enc := fun p : Nat × Nat => .tup [dn p.2, dn p.1]) (out := fun p => gC (ie p.2 p.1)) codes.zipIdx]
   . rw [Option.bind_some, dL (by rw [List.length_map, List.length_zipIdx]; with_reducible exact Om.lN (OfNat.ofNat _) ‹_› rfl), List.map_map]
     rfl
   . rintro ⟨c, p⟩ hp
     refine (cF _ rfl rfl ?_)
     have hb3 : p % 5 / 4 * 3 ≤ 3 := by lia
     have hm := mul_one (d := dn 64) (b := p % 5 / 4 * 3) (by with_reducible exact Om.lN (OfNat.ofNat _) ‹_› rfl)
     simp -implicitDefEqProofs +decide only [aj, ao, ne_eq, ag, Option.bind_some, f0 _ 5 (by decide), kP _ 4 (by decide), oe (show 3 < 2 ^ 63 by decide), hm, eO]
     rw [show [dn 3, dn 2, dn 1] = [3, 2, 1].map dn from rfl, ev (enc := dn) (p := fun d => decide (64 ^ d ≤ c)) (out := fun d => [dn (64 + c / 64 ^ d % 64)])]
     . have h3 := LD c
       have a1 : eW (.list (List.replicate (p % 5 / 4 * 3) (dn 64))) (.list (([3, 2, 1].filter fun d => decide (64 ^ d ≤ c)).map (fun d => dn (64 + c / 64 ^ d % 64)))) = some (.list (List.replicate (p % 5 / 4 * 3) (dn 64) ++ ([3, 2, 1].filter fun d => decide (64 ^ d ≤ c)).map (fun d => dn (64 + c / 64 ^ d % 64)))) := iL (by rw [List.length_replicate, List.length_map]; with_reducible exact Om.aN (OfNat.ofNat _) (OfNat.ofNat _) ‹_› ‹_› rfl)
       have a2 : eW (.list (List.replicate (p % 5 / 4 * 3) (dn 64) ++ ([3, 2, 1].filter fun d => decide (64 ^ d ≤ c)).map (fun d => dn (64 + c / 64 ^ d % 64)))) (.list [dn (c % 64)]) = some (gC (ie p c)) := by
        rw [iL (by rw [List.length_append, List.length_replicate, List.length_map, List.length_singleton]; lia), Co]; rfl
       rw [fJ, Option.bind_some, dL (by rw [List.length_map]; with_reducible exact Om.lN (OfNat.ofNat _) ‹_› rfl)]
       simp -implicitDefEqProofs +decide only [if_true, ag, ai, uG, Option.bind_some, Option.map_some, List.length_cons, List.length_nil, Nat.reduceAdd, Nat.reduceLeDiff, a1, f0 _ 64 (by decide), a2]
     . intro d hd
       have hd3 : d ≤ 3 := by
        simp only [List.mem_cons, List.not_mem_nil, or_false] at hd; lia
       have hpw : 64 ^ d ≤ 64 ^ 3 := Nat.pow_le_pow_right (by decide) hd3
       have hpw0 : 0 < 64 ^ d := Nat.pow_pos (by decide)
       have hp := Mz (a := 64) (b := d) (by decide) (by with_reducible exact Om.lN (OfNat.ofNat _) ‹_› rfl)
       refine (cF _ rfl ?_ (fun _ => ?_))
       . simp -implicitDefEqProofs +decide only [eu, aj, ao, ne_eq, ag, cB, Option.bind_some, hp, n_ge, jE]
       . simp -implicitDefEqProofs +decide only [eu, aj, ao, ne_eq, ag, Option.map_some, hp, kP _ (64 ^ d) ⟨by exact Nat.ne_zero_of_lt hpw0, by lia⟩, f0 _ 64 (by decide), fZ]
 refine Ok.set K "tape" (.list ((cj 0 codes).map dn)) ?_ (by decide) fun ρ K => ?_
 . simp only [bY] at K
   have ht := wE codes 0
   have htl := (jY codes 0).2
   generalize hnum : codes.zipIdx.map (fun p => ie p.2 p.1) = numbers at *
   have he : mH [.list (numbers.map gC)] = some (numbers.zipIdx.map fun p => .tup [dn p.2, gC p.1]) := by
    (delta mH; dsimp only)
    rw [List.zipIdx_map, List.map_map]; rfl
   simp -implicitDefEqProofs +decide only [bb, eD, if_false, ai, Option.bind_some, fB, K, he]
   rw [kf (enc := fun p : List Nat × Nat => .tup [dn p.2, gC p.1]) (out := fun q => (q.1.map fun b => b + 128 * (q.2 % 2)).map dn)]
   . rw [<- List.map_flatMap, ht, Option.bind_some, dL (by rw [List.length_map]; with_reducible exact Om.cM (OfNat.ofNat _) ‹_› ‹_› rfl)]
     rfl
   . rintro ⟨os, p⟩ hp
     refine (cF _ rfl rfl ?_)
     simp -implicitDefEqProofs +decide only [aj, if_false, Option.bind_some, gF, dh, gC, eO]
     rw [cW (enc := dn) (out := fun b => dn (b + 128 * (p % 2))) os, List.map_map]
     . rfl
     . intro b hb
       refine (cF _ rfl rfl ?_)
       simp -implicitDefEqProofs +decide only [aj, ao, ne_eq, if_false, ag, Option.map_some, gF, f0 _ 2 (by decide), oe (show p % 2 < 2 ^ 63 by with_reducible exact Om.md rfl rfl), fZ]
 have hc16 : ∀ c ∈ codes, c < 16777216 := fun c h => Nat.lt_trans (hclt c h) (by decide)
 refine Ok.set K "read" (.list (codes.map dn)) ?_ (by decide) fun ρ K => ?_
 . simp only [bY] at K
   simp -implicitDefEqProofs +decide only [eD, if_false, Option.bind_some, K, xc hc16 (show codes.length ≤ 1000 by with_reducible exact Om.lN (OfNat.ofNat _) ‹_› rfl), tK]
 refine Ok.same (ρ := ρ) ?_ ?_
 . simp only [bY] at K
   have htl := (jY codes 0).2
   have s1 : cg none (some (-1)) (.list ((cj 0 codes).map dn)) = some (.list ((cj 0 codes).dropLast.map dn)) := by
    (delta cg; simp only [ud, List.map_dropLast])
    rw [if_pos (by rw [List.length_map]; with_reducible exact Om.cM (OfNat.ofNat _) ‹_› ‹_› rfl)]
   have s2 : cg none (some (-1)) (.list (codes.map dn)) = some (.list (codes.dropLast.map dn)) := by
    (delta cg; simp only [ud, List.map_dropLast])
    rw [if_pos (by rw [List.length_map]; with_reducible exact Om.lN (OfNat.ofNat _) ‹_› rfl)]
   simp -implicitDefEqProofs +decide only [eD, if_false, ag, cB, Option.bind_some, Option.map_some, ua, K, ot, jP (lV codes 0) (by decide), jE, yS, s1, s2, xd hc0 hc16 (show codes.length ≤ 1000 by with_reducible exact Om.lN (OfNat.ofNat _) ‹_› rfl), tK, jP (lV codes.dropLast 0) (by decide), eO]
   rw [cW (enc := dn) (out := fun _ => .bool true)]
   . have : (codes.map fun _ => D.bool true) = (codes.map fun _ => true).map .bool := by rw [List.map_map]; rfl
     rw [Option.bind_some, dL (by rw [List.length_map]; with_reducible exact Om.lN (OfNat.ofNat _) ‹_› rfl), this]
     simp -implicitDefEqProofs +decide only [ai, Option.bind_some, Option.map_some, qy, jx, jz, jA, jy]
     have : ((codes.map fun _ => true).all id) = true := by rw [List.all_map, List.all_eq_true]; intro _ _; rfl
     rw [this]; rfl
   . intro c hc
     exact (cF _ rfl rfl rfl)
 have hP : ∀ p ∈ fC, yN p := fun p h => rd (Ae p h)
 have hJ : ∀ c ∈ codes, Jd c /\ (oK (jl c) = true -> c ∈ cf) := fun c h => by
  rw [<- hcd] at h
  (refine ax (List.mem_map.mp h) fun p hp q0 => ?_; subst q0)
  exact ⟨(hP p hp).jd, (hP p hp).bar⟩
 refine Ok.set K "judged" (.list (codes.map lY)) ?_ (by decide) fun ρ K => ?_
 . simp only [bY] at K
   simp -implicitDefEqProofs +decide only [bb, eD, if_false, Option.bind_some, K, eO]
   rw [cW (enc := dn) (out := lY)]
   . rw [Option.bind_some, dL (by rw [List.length_map]; with_reducible exact Om.lN (OfNat.ofNat _) ‹_› rfl)]
     rfl
   . intro c hc
     refine (cF _ rfl rfl ?_)
     simp -implicitDefEqProofs +decide only [aj, ai, Option.bind_some, Option.map_some, (hJ c hc).1.eq]
     rfl
 have hz : sZ [.list (codes.map dn), .list (codes.map lY)] = some (codes.map fun c => .tup [dn c, lY c]) := by
  (delta sZ; dsimp only)
  rw [Bq]
 refine Ok.set K "beside" (.list ((codes.filter fun c => oK (jl c)).flatMap fun c => [lY (c - 1), lY ((c + 1) % 1114112)])) ?_ (by decide) fun ρ K => ?_
 . simp only [bY] at K
   simp -implicitDefEqProofs +decide only [bb, eD, if_false, ai, Option.bind_some, fB, K, hz]
   rw [ev (enc := fun c => .tup [dn c, lY c]) (p := fun c => oK (jl c)) (out := fun c => [lY (c - 1), lY ((c + 1) % 1114112)])]
   . have hf : ((codes.filter fun c => oK (jl c)).flatMap fun c => [lY (c - 1), lY ((c + 1) % 1114112)]).length ≤ 16777216 := by
      have := List.length_filter_le (fun c => oK (jl c)) codes
      rw [List.length_flatMap]
      have := ly (fun c => [lY (c - 1), lY ((c + 1) % 1114112)].length) 2 (codes.filter fun c => oK (jl c)) fun _ _ => Nat.le_refl _
      lia
     rw [Option.bind_some, dL hf]
     rfl
   . intro c hc
     have hj := hJ c hc
     refine (cF _ rfl ?_ (fun ht => ?_))
     . have sl : cg (some ((1 : Nat) : Int)) none (lY c) = some (.list (((jl c).drop 1).map .bool)) := by
        unfold lY
        (delta cg; simp only [oy, List.map_drop])
        rw [if_pos (by rw [List.length_map, hj.1.len]; decide)]
       simp -implicitDefEqProofs +decide only [aj, ag, cB, Option.bind_some, Option.map_some, iW, sl, wh, jE]
       rfl
     . refine n4 (oZ (hj.2 ht)) fun h1 h2 h3 => ?_
       simp -implicitDefEqProofs +decide only [aj, ao, ne_eq, if_true, if_false, ag, ai, od, Option.bind_some, List.length_cons, List.length_nil, Nat.reduceAdd, Nat.reduceLeDiff, gF, dh, kQ h1, fZ, f0 _ 1114112 (by decide), eO]
       rw [show [dn (c - 1), dn ((c + 1) % 1114112)] = [c - 1, (c + 1) % 1114112].map dn from rfl, cW (enc := dn) (out := lY)]
       . rfl
       . intro x hx
         refine (cF _ rfl rfl ?_)
         have hx : Jd x := by
          rcases List.mem_cons.mp hx with rfl | hx
          . exact h2
          . rw [List.mem_singleton.mp hx]; exact h3
         simp -implicitDefEqProofs +decide only [aj, ai, Option.bind_some, Option.map_some, hx.eq]
         rfl
 refine Ok.set K "text" (.str (aY drawn)) ?_ (by decide) fun ρ K => ?_
 . simp only [bY] at K
   have hj : mI [] (.list (fC.map fun p => .str p.2)) = some (.str (aY drawn)) := by
    have : (fC.map fun p => D.str p.2) = (fC.map (·.2)).map .str := by rw [List.map_map]; rfl
    rw [this, qY [] (fun l hl => ?_) (by rw [List.length_map]; with_reducible exact Om.cC (OfNat.ofNat _) ‹_› ‹_› ‹_› rfl) (by decide), o9, xm]
    have := (List.sublist_flatten_of_mem hl).length_le
    rw [xm] at this
    lia
   simp -implicitDefEqProofs +decide only [bb, eD, if_true, if_false, ai, uG, Option.bind_some, fB, K, hz, wW, iZ]
   rw [<- hcd, List.map_map]
   rw [show (fun c => D.tup [dn c, lY c]) ∘ (fun p : Nat × List Nat => p.1) = fun p => .tup [dn p.1, lY p.1] from rfl]
   rw [cW (enc := fun p : Nat × List Nat => .tup [dn p.1, lY p.1]) (out := fun p => .str p.2)]
   . rw [Option.bind_some, dL (by rw [List.length_map]; with_reducible exact Om.cC (OfNat.ofNat _) ‹_› ‹_› ‹_› rfl)]
     simp -implicitDefEqProofs +decide only [ag, Option.bind_some, Option.map_some, hj]
   . intro p hp
     refine (cF _ rfl rfl ?_)
     have hk := hP p hp
     have hne : jl p.1 ≠ [] := fun e => by have := hk.jd.len; rw [e] at this; cases this
     have q1 : oN (lY p.1) (.list []) = some (.bool false) := by
      unfold oN
      rw [if_pos ⟨(zN p.1 0).sh (by decide), oD.sh (k := 1) (ko [] 0) (by decide)⟩]
      unfold lY
      rw [p7 hne]
     have q2 : ef (lY p.1) (dn 0) = some (.bool ((jl p.1).getD 0 false)) := by
      unfold lY
      rw [ee (by decide), List.getElem?_map]
      cases h : jl p.1 with
      | nil => exact absurd h hne
      | cons a r => rfl
     have q3 : sW (.bool true) (lY p.1) = some (.bool ((jl p.1).any id)) := wh _
     have q4 : BL [dn p.1] = some (.str [p.1]) := by
      unfold dn
      (delta BL; dsimp only)
      rw [if_pos (by have := hk.lt; lia), Int.toNat_natCast]
     simp -implicitDefEqProofs +decide only [aj, ao, ne_eq, if_false, ag, ai, cB, Option.bind_some, q1, jE, q2, q3, q4, jx, jz, jA, jy, ry]
     cases h0 : (jl p.1).getD 0 false with
     | true => rw [hk.h1 h0]; rfl
     | false =>
      cases h1 : (jl p.1).any id with
      | true => rw [hk.h2 h0 h1]; rfl
      | false => rw [hk.h3 h1]; rfl
 have i6 : ef (.list (cs.map dn)) (.int 6) = some (.int (cs.getD 6 0 : Nat)) := (ee (show 6 < 2 ^ 62 by decide)).trans e6
 have i7 : ef (.list (cs.map dn)) (.int 7) = some (.int (cs.getD 7 0 : Nat)) := (ee (show 7 < 2 ^ 62 by decide)).trans e7
 have m7 : kt zX (.int (cs.getD 6 0 : Nat)) (.int 700) = some (.int (cs.getD 6 0 % 700 : Nat)) := f0 _ 700 (by decide)
 generalize hrs : [255, -256, (cs.getD 6 0 : Int), -(cs.getD 7 0 : Int), ((cs.getD 6 0 % 700 : Nat) : Int) - 350] = rest
 refine Ok.set K "asked" (.list ((ic drawn rest).map .int)) ?_ (by decide) fun ρ K => ?_
 . simp only [bY] at K
   have hrv : sY (.list (drawn.map dn)) = some (.list (drawn.map dn).reverse) := by
    simp only [sY]
    rw [if_pos (by rw [List.length_map]; with_reducible exact Om.lN (OfNat.ofNat _) ‹_› rfl)]
   have hsb : kt GS (.int (cs.getD 6 0 % 700 : Nat)) (.int 350) = some (.int (((cs.getD 6 0 % 700 : Nat) : Int) - 350)) := rfl
   have ha : eW (.list (drawn.map dn).reverse) (.list [.int 0, .int 255, .int (-256), .int (cs.getD 6 0 : Nat), .int (-(cs.getD 7 0 : Nat)), .int (((cs.getD 6 0 % 700 : Nat) : Int) - 350)]) = some (.list ((ic drawn rest).map .int)) := by
    rw [iL (by simp only [List.length_reverse, List.length_map, List.length_cons, List.length_nil]; with_reducible exact Om.qN (OfNat.ofNat _) ‹_› rfl), <- hrs]
    unfold ic
    rw [List.map_append, List.map_map, List.map_reverse]
    rfl
   simp -implicitDefEqProofs +decide only [eD, if_true, if_false, ag, ai, uG, Option.bind_some, Option.map_some, List.length_cons, List.length_nil, Nat.reduceAdd, Nat.reduceLeDiff, K, yS, hrv, i6, i7, m7, hsb, ha]
 have hil : (ic drawn rest).length ≤ 100 := by
  rw [<- hrs]; unfold ic
  simp only [List.length_append, List.length_map, List.length_reverse, List.length_cons, List.length_nil]; with_reducible exact Om.qN (OfNat.ofNat _) ‹_› rfl
 refine Ok.set K "told" (.list ((ic drawn rest).map di)) ?_ (by decide) fun ρ K => ?_
 . simp only [bY] at K
   simp -implicitDefEqProofs +decide only [bb, eD, if_false, Option.bind_some, K, eO]
   rw [cW (enc := D.int) (out := di)]
   . rw [Option.bind_some, dL (by rw [List.length_map]; with_reducible exact Om.lN (OfNat.ofNat _) ‹_› rfl)]
     rfl
   . intro i hi
     refine (cF _ rfl rfl ?_)
     simp -implicitDefEqProofs +decide only [aj, if_true, ai, od, Option.bind_some, Option.map_some, List.length_cons, List.length_nil, Nat.reduceAdd, Nat.reduceLeDiff, GK, CP, C3]
     rfl
 refine Ok.same (ρ := ρ) ?_ ?_
 . simp only [bY] at K
   generalize hB : (codes.filter fun c => oK (jl c)).flatMap (fun c => [lY (c - 1), lY ((c + 1) % 1114112)]) = B at K
   have hBm : ∀ d ∈ B, ∃ c, d = lY c /\ Jd c := fun d hd => by
    rw [<- hB] at hd
    refine ax (List.mem_flatMap.mp hd) fun c hc hd => ?_
    refine Ea (List.mem_filter.mp hc) fun hc ht => ?_
    refine n4 (oZ ((hJ c hc).2 ht)) fun h1 h2 h3 => ?_
    rcases List.mem_cons.mp hd with rfl | hd
    . exact (bC _ rfl h2)
    . exact (bC _ (List.mem_singleton.mp hd) h3)
   have t1 : sW (.list []) (.list B) = some (.bool false) := by
    unfold sW KR
    simp only []
    rw [if_pos ⟨oD.sh (k := 1) (ko [] 0) (by decide), oD.sh (k := 2) (jT fun d hd => by (refine ax (hBm d hd) fun c q0 _ => ?_; subst q0); exact zN c 0) (by decide)⟩]
    congr 2
    rw [List.any_eq_false]
    intro d hd
    (refine ax (hBm d hd) fun c q0 hj => ?_; subst q0)
    unfold lY
    rw [p7 fun e => by have := hj.len; rw [e] at this; cases this]
    decide
   have t2 := jP (kq (j0 (ol v7)) 0) (by decide)
   have t3 := Ia drawn v7 (by with_reducible exact Om.lN (OfNat.ofNat _) ‹_› rfl)
   have t4 := jP (lV drawn 0) (by decide)
   have t5 : Dj (.list ((ic drawn rest).map di)) (.list ((ic drawn rest).map di)) = some (.bool false) := jP (k := 2) (jT fun x hx => by (refine ax (List.mem_map.mp hx) fun i _ q0 => ?_; subst q0); exact zP i 0) (by decide)
   simp -implicitDefEqProofs +decide only [if_true, if_false, ag, ai, cB, uG, Option.bind_some, ua, K, t1, jE, t2, t3, t4, eO]
   rw [cW (enc := D.int) (out := di)]
   . rw [Option.bind_some, dL (by rw [List.length_map]; with_reducible exact Om.lN (OfNat.ofNat _) ‹_› rfl)]
     simp -implicitDefEqProofs +decide only [if_false, ag, cB, Option.bind_some, Option.map_some, t5, jE]
     rw [kf (enc := di) (out := fun _ => [true, true, true].map .bool)]
     . have hfl : ((ic drawn rest).flatMap fun _ => [true, true, true]).length ≤ 16777216 := by
        rw [List.length_flatMap]
        have := ly (fun _ : Int => [true, true, true].length) 3 (ic drawn rest) fun _ _ => Nat.le_refl _
        with_reducible exact Om.cM (OfNat.ofNat _) ‹_› ‹_› rfl
       have hal : ((ic drawn rest).flatMap fun _ => [true, true, true]).all id = true := by
        rw [List.all_eq_true]
        intro b hb
        refine ax (List.mem_flatMap.mp hb) fun _ _ hb => ?_
        simpa using hb
       rw [<- List.map_flatMap, Option.bind_some, dL (by rw [List.length_map]; exact hfl)]
       simp -implicitDefEqProofs +decide only [if_false, ai, Option.bind_some, Option.map_some, qy, hal, jx, jz, jA, jy, Bool.not_true]
     . intro i hi
       refine (cF _ rfl rfl ?_)
       simp -implicitDefEqProofs +decide only [aj, if_false, Option.bind_some, gF, dh, di, eO]
       rw [show [D.bool (decide (i = 0)), .bool (decide (i < 256)), .bool (decide (256 ≤ i))] = [decide (i = 0), decide (i < 256), decide (256 ≤ i)].map .bool from rfl, cW (enc := D.bool) (out := fun _ => D.bool true)]
       . rfl
       . intro b hb
         refine (cF _ rfl rfl ?_)
         cases b <;> simp -implicitDefEqProofs +decide only [aj, if_true, if_false, ag, Option.bind_some, Option.map_some, KU, jx, jz, jA, jy] <;> rfl
   . intro i hi
     refine (cF _ rfl rfl ?_)
     have lt : dLt (.int i) (.int 256) = some (.bool (decide (i < 256))) := rfl
     simp -implicitDefEqProofs +decide only [aj, if_true, ag, ai, od, Option.bind_some, Option.map_some, List.length_cons, List.length_nil, Nat.reduceAdd, Nat.reduceLeDiff, eq0, lt, LH]
     rfl
 refine Ok.set K "due" (.list ((nK goal eH its).map .int)) ?_ (by decide) fun ρ K => ?_
 . simp only [bY] at K
   have hm := mul_one (d := dn goal) (b := eH.length) (by with_reducible exact Om.lN (OfNat.ofNat _) ‹_› rfl)
   have hle := pl (l := eH.map gC) (by rw [List.length_map]; with_reducible exact Om.lL (OfNat.ofNat _) ‹_› rfl)
   rw [List.length_map] at hle
   have hvl : (its.flatMap fun i => (gg i).map D.int).length ≤ 6 := by
    rw [List.length_flatMap]
    have := ly (fun i => ((gg i).map D.int).length) 2 its fun i _ => by
     rw [List.length_map]; unfold gg; rw [List.length_take]
     simp only [List.length_cons, List.length_nil]; with_reducible exact Om.n2 rfl
    with_reducible exact Om.cM (OfNat.ofNat _) ‹_› ‹_› rfl
   have ha : eW (.list (List.replicate eH.length (dn goal))) (.list (its.flatMap fun i => (gg i).map D.int)) = some (.list ((nK goal eH its).map .int)) := by
    rw [iL (by rw [List.length_replicate]; with_reducible exact Om.aN (OfNat.ofNat _) (OfNat.ofNat _) ‹_› ‹_› rfl)]
    unfold nK
    rw [List.map_append, List.map_replicate, List.map_flatMap]; rfl
   simp -implicitDefEqProofs +decide only [bb, eD, if_true, if_false, ag, ai, uG, Option.bind_some, List.length_cons, List.length_nil, Nat.reduceAdd, Nat.reduceLeDiff, K, hle, hm, o8]
   rw [kf (enc := It.d) (out := fun i => (gg i).map D.int)]
   . rw [Option.bind_some, dL (by with_reducible exact Om.lN (OfNat.ofNat _) ‹_› rfl)]
     simp -implicitDefEqProofs +decide only [ag, Option.bind_some, Option.map_some, ha]
   . intro i hi
     refine (cF _ rfl rfl ?_)
     have hb : eW (.int 1) (.int (i.bar : Nat)) = some (.int ((1 + i.bar : Nat) : Int)) := fZ 1 i.bar
     have sl : cg none (some ((1 + i.bar : Nat) : Int)) (.list [.int i.table, .int (-1)]) = some (.list ((gg i).map .int)) := by
      (delta cg; simp only [iY])
      rw [if_pos (by simp)]
      unfold gg
      rw [List.map_take]; rfl
     simp -implicitDefEqProofs +decide only [aj, ao, ne_eq, if_true, if_false, ag, ai, uG, Option.bind_some, Option.map_some, List.length_cons, List.length_nil, Nat.reduceAdd, Nat.reduceLeDiff, gF, dh, dn, hb, yS, sl, eO]
     rw [cW (enc := D.int) (out := D.int)]
     intro x hx
     exact (cF _ rfl rfl rfl)
 refine Ok.set K "keeps" (.list ((List.range 16).map Iq)) ?_ (by decide) fun ρ K => ?_
 . simp only [bY] at K
   have er : ix [dn 16] = some ((List.range 16).map dn) := rfl
   simp -implicitDefEqProofs +decide only [bb, ai, Option.bind_some, fB, er]
   rw [cW (enc := dn) (out := Iq)]
   . rw [Option.bind_some, dL (by rw [List.length_map]; decide)]
     rfl
   . intro t ht
     refine (cF _ rfl rfl ?_)
     simp -implicitDefEqProofs +decide only [aj, ai, Option.bind_some, Option.map_some, Al (List.mem_range.mp ht)]
     rfl
 refine Ok.set K "kept" (.list (((List.range 10).filter fun p => (its.filter fun i => decide (i.bar = 0)).all fun i => (gt i.table).testBit p).map dn)) ?_ (by decide) fun ρ K => ?_
 . simp only [bY] at K
   have er : ix [dn 10] = some ((List.range 10).map dn) := rfl
   simp -implicitDefEqProofs +decide only [bb, ai, Option.bind_some, fB, er]
   rw [ev (enc := dn) (p := fun p => (its.filter fun i => decide (i.bar = 0)).all fun i => (gt i.table).testBit p) (out := fun p => [dn p])]
   . rw [fJ, Option.bind_some, dL (by rw [List.length_map]; exact Nat.le_trans (List.length_filter_le _ _) (by decide))]
     rfl
   . intro p hp
     refine (cF _ rfl ?_ (fun _ => rfl))
     simp -implicitDefEqProofs +decide only [eu, ao, ne_eq, Option.bind_some, K, o8]
     rw [ev (enc := It.d) (p := fun i => decide (i.bar = 0)) (out := fun i => [.bool ((gt i.table).testBit p)])]
     . rw [fJ, Option.bind_some, dL (by rw [List.length_map]; with_reducible exact Om.lN (OfNat.ofNat _) ‹_› rfl)]
       rw [show (its.filter fun i => decide (i.bar = 0)).map (fun i => D.bool ((gt i.table).testBit p)) = ((its.filter fun i => decide (i.bar = 0)).map fun i => (gt i.table).testBit p).map .bool by rw [List.map_map]; rfl]
       simp -implicitDefEqProofs +decide only [ai, Option.bind_some, Option.map_some, qy, jx, jz, jA, jy]
       rw [List.all_map]; rfl
     . intro i hi
       refine (cF _ rfl ?_ (fun _ => ?_))
       . simp -implicitDefEqProofs +decide only [aj, ag, cB, Option.bind_some, tH, jE]
       . simp -implicitDefEqProofs +decide only [eu, aj, ao, ne_eq, ag, Option.map_some, K, pE (oa (eC i hi).le), Ao (List.mem_range.mp hp)]
 refine Ok.set K "names" vp (by kernel_rfl) (by decide) fun ρ K => ?_
 have hsk := xO mR M7 say closed shift
 generalize hke : (List.range 10).filter (fun p => (its.filter fun i => decide (i.bar = 0)).all fun i => (gt i.table).testBit p) = kept at K hsk
 have hkm : ∀ p ∈ kept, p < 10 := fun p h => by
  rw [<- hke] at h; exact List.mem_range.mp (List.mem_filter.mp h).1
 have hkl : kept.length ≤ 10 := by
  rw [<- hke]; exact Nat.le_trans (List.length_filter_le _ _) (by decide)
 refine Ok.set K "every" (dn (lx shift known)) ?_ (by decide) fun ρ K => ?_
 . simp only [bY] at K
   have er : ix [dn 16] = some ((List.range 16).map dn) := rfl
   simp -implicitDefEqProofs +decide only [bb, ai, Option.bind_some, fB, er]
   rw [ev (enc := dn) (p := fun t => kept.all fun p => (gt t).testBit p) (out := fun t => [dn (2 ^ (t + shift))])]
   . rw [fJ, Option.bind_some, dL (by rw [List.length_map]; exact Nat.le_trans (List.length_filter_le _ _) (by decide))]
     rw [show ((List.range 16).filter fun t => kept.all fun p => (gt t).testBit p).map (fun t => dn (2 ^ (t + shift))) = (((List.range 16).filter fun t => kept.all fun p => (gt t).testBit p).map fun t => 2 ^ (t + shift)).map dn by rw [List.map_map]; rfl]
     simp -implicitDefEqProofs +decide only [ai, Option.bind_some, Option.map_some, B7]
     rw [<- hsk]; rfl
   . intro t ht
     have ht := List.mem_range.mp ht
     refine (cF _ rfl ?_ (fun _ => ?_))
     . simp -implicitDefEqProofs +decide only [eu, ao, ne_eq, Option.bind_some, K, eO]
       rw [cW (enc := dn) (out := fun p => .bool ((gt t).testBit p))]
       . rw [Option.bind_some, dL (by rw [List.length_map]; with_reducible exact Om.lN (OfNat.ofNat _) ‹_› rfl)]
         rw [show kept.map (fun p => D.bool ((gt t).testBit p)) = (kept.map fun p => (gt t).testBit p).map .bool by rw [List.map_map]; rfl]
         simp -implicitDefEqProofs +decide only [ai, Option.bind_some, Option.map_some, qy, jx, jz, jA, jy]
         rw [List.all_map]; rfl
       . intro p hp
         refine (cF _ rfl rfl ?_)
         simp -implicitDefEqProofs +decide only [eu, aj, ao, ne_eq, ag, Option.map_some, K, pE ht, Ao (hkm p hp)]
     . have hsh : kt qQ (dn 1) (dn (t + shift)) = some (dn (2 ^ (t + shift))) := by
        rw [Az (by decide) (by lia), Nat.one_mul]
       simp -implicitDefEqProofs +decide only [eu, aj, ao, ne_eq, ag, Option.map_some, K, fZ, hsh]
 refine .eq rfl ⟨rfl, drawn, known, rest, nK goal eH its, shift, v7, by with_reducible exact Om.lN (OfNat.ofNat _) ‹_› rfl, ?_, say.le, say.nodup, List.mem_of_getElem? say.k0, H7, ?_⟩
 . rw [<- hdr]; exact GN eC mR hso
 . simp only [bY] at K ⊢
   simp only [K, and_self]
theorem rg (shift : Nat) : ∀ (n : Nat) (l : List Nat), l.Nodup -> (∀ t ∈ l, t < n) -> lx shift l < 2 ^ (n + shift)
 | 0, [], _, _ => Nat.pow_pos (by decide)
 | 0, a :: _, _, h => absurd (h a (.head _)) (Nat.not_lt_zero _)
 | n + 1, l, hd, h => by
  have e : 2 ^ (n + 1 + shift) = 2 ^ (n + shift) + 2 ^ (n + shift) := by
   rw [show n + 1 + shift = (n + shift) + 1 by simp +arith only, Nat.pow_succ]; simp +arith only
  by_cases c : n ∈ l
  . have hp := (List.perm_cons_erase c).map fun t => 2 ^ (t + shift)
    have hs := hp.sum_nat
    have := rg shift n (l.erase n) (hd.erase _) fun t ht => by
     have h1 := (hd.mem_erase_iff).mp ht
     have := h t h1.2
     exact Om.ne (h t h1.right) h1.left
    unfold lx at *
    rw [List.map_cons, List.sum_cons] at hs
    lia
  . have := rg shift n l hd fun t ht => by
     have := h t ht
     have : t ≠ n := fun q => c (q ▸ ht)
     with_reducible exact Om.ne ‹_› ‹_›
    lia
theorem CN {shift : Nat} : ∀ {l : List Nat}, 12 ∈ l -> 0 < lx shift l
 | a :: l, _ => by
  have := Nat.pow_pos (n := a + shift) (show 0 < 2 by decide)
  unfold lx
  rw [List.map_cons, List.sum_cons]
  ((with_reducible refine Om.lr ‹_› ?_); simp +arith only)
theorem wk {sep : List Nat} (hs : ∀ c ∈ sep, c < 1114112) : ∀ {ls : List (List Nat)}, (∀ l ∈ ls, ∀ c ∈ l, c < 1114112) -> ∀ c ∈ iU sep ls, c < 1114112
 | [], _, c, h => by cases h
 | [x], hl, c, h => hl x (.head _) c h
 | x :: y :: r, hl, c, h => by
  rw [iU, List.append_assoc] at h
  rcases List.mem_append.mp h with h | h
  . exact hl x (.head _) c h
  . rcases List.mem_append.mp h with h | h
    . exact hs c h
    . exact wk hs (fun l h => hl l (.tail _ h)) c h
theorem BH (c : Char) : c.toNat < 1114112 := by
 have h : c.val.toNat.isValidChar := c.valid
 show c.val.toNat < 1114112
 rcases h with h | ⟨_, h⟩ <;> (first | with_reducible assumption | with_reducible exact Om.lS (OfNat.ofNat _) ‹_› rfl)
theorem CX (N : Nat) : ∀ l ∈ eQ N, ∀ c ∈ l, c < 1114112 := by
 intro l hl c hc
 unfold eQ at hl
 rcases List.mem_append.mp hl with hl | hl
 . (refine ax (List.mem_map.mp hl) fun i hi q0 => ?_; subst q0)
   exact MB (List.mem_range.mp (List.mem_filter.mp hi).1) c hc
 . split at hl
   . cases hl
   . rw [List.mem_singleton.mp hl, qS] at hc
     rcases List.mem_append.mp hc with hc | hc
     . simp only [List.mem_cons, List.not_mem_nil, or_false] at hc; lia
     . unfold hx at hc
       (refine ax (List.mem_map.mp hc) fun d _ q0 => ?_; subst q0)
       exact BH d
theorem Hi (aU : Addr) (xs : List Int) (hl : xs.length ≤ 63) : ∃ (ρ' : af) (ds : List D) (dT dr : D), zV (upd (fun _ => none) "script" (.list (xs.map .int))) = some (.next, ρ') /\ nT ρ' = some ds /\
 ((dI (fun _ => none) ["back", "told"] ds).bind fun ρ => (zZ aU (upd (upd ρ "look" eZ) "pile" (.list []))).bind vx) = some dT /\ wa ρ' = some dr /\ oN dT dr = some (.bool true) /\ zW ρ' = some (.bool true) := by
 obtain ⟨f, ρ, e, rfl, drawn, known, rest, fin, shift, v7, hdl, qW, hk, hnd, h12, hsh, K⟩ := Hj xs hl
 simp only [bY] at K
 refine ⟨ρ, [.list ((ic drawn rest).map .int), .list ((ic drawn rest).map di)], .list (fin.map .int), .list (fin.map .int), e, ?_, CO aU drawn rest fin v7 (by with_reducible exact Om.lN (OfNat.ofNat _) ‹_› rfl) qW, ?_, sV (zM fin 0) (by decide), ?_⟩
 . unfold nT nG
   dsimp only
   simp -implicitDefEqProofs +decide only [ai, K]
 . unfold wa qJ
   dsimp only
   exact K.2.2.1
 . unfold zW uV
   dsimp only
   have hp := rg shift 16 known hnd fun t ht => oa (hk t ht)
   have h47 : 2 ^ (16 + shift) ≤ 2 ^ 47 := Nat.pow_le_pow_right (by decide) (by with_reducible exact Om.pL (OfNat.ofNat _) ‹_› rfl)
   have hN : lx shift known < 2 ^ 47 := Nat.lt_of_lt_of_le hp h47
   have h0 := CN (shift := shift) h12
   have df := mw hnd hk
   have hf := zJ (lx shift known) h0 (Nat.lt_trans hN (by decide))
   have hw := Bo (lx shift known) h0 (Nat.lt_trans hN (by decide))
   have hq := sV (kq (j0 (wk (sep := [44, 32]) (by decide) (CX (lx shift known)))) 0) (by decide)
   simp -implicitDefEqProofs +decide only [ai, Option.bind_some, fB, K, eO]
   rw [cW (enc := dn) (out := fun t => dn (2 ^ (t + shift)))]
   . rw [Option.bind_some, dL (by rw [List.length_map]; lia)]
     rw [show known.map (fun t => dn (2 ^ (t + shift))) = (known.map fun t => 2 ^ (t + shift)).map dn by rw [List.map_map]; rfl]
     simp -implicitDefEqProofs +decide only [ai, Option.bind_some, Option.map_some, B7]
     unfold lx at hf hw hq
     simp -implicitDefEqProofs +decide only [hf]
     unfold vp lx
     simp -implicitDefEqProofs +decide only [ag, hw, hq]
   . intro t ht
     refine (cF _ rfl rfl ?_)
     have := hk t ht
     have hsh : kt qQ (dn 1) (dn (t + shift)) = some (dn (2 ^ (t + shift))) := by
      rw [Az (by decide) (by lia), Nat.one_mul]
     simp -implicitDefEqProofs +decide only [eu, aj, ao, ne_eq, ag, Option.map_some, K, fZ, hsh]
noncomputable def ob (P : Params) (a : Addr) : Obj := ((Ie P).get a).getD default
theorem Gh {P : Params} (ha : a < 286) (hf : (ob P a).isFreed = false) : (H1 P).get? a = some (ob P a) := by
 refine Heap.get?_some_iff.mpr ⟨?_, hf⟩
 unfold H1
 rw [absHeap_at, if_pos ha]; rfl
noncomputable def jS (o : Obj) : FuncData := match o.data with
 | .func fd => fd
 | _ => default
noncomputable def j1 (o : Obj) : Array Value := match o.data with
 | .fields vs => vs
 | _ => #[]
noncomputable def iz (o : Obj) : Array DictEntry := match o.data with
 | .dict es _ => es
 | _ => #[]
noncomputable def vB : Option Value -> Tok
 | some (.str _ t) => t
 | some (.int _ t) => t
 | _ => default
structure aE (w : World) (h : Heap) (mg mb : Str -> Option Value) : Prop where
 y : ∀ b o, (H1 w.params).get? b = some o -> h.get? b = some o
 g : h.Ns mainGlobals mg
 b : h.Ns builtinsNs mb
 nolimit : h.NoLimit
 nodigits : ∃ mc, h.Ns cStatics mc /\ mc "sys.int_max_str_digits" = none
 builtins : ∀ x : Str, x ≠ "__name__" -> mb x = bootBuiltins x
 bmain : ∃ bm ob, mg "__builtins__" = some (.ref bm) /\ bm ≠ builtinsNs /\ h.get? bm = some ob /\ ob.cls = .type "module" /\ ob.dict = some builtinsNs /\ ob.data = .plain
noncomputable abbrev tT : Addr := 265
def Cx (w : World) (h : Heap) (mg mb : Str -> Option Value) : dd := ⟨pw, w, TI.gone h [tT], mg, mb⟩
theorem NH (P : Params) : ob P tT = tabObj #[] := by kernel_rfl
theorem aE.at_ (L : aE w h mg mb) (ha : a < 286) (hf : (ob w.params a).isFreed = false) : h.get? a = some (ob w.params a) := L.y _ _ (Gh ha hf)
theorem aE.t (L : aE w h mg mb) : h.get? tT = some (tabObj #[]) := by
 have := L.at_ (a := tT) (by decide) (by rw [NH]; rfl)
 rw [NH] at this; exact this
theorem gy (e : h.get? a = some o) (ha : a ≠ tT) : (Cx w h mg mb).h₀.get? a = some o := (TI.gone_get (by simpa using ha)).trans e
theorem aE.ns (L : aE w h mg mb) {m : Str -> Option Value} (x : h.Ns a m) : (Cx w h mg mb).h₀.Ns a m := by
 (refine bv x fun o es ep ho hd r => ?_; clear x)
 refine (fD o es ep (gy ho (fun q => ?_)) hd r)
 subst q
 rw [L.t] at ho; (replace ho := siE ho; subst ho); cases hd
theorem aE.ok (L : aE w h mg mb) : (Cx w h mg mb).Ok where
 g := L.ns L.g
 b := L.ns L.b
 nolimit := let ⟨mc, a, b⟩ := L.nolimit; ⟨mc, L.ns a, b⟩
 nodigits := let ⟨mc, a, b⟩ := L.nodigits; ⟨mc, L.ns a, b⟩
 builtins := L.builtins
theorem aE.bat (L : aE w h mg mb) : (Cx w h mg mb).h₀.BuiltinsAt (Cx w h mg mb).mg tT := by
 refine lC L.bmain fun bm o h1 h2 h3 h4 h5 h6 => ?_
 have hT : bm ≠ tT := fun q => by subst q; rw [L.t] at h3; (replace h3 := siE h3; subst h3); cases h6
 refine ⟨bm, o, h1, h2, fun q => ?_, hT, gy h3 hT, h4, h5, h6⟩
 subst q
 refine bv L.g fun o' es ep ho hd _ => ?_
 rw [ho] at h3; (replace h3 := siE h3; subst h3)
 rw [hd] at h6; cases h6
def fnL (P : Params) (a c : Nat) := ((ob P a).isFreed, (ob P c).isFreed, (ob P a).data, (jS (ob P a)).code, (jS (ob P a)).body, (jS (ob P a)).closure, (jS (ob P a)).scope, (jS (ob P a)).globals, (jS (ob P a)).builtins, (ob P c).data, (j1 (ob P c))[1]?)
def fnR (P : Params) (a c k : Nat) := (false, false, Data.func (jS (ob P a)), Value.ref c, FuncBody.stmts (bd ah k), ([] : List (Str × Addr)), aQ ah k, mainGlobals, builtinsNs, Data.fields (j1 (ob P c)), some (Value.str (jS (ob P a)).qualname (vB (j1 (ob P c))[1]?)))
abbrev ct (P : Params) (a c k : Nat) : Prop := fnL P a c = fnR P a c k
theorem v0 {P : Params} {a : Nat} (f : ct P a c k) : (ob P a).isFreed = false /\ (ob P c).isFreed = false /\ (ob P a).data = .func (jS (ob P a)) /\ (jS (ob P a)).code = .ref c /\ (jS (ob P a)).body = .stmts (bd ah k) /\ (jS (ob P a)).closure = [] /\ (jS (ob P a)).scope = aQ ah k /\ (jS (ob P a)).globals = mainGlobals /\ (jS (ob P a)).builtins = builtinsNs /\ (ob P c).data = .fields (j1 (ob P c)) /\ (j1 (ob P c))[1]? = some (.str (jS (ob P a)).qualname (vB (j1 (ob P c))[1]?)) := by
 unfold ct fnL fnR at f
 simpa only [Prod.mk.injEq] using f
noncomputable def scF (sc : Scope) := (sc.kind, sc.isCoroutine, sc.isGenerator, sc.names.all fun p => !(p.2 == .free))
theorem aE.fn (L : aE w h mg mb) {a : Nat} (f : ct w.params a c k) (ha : a < 286 /\ c < 286 /\ a ≠ tT /\ c ≠ tT) (hb : ∀ dx : List Value, dx.length = xs.length -> bindArgs (jS (ob w.params a)) ⟨dx, []⟩ = pure (xs.zip dx))
 (hs : scF (aQ ah k) = (.function, false, false, true)) : eB (Cx w h mg mb) a xs (bd ah k) (aQ ah k) := by
 simp only [scF, Prod.mk.injEq] at hs
 refine mE (v0 f) fun f1 f2 f3 f4 f5 f6 f7 f8 f9 f10 f11 => ?_
 (refine wQ hs fun s1 s2 s3 s4 => ?_; clear hs)
 (refine wQ ha fun h1 h2 h3 h4 => ?_; clear ha)
 exact ⟨(mG _ _ (gy (L.at_ h1 f1) h3) f3 (nv c _ _ _ f4 (gy (L.at_ h2 f2) h4) f10 f11) f5 f6 f7 f8 f9 hb), s1, s2, s3, s4⟩
theorem fF (h : ∀ v, bindArgs fd ⟨[v], []⟩ = pure [(x, v)]) : ∀ dx : List Value, dx.length = [x].length -> bindArgs fd ⟨dx, []⟩ = pure ([x].zip dx) := fun dx e => by
 cases dx with
 | nil => cases e
 | cons v r => cases r with
  | nil => exact h v
  | cons _ _ => cases e
theorem D9 (h : ∀ u v, bindArgs fd ⟨[u, v], []⟩ = pure [(x, u), (y, v)]) : ∀ dx : List Value, dx.length = [x, y].length -> bindArgs fd ⟨dx, []⟩ = pure ([x, y].zip dx) := fun dx e => by
 cases dx with
 | nil => cases e
 | cons u r => cases r with
  | nil => cases e
  | cons v r => cases r with
   | nil => exact h u v
   | cons _ _ => cases e
theorem Da (h : ∀ u v w, bindArgs fd ⟨[u, v, w], []⟩ = pure [(x, u), (y, v), (z, w)]) : ∀ dx : List Value, dx.length = [x, y, z].length -> bindArgs fd ⟨dx, []⟩ = pure ([x, y, z].zip dx) := fun dx e => by
 cases dx with
 | nil => cases e
 | cons u r => cases r with
  | nil => cases e
  | cons v r => cases r with
   | nil => cases e
   | cons w r => cases r with
    | nil => exact h u v w
    | cons _ _ => cases e
theorem aE.f_b1 (L : aE w h mg mb) : eB (Cx w h mg mb) 32 ["code"] (bd ah 2) (aQ ah 2) :=
 L.fn (show ct w.params 32 31 2 by kernel_rfl) (by decide) (fF fun u => by kernel_rfl) (by kernel_rfl)
theorem aE.f_b3 (L : aE w h mg mb) : eB (Cx w h mg mb) 78 ["code"] (bd ah 4) (aQ ah 4) :=
 L.fn (show ct w.params 78 77 4 by kernel_rfl) (by decide) (fF fun u => by kernel_rfl) (by kernel_rfl)
theorem aE.f_c4 (L : aE w h mg mb) : eB (Cx w h mg mb) 85 ["code"] (bd ah 5) (aQ ah 5) :=
 L.fn (show ct w.params 85 84 5 by kernel_rfl) (by decide) (fF fun u => by kernel_rfl) (by kernel_rfl)
theorem aE.f_c6 (L : aE w h mg mb) : eB (Cx w h mg mb) 97 ["code"] (bd ah 7) (aQ ah 7) :=
 L.fn (show ct w.params 97 96 7 by kernel_rfl) (by decide) (fF fun u => by kernel_rfl) (by kernel_rfl)
theorem aE.f_c7 (L : aE w h mg mb) : eB (Cx w h mg mb) 109 ["code"] (bd ah 9) (aQ ah 9) :=
 L.fn (show ct w.params 109 108 9 by kernel_rfl) (by decide) (fF fun u => by kernel_rfl) (by kernel_rfl)
theorem aE.f_c8 (L : aE w h mg mb) : eB (Cx w h mg mb) 133 ["code"] (bd ah 11) (aQ ah 11) :=
 L.fn (show ct w.params 133 132 11 by kernel_rfl) (by decide) (fF fun u => by kernel_rfl) (by kernel_rfl)
theorem aE.f_c9 (L : aE w h mg mb) : eB (Cx w h mg mb) 151 ["code"] (bd ah 13) (aQ ah 13) :=
 L.fn (show ct w.params 151 150 13 by kernel_rfl) (by decide) (fF fun u => by kernel_rfl) (by kernel_rfl)
theorem aE.f_fl (L : aE w h mg mb) : eB (Cx w h mg mb) 159 ["flags"] (bd ah 16) (aQ ah 16) :=
 L.fn (show ct w.params 159 158 16 by kernel_rfl) (by decide) (fF fun u => by kernel_rfl) (by kernel_rfl)
theorem aE.f_pv (L : aE w h mg mb) : eB (Cx w h mg mb) 196 ["iterator"] (bd ah 20) (aQ ah 20) :=
 L.fn (show ct w.params 196 195 20 by kernel_rfl) (by decide) (fF fun u => by kernel_rfl) (by kernel_rfl)
theorem aE.f_te (L : aE w h mg mb) : eB (Cx w h mg mb) 206 ["x"] (bd ah 73) (aQ ah 73) :=
 L.fn (show ct w.params 206 205 73 by kernel_rfl) (by decide) (fF fun u => by kernel_rfl) (by kernel_rfl)
theorem aE.f_nt (L : aE w h mg mb) : eB (Cx w h mg mb) 213 ["x"] (bd ah 74) (aQ ah 74) :=
 L.fn (show ct w.params 213 212 74 by kernel_rfl) (by decide) (fF fun u => by kernel_rfl) (by kernel_rfl)
theorem aE.f_eo (L : aE w h mg mb) : eB (Cx w h mg mb) 220 ["x"] (bd ah 75) (aQ ah 75) :=
 L.fn (show ct w.params 220 219 75 by kernel_rfl) (by decide) (fF fun u => by kernel_rfl) (by kernel_rfl)
theorem aE.f_mi (L : aE w h mg mb) : eB (Cx w h mg mb) 227 ["table", "one", "two"] (bd ah 77) (aQ ah 77) :=
 L.fn (show ct w.params 227 226 77 by kernel_rfl) (by decide) (Da fun u v z => by kernel_rfl) (by kernel_rfl)
theorem aE.f_it (L : aE w h mg mb) : eB (Cx w h mg mb) 234 ["cells"] (bd ah 78) (aQ ah 78) :=
 L.fn (show ct w.params 234 233 78 by kernel_rfl) (by decide) (fF fun u => by kernel_rfl) (by kernel_rfl)
theorem aE.f_sa (L : aE w h mg mb) : eB (Cx w h mg mb) 241 ["items"] (bd ah 79) (aQ ah 79) :=
 L.fn (show ct w.params 241 240 79 by kernel_rfl) (by decide) (fF fun u => by kernel_rfl) (by kernel_rfl)
theorem aE.f_co (L : aE w h mg mb) : eB (Cx w h mg mb) 246 ["row", "first", "step"] (bd ah 80) (aQ ah 80) :=
 L.fn (show ct w.params 246 245 80 by kernel_rfl) (by decide) (Da fun u v z => by kernel_rfl) (by kernel_rfl)
theorem aE.f_re (L : aE w h mg mb) : eB (Cx w h mg mb) 253 ["tape"] (bd ah 81) (aQ ah 81) :=
 L.fn (show ct w.params 253 252 81 by kernel_rfl) (by decide) (fF fun u => by kernel_rfl) (by kernel_rfl)
theorem aE.f_ju (L : aE w h mg mb) : eB (Cx w h mg mb) 258 ["code"] (bd ah 82) (aQ ah 82) :=
 L.fn (show ct w.params 258 257 82 by kernel_rfl) (by decide) (fF fun u => by kernel_rfl) (by kernel_rfl)
theorem aE.f_sy (L : aE w h mg mb) : eB (Cx w h mg mb) 263 ["text"] (bd ah 83) (aQ ah 83) :=
 L.fn (show ct w.params 263 262 83 by kernel_rfl) (by decide) (fF fun u => by kernel_rfl) (by kernel_rfl)
theorem aE.f_ta (L : aE w h mg mb) : eB (Cx w h mg mb) 270 ["back", "told"] (bd ah 84) (aQ ah 84) :=
 L.fn (show ct w.params 270 269 84 by kernel_rfl) (by decide) (D9 fun u v => by kernel_rfl) (by kernel_rfl)
theorem aE.f_ke (L : aE w h mg mb) : eB (Cx w h mg mb) 275 ["table"] (bd ah 85) (aQ ah 85) :=
 L.fn (show ct w.params 275 274 85 by kernel_rfl) (by decide) (fF fun u => by kernel_rfl) (by kernel_rfl)
theorem aE.f_wo (L : aE w h mg mb) : eB (Cx w h mg mb) 280 ["number", "names"] (bd ah 86) (aQ ah 86) :=
 L.fn (show ct w.params 280 279 86 by kernel_rfl) (by decide) (D9 fun u v => by kernel_rfl) (by kernel_rfl)
theorem aE.f_la (L : aE w h mg mb) : eB (Cx w h mg mb) 285 ["script"] (bd ah 87) (aQ ah 87) :=
 L.fn (show ct w.params 285 284 87 by kernel_rfl) (by decide) (fF fun u => by kernel_rfl) (by kernel_rfl)
theorem Hl (P : Params) : ((ob P mainGlobals).isFreed, (ob P mainGlobals).data) = (false, Data.dict (iz (ob P mainGlobals)) (match (ob P mainGlobals).data with | .dict _ n => n | _ => 0)) := by kernel_rfl
theorem aE.mg_eq (L : aE w h mg mb) (x : Str) : mg x = nsFind (iz (ob w.params mainGlobals)) x := by
 refine fh L.g fun o es ep ho hd _ hm => ?_
 have hz := Hl w.params
 simp only [Prod.mk.injEq] at hz
 have := L.at_ (a := mainGlobals) (by decide) hz.1
 rw [ho] at this; cases this
 rw [<- hm x, iz, hd]
theorem aE.glob (L : aE w h mg mb) (e : nsFind (iz (ob w.params mainGlobals)) x = some v) : aw (Cx w h mg mb) x v := .inl ((L.mg_eq x).trans e)
theorem aE.boot (L : aE w h mg mb) (e : nsFind (iz (ob w.params mainGlobals)) x = none) (hx : x ≠ "__name__") (e' : bootBuiltins x = some v) : aw (Cx w h mg mb) x v := .inr ⟨(L.mg_eq x).trans e, (L.builtins x hx).trans e'⟩
theorem aE.B (L : aE w h mg mb) : cw (Cx w h mg mb) where
 len := L.boot (by kernel_rfl) (by decide) (by kernel_rfl)
 ord := L.boot (by kernel_rfl) (by decide) (by kernel_rfl)
 chr := L.boot (by kernel_rfl) (by decide) (by kernel_rfl)
 hex := L.boot (by kernel_rfl) (by decide) (by kernel_rfl)
 max := L.boot (by kernel_rfl) (by decide) (by kernel_rfl)
 all := L.boot (by kernel_rfl) (by decide) (by kernel_rfl)
 sum := L.boot (by kernel_rfl) (by decide) (by kernel_rfl)
 isinstance := L.boot (by kernel_rfl) (by decide) (by kernel_rfl)
 range := L.boot (by kernel_rfl) (by decide) (by kernel_rfl)
 enumerate := L.boot (by kernel_rfl) (by decide) (by kernel_rfl)
 zip := L.boot (by kernel_rfl) (by decide) (by kernel_rfl)
 list := L.boot (by kernel_rfl) (by decide) (by kernel_rfl)
 int := L.boot (by kernel_rfl) (by decide) (by kernel_rfl)
theorem aE.R (L : aE w h mg mb) : jK (Cx w h mg mb) 253 where
 ok := L.ok
 B := L.B
 gn := L.boot (by kernel_rfl) (by decide) (by kernel_rfl)
 gs := L.boot (by kernel_rfl) (by decide) (by kernel_rfl)
 gi := L.boot (by kernel_rfl) (by decide) (by kernel_rfl)
 gb := L.boot (by kernel_rfl) (by decide) (by kernel_rfl)
 fp := (bC 196 (L.glob (by kernel_rfl)) L.f_pv)
 fr := L.f_re
 gr := L.glob (by kernel_rfl)
noncomputable def wb (e : DictEntry) : Bool := match e.key with
 | .int k _ => decide (e.hash = hashInt k) && (match e.val with
  | .str _ _ => true
  | _ => false)
 | _ => false
theorem A3 {e : DictEntry} (h : wb e = true) : ∃ i t x u, e = ⟨hashInt i, .int i t, .str x u⟩ := by
 obtain ⟨hs, k, v⟩ := e
 unfold wb at h
 dsimp only at h
 split at h
 . rw [Bool.and_eq_true, decide_eq_true_eq] at h
   obtain ⟨rfl, h⟩ := h
   split at h
   . exact (vJ _ _ _ _ rfl)
   . cases h
 . cases h
theorem tC (prog : Program) (w : World) : ∀ es : List DictEntry, es.all wb = true -> KeysOf (intKind prog w) es.toArray /\ ∀ k, jI (findBy (intKind prog w).is es.toArray k) ((iq es).lookup k)
 | [], _ => ⟨fun e he => by simp at he, fun k => rfl⟩
 | e :: r, hg => by
  rw [List.all_cons, Bool.and_eq_true] at hg
  (refine yE (A3 hg.1) fun i t x u q0 => ?_; subst q0)
  refine Ea (tC prog w r hg.2) fun ih1 ih2 => ?_
  refine ⟨fun e he => ?_, fun k => ?_⟩
  . rcases List.mem_cons.mp (by simpa using he) with rfl | he
    . exact (bC i (o7 _ _ _ _) rfl)
    . exact ih1 e (by simpa using he)
  . have e1 : iq (⟨hashInt i, .int i t, .str x u⟩ :: r) = (i, .str x.cps.toList) :: iq r := rfl
    have := ih2 k
    unfold findBy at this ⊢
    rw [e1, List.lookup_cons, List.find?_toArray, List.find?_cons]
    rw [List.find?_toArray] at this
    have hk : (intKind prog w).is k (.int i t) = (k == i) := by
     show (i == k) = (k == i)
     rw [Bool.eq_iff_iff, beq_iff_eq, beq_iff_eq]; exact eq_comm
    simp only [hk]
    cases q : k == i with
    | true => exact (bC (.str x u) rfl (fun K => by simp only [bJ]; exact ⟨u, rfl⟩))
    | false => exact this
noncomputable def wd (e : DictEntry) : Bool := match e.key with
 | .str _ _ => match e.val with
  | .int _ _ => true
  | _ => false
 | _ => false
noncomputable def B6 (v : Value) : Str := match v with
 | .str x _ => x
 | _ => default
theorem A5 {e : DictEntry} (h : wd e = true) : ∃ hs x t i u, e = ⟨hs, .str x t, .int i u⟩ := by
 obtain ⟨hs, k, v⟩ := e
 unfold wd at h
 dsimp only at h
 split at h
 . split at h
   . exact ⟨_, _, _, _, _, rfl⟩
   . cases h
 . cases h
theorem ui (prog : Program) (w : World) : ∀ es : List DictEntry, es.all wd = true -> es.map (·.hash) = es.map (fun e => hashStr w (B6 e.key)) -> KeysOf (PySem.strKind prog w) es.toArray /\ ∀ k, jI (findBy (PySem.strKind prog w).is es.toArray (S k)) ((jq es).lookup k)
 | [], _, _ => ⟨fun e he => by simp at he, fun k => rfl⟩
 | e :: r, hg, hh => by
  rw [List.all_cons, Bool.and_eq_true] at hg
  (refine Ge (A5 hg.1) fun hs x t i u q0 => ?_; subst q0)
  rw [List.map_cons, List.map_cons, List.cons.injEq] at hh
  refine Ea (ui prog w r hg.2 hh.2) fun ih1 ih2 => ?_
  refine ⟨fun e he => ?_, fun k => ?_⟩
  . rcases List.mem_cons.mp (by simpa using he) with rfl | he
    . exact (bC x (vA _ _ _ _) hh.1)
    . exact ih1 e (by simpa using he)
  . have e1 : jq (⟨hs, .str x t, .int i u⟩ :: r) = (x.cps.toList, .int i) :: jq r := rfl
    have := ih2 k
    unfold findBy at this ⊢
    rw [e1, List.lookup_cons, List.find?_toArray, List.find?_cons]
    rw [List.find?_toArray] at this
    have hk : (PySem.strKind prog w).is (S k) (.str x t) = (k == x.cps.toList) := by
     show (x == S k) = (k == x.cps.toList)
     rw [Bool.eq_iff_iff, beq_iff_eq, beq_iff_eq]
     constructor
     . rintro rfl; simp
     . rintro rfl; simp
    simp only [hk]
    cases q : k == x.cps.toList with
    | true => exact (bC (.int i u) rfl (fun K => by simp only [bJ]; exact ⟨u, rfl⟩))
    | false => exact this
noncomputable def GL (o : Obj) : Nat := match o.data with
 | .dict _ n => n
 | .set _ n _ => n
 | _ => 0
noncomputable def pU (o : Obj) : Array (Int × Value) := match o.data with
 | .set es _ _ => es
 | _ => #[]
noncomputable def NZ (o : Obj) : SetTable := match o.data with
 | .set _ _ t => t
 | _ => default
noncomputable def wc (e : Int × Value) : Bool := match e.2 with
 | .int i _ => decide (e.1 = hashInt i)
 | _ => false
noncomputable def u7 (es : List (Int × Value)) : List Int := es.filterMap fun e => match e.2 with
 | .int i _ => some i
 | _ => none
theorem A4 {e : Int × Value} (h : wc e = true) : ∃ i t, e = (hashInt i, .int i t) := by
 obtain ⟨hs, v⟩ := e
 unfold wc at h
 dsimp only at h
 split at h
 . rw [decide_eq_true_eq] at h
   rw [h]
   exact (j2 _ _ rfl)
 . cases h
theorem uc (prog : Program) (w : World) : ∀ es : List (Int × Value), es.all wc = true -> ElemsOf (intKind prog w) es /\ ∀ k, (u7 es).contains k = true ↔ ∃ e ∈ es, (intKind prog w).is k e.2 = true
 | [], _ => ⟨fun e he => by simp at he, fun k => by simp [u7]⟩
 | e :: r, hg => by
  rw [List.all_cons, Bool.and_eq_true] at hg
  (refine Br (A4 hg.1) fun i t q0 => ?_; subst q0)
  refine Ea (uc prog w r hg.2) fun ih1 ih2 => ?_
  refine ⟨fun e he => ?_, fun k => ?_⟩
  . rcases List.mem_cons.mp he with rfl | he
    . exact ⟨(bC i (o7 _ _ _ _) rfl), rfl⟩
    . exact ih1 e he
  . have e1 : u7 ((hashInt i, .int i t) :: r) = i :: u7 r := rfl
    have hk : (intKind prog w).is k (.int i t) = true ↔ k = i := by
     show (i == k) = true ↔ _
     rw [beq_iff_eq]; exact eq_comm
    rw [e1, List.contains_cons, Bool.or_eq_true, beq_iff_eq, ih2 k]
    constructor
    . rintro (rfl | ⟨e, he, q⟩)
      . exact (bC _ (.head _) (hk.mpr rfl))
      . exact (bC e (.tail _ he) q)
    . rintro ⟨e, he, q⟩
      rcases List.mem_cons.mp he with rfl | he
      . exact .inl (hk.mp q)
      . exact .inr (bC e he q)
theorem AX {a b : List Int} (h : AW a b = true) (k : Int) : b.contains k = a.contains k := by
 unfold AW at h
 rw [Bool.and_eq_true, List.all_eq_true, List.all_eq_true] at h
 rw [Bool.eq_iff_iff, List.contains_iff_mem, List.contains_iff_mem]
 exact ⟨fun m => List.contains_iff_mem.mp (h.2 k m), fun m => List.contains_iff_mem.mp (h.1 k m)⟩
theorem aE.intD (L : aE w h mg mb) {a : Nat} {rows : List (Int × D)} (hn : nsFind (iz (ob w.params mainGlobals)) x = some (.ref a)) (ha : a < 286 /\ a ≠ tT /\ (a == sysModules) = false)
 (f : ((ob w.params a).isFreed, (ob w.params a).cls, (ob w.params a).dict, (ob w.params a).slots, (ob w.params a).data, (iz (ob w.params a)).toList.all wb, iq (iz (ob w.params a)).toList) = (false, .type "dict", none, #[], Data.dict (iz (ob w.params a)) (GL (ob w.params a)), true, rows)) :
 lG (Cx w h mg mb) x fun i => rows.lookup i := by
 simp only [Prod.mk.injEq] at f
 (refine vH f fun f1 f2 f3 f4 f5 f6 q0 => ?_; clear f; subst q0)
 refine Ea (tC pw w (iz (ob w.params a)).toList f6) fun r1 r2 => ?_
 rw [Array.toArray_toList] at r1 r2
 exact ⟨a, _, L.glob hn, ha.2.2, ⟨_, _, _, gy (L.at_ ha.1 f1) ha.2.1, ⟨f2, f3, f4⟩, f5, r1, fun _ => rfl⟩, r2⟩
theorem aE.strD (L : aE w h mg mb) {a : Nat} {rows : List (List Nat × D)} (hn : nsFind (iz (ob w.params mainGlobals)) x = some (.ref a)) (ha : a < 286 /\ a ≠ tT /\ (a == sysModules) = false)
 (hh : (iz (ob w.params a)).toList.map (·.hash) = (iz (ob w.params a)).toList.map (fun e => hashStr w (B6 e.key)))
 (f : ((ob w.params a).isFreed, (ob w.params a).cls, (ob w.params a).dict, (ob w.params a).slots, (ob w.params a).data, (iz (ob w.params a)).toList.all wd, jq (iz (ob w.params a)).toList) = (false, .type "dict", none, #[], Data.dict (iz (ob w.params a)) (GL (ob w.params a)), true, rows)) :
 nb (Cx w h mg mb) x fun l => rows.lookup l := by
 simp only [Prod.mk.injEq] at f
 (refine vH f fun f1 f2 f3 f4 f5 f6 q0 => ?_; clear f; subst q0)
 refine Ea (ui pw w (iz (ob w.params a)).toList f6 hh) fun r1 r2 => ?_
 rw [Array.toArray_toList] at r1 r2
 exact ⟨a, _, L.glob hn, ha.2.2, ⟨_, _, _, gy (L.at_ ha.1 f1) ha.2.1, ⟨f2, f3, f4⟩, f5, r1, fun _ => rfl⟩, r2⟩
theorem aE.intS (L : aE w h mg mb) {a : Nat} {l : List Int} (hn : nsFind (iz (ob w.params mainGlobals)) x = some (.ref a)) (ha : a < 286 /\ a ≠ tT)
 (f : ((ob w.params a).isFreed, (ob w.params a).cls, (ob w.params a).dict, (ob w.params a).slots, (ob w.params a).data, (pU (ob w.params a)).toList.all wc, AW (u7 (pU (ob w.params a)).toList) l, (NZ (ob w.params a)).fits (pU (ob w.params a)).size, Nat.blt (pU (ob w.params a)).size scanBound) =
  (false, .type "set", none, #[], Data.set (pU (ob w.params a)) (GL (ob w.params a)) (NZ (ob w.params a)), true, true, true, true)) :
 kU (Cx w h mg mb) x fun i => l.contains i := by
 simp only [Prod.mk.injEq] at f
 (refine oW f fun f1 f2 f3 f4 f5 f6 f7 f8 f9 => ?_; clear f)
 refine Ea (uc pw w (pU (ob w.params a)).toList f6) fun r1 r2 => ?_
 refine ⟨a, _, L.glob hn, ⟨_, _, _, _, gy (L.at_ ha.1 f1) ha.2, ⟨f2, f3, f4⟩, f5, r1, fun k => ?_, Nat.le_of_ble_eq_true f9, f8, rfl⟩⟩
 show l.contains k = true ↔ _
 rw [AX f7 k]; exact r2 k
theorem aE.G (L : aE w h mg mb) : cY (Cx w h mg mb) bM where
 FLAGS := L.intD (a := 152) (rows := tj) (by kernel_rfl) (by decide) (by kernel_rfl)
 B3 := L.intD (a := 33) (rows := yV) (by kernel_rfl) (by decide) (by kernel_rfl)
 EXACT := L.strD (a := 197) (rows := qK) (by kernel_rfl) (by decide) (by kernel_rfl) (by kernel_rfl)
 NT_OFFSET := ⟨vB (nsFind (iz (ob w.params mainGlobals)) "NT_OFFSET"), L.glob (by kernel_rfl)⟩
 ENDMARKER := ⟨vB (nsFind (iz (ob w.params mainGlobals)) "ENDMARKER"), L.glob (by kernel_rfl)⟩
 b1_set := L.intS (a := 22) (l := b1L) (by kernel_rfl) (by decide) (by kernel_rfl)
 c6_set := L.intS (a := 87) (l := c6L) (by kernel_rfl) (by decide) (by kernel_rfl)
 c7_set := L.intS (a := 99) (l := c7L) (by kernel_rfl) (by decide) (by kernel_rfl)
 c8_set := L.intS (a := 123) (l := c8L) (by kernel_rfl) (by decide) (by kernel_rfl)
 c9_set := L.intS (a := 141) (l := c9L) (by kernel_rfl) (by decide) (by kernel_rfl)
theorem aE.user (L : aE w h mg mb) {a : Nat} (m : Nat) (fa : eB (Cx w h mg mb) a xs (bd ah k) (aQ ah k)) (hb : ae (Cx w h mg mb) n (aQ ah k) [] O' (bd ah k) g)
 (hn : nsFind (iz (ob w.params mainGlobals)) x = some (.ref a)) (kr : xs.all (eI bf (aQ ah k) []) = true) (hm : n + 1 ≤ m) : cZ (Cx w h mg mb) m x (.ref a) (i4 xs g) := by
 refine bk fa.ex fun o fd ho hd _ => ?_
 exact ⟨L.glob hn, bg.func ho hd, x3 (BF L.ok fa hb kr) hm⟩
theorem aE.u_mix (L : aE w h mg mb) (m : Nat) (hm : 1 ≤ m) : cZ (Cx w h mg mb) m "_law_mix" (.ref 227) nV := L.user m L.f_mi ((d_law_mix bM).2 (n := 0) L.ok L.B L.G ⟨trivial⟩) (by kernel_rfl) (by kernel_rfl) hm
theorem aE.u_ju (L : aE w h mg mb) : cZ (Cx w h mg mb) 3 "_law_judged" (.ref 258) eM :=
 L.user 3 L.f_ju ((d_law_judged bM gB1 gC4 gC6 gC7 gC8 gC9).2 (n := 1) L.ok L.B L.G ⟨L.user 1 L.f_b1 ((lI bM).2 (n := 0) L.ok L.B L.G ⟨trivial⟩) (by kernel_rfl) (by kernel_rfl) (by decide),
  L.user 1 L.f_c4 ((lJ bM).2 (n := 0) L.ok L.B L.G ⟨trivial⟩) (by kernel_rfl) (by kernel_rfl) (by decide), L.user 1 L.f_c6 ((lM bM).2 (n := 0) L.ok L.B L.G ⟨trivial⟩) (by kernel_rfl) (by kernel_rfl) (by decide),
  L.user 1 L.f_c7 ((lQ bM).2 (n := 0) L.ok L.B L.G ⟨trivial⟩) (by kernel_rfl) (by kernel_rfl) (by decide), L.user 1 L.f_c8 ((lR bM).2 (n := 0) L.ok L.B L.G ⟨trivial⟩) (by kernel_rfl) (by kernel_rfl) (by decide),
  L.user 1 L.f_c9 ((lU bM).2 (n := 0) L.ok L.B L.G ⟨trivial⟩) (by kernel_rfl) (by kernel_rfl) (by decide)⟩) (by kernel_rfl) (by kernel_rfl) (by decide)
theorem aE.U (L : aE w h mg mb) : su (Cx w h mg mb) 3 (.ref 220) oQ (.ref 213) kM (.ref 206) kN (.ref 246) iB (.ref 234) i8 (.ref 258) eM (.ref 275) gB (.ref 241) oR (.ref 263) oS (.ref 280) iD (.ref 78) nU (.ref 159) iC where
 uISEOF := L.user 3 L.f_eo ((uR bM).2 (n := 0) L.ok L.B L.G ⟨trivial⟩) (by kernel_rfl) (by kernel_rfl) (by decide)
 uISNONTERMINAL := L.user 3 L.f_nt ((i2 bM).2 (n := 0) L.ok L.B L.G ⟨trivial⟩) (by kernel_rfl) (by kernel_rfl) (by decide)
 uISTERMINAL := L.user 3 L.f_te ((jO bM).2 (n := 0) L.ok L.B L.G ⟨trivial⟩) (by kernel_rfl) (by kernel_rfl) (by decide)
 u_law_codes := L.user 3 L.f_co ((d_law_codes bM).2 (n := 0) L.ok L.B L.G ⟨trivial⟩) (by kernel_rfl) (by kernel_rfl) (by decide)
 u_law_items := L.user 3 L.f_it ((d_law_items bM nV).2 (n := 1) L.ok L.B L.G ⟨L.u_mix 1 (by decide)⟩) (by kernel_rfl) (by kernel_rfl) (by decide)
 u_law_judged := L.u_ju
 u_law_keeps := L.user 3 L.f_ke ((d_law_keeps bM).2 (n := 0) L.ok L.B L.G ⟨trivial⟩) (by kernel_rfl) (by kernel_rfl) (by decide)
 u_law_sayings := L.user 3 L.f_sa ((d_law_sayings bM nV).2 (n := 1) L.ok L.B L.G ⟨L.u_mix 1 (by decide)⟩) (by kernel_rfl) (by kernel_rfl) (by decide)
 u_law_symbols := L.user 3 L.f_sy ((d_law_symbols bM).2 (n := 0) L.ok L.B L.G ⟨trivial⟩) (by kernel_rfl) (by kernel_rfl) (by decide)
 u_law_words := L.user 3 L.f_wo ((d_law_words bM).2 (n := 0) L.ok L.B L.G ⟨trivial⟩) (by kernel_rfl) (by kernel_rfl) (by decide)
 umap_table_b3 := L.user 3 L.f_b3 ((kK bM).2 (n := 0) L.ok L.B L.G ⟨trivial⟩) (by kernel_rfl) (by kernel_rfl) (by decide)
 upretty_flags := L.user 3 L.f_fl ((iy bM).2 (n := 0) L.ok L.B L.G ⟨trivial⟩) (by kernel_rfl) (by kernel_rfl) (by decide)
noncomputable def bI (v : Value) : Int := match v with
 | .int i _ => i
 | _ => 0
noncomputable def bB (v : Value) : Bool := match v with
 | .bool b => b
 | _ => false
noncomputable def retP : Stmt -> Pos
 | .Return _ p => p
 | _ => default
noncomputable def I2 : Stmt -> Expr
 | .Return (some e) _ => e
 | _ => .Constant .none 0 default
noncomputable def IM : Expr -> Pos
 | .BoolOp _ _ p => p
 | _ => default
noncomputable def Dd : Expr -> Expr
 | .BoolOp _ [e, _] _ => e
 | _ => .Constant .none 0 default
noncomputable def cmpP : Expr -> Pos
 | .Compare _ _ _ p => p
 | _ => default
noncomputable def cmpL : Expr -> Expr
 | .Compare e _ _ _ => e
 | _ => .Constant .none 0 default
noncomputable def calP : Expr -> Pos
 | .Call (.Name _ p) _ _ _ => p
 | _ => default
noncomputable def fstE (l : List Expr) : Expr := match l with
 | e :: _ => e
 | _ => .Constant .none 0 default
noncomputable def sndE (l : List Expr) : Expr := match l with
 | _ :: e :: _ => e
 | _ => .Constant .none 0 default
noncomputable abbrev m0 : Stmt := pF (bd ah 87)
noncomputable abbrev Dy : Expr := fstE (jX m0)
noncomputable abbrev Dz : Expr := sndE (jX m0)
theorem xu : bd ah 87 = (bd ah 87).dropLast ++ [m0] := by kernel_rfl
theorem Hk : m0 = .Return (some (.BoolOp .And [.Compare (.Call (.Name "_law_tables" (calP (cmpL (Dd (I2 m0))))) [Dy, Dz] [] (vj m0)) [.Eq] [wl m0] (cmpP (Dd (I2 m0))), As m0] (IM (I2 m0)))) (retP m0) := by kernel_rfl
theorem At : jX m0 = [Dy, Dz] := by kernel_rfl
theorem aE.gni (L : aE w h mg mb) : yG (Cx w h mg mb) 189 "name_index" "get_name" "extrainfo" "names" (bd ah 19) (aQ ah 19) := by
 have f : ct w.params 189 188 19 := by kernel_rfl
 have s : ((aQ ah 19).kind, (aQ ah 19).isCoroutine, (aQ ah 19).isGenerator, (aQ ah 19).names.all fun p => !(p.2 == .free)) = (.function, false, false, true) := by kernel_rfl
 simp only [Prod.mk.injEq] at s
 refine mE (v0 f) fun f1 f2 f3 f4 f5 f6 f7 f8 f9 f10 f11 => ?_
 (refine wQ s fun s1 s2 s3 s4 => ?_; clear s)
 exact ⟨(mG _ _ (gy (L.at_ (by decide) f1) (by decide)) f3 (nv 188 _ _ _ f4 (gy (L.at_ (by decide) f2) (by decide)) f10 f11) f5 f6 f7 f8 f9 (fun u v z => by kernel_rfl)), s1, s2, s3, s4⟩
theorem aE.cd (L : aE w h mg mb) : ∀ o fd, (Cx w h mg mb).h₀.get? 270 = some o -> o.data = .func fd -> fd.code = .ref 269 := by
 intro o fd ho hd
 have f : ct w.params 270 269 84 := by kernel_rfl
 refine vG (v0 f) fun f1 f2 f3 f4 _ => ?_
 have := gy (w := w) (mg := mg) (mb := mb) (L.at_ (a := 270) (by decide) f1) (by decide)
 rw [ho] at this
 cases this
 rw [f3] at hd
 cases hd
 exact f4
theorem aE.hd (L : aE w h mg mb) : CodeHd (Cx w h mg mb).h₀ 269 tT := by
 have f : ((ob w.params 269).isFreed, (ob w.params 269).cls, (ob w.params 269).data, (j1 (ob w.params 269))[11]?, (j1 (ob w.params 269)).getD 11 .none, (j1 (ob w.params 269)).getD 18 .none, (j1 (ob w.params 269)).getD 7 .none, (j1 (ob w.params 269)).getD 9 .none, (j1 (ob w.params 269)).getD 10 .none) =
  (false, .type "code", Data.fields (j1 (ob w.params 269)), some (.ref tT), .ref tT, .str (B6 ((j1 (ob w.params 269)).getD 18 .none)) (vB (some ((j1 (ob w.params 269)).getD 18 .none))), .int (bI ((j1 (ob w.params 269)).getD 7 .none)) (vB (some ((j1 (ob w.params 269)).getD 7 .none))),
   .bool (bB ((j1 (ob w.params 269)).getD 9 .none)), .int (bI ((j1 (ob w.params 269)).getD 10 .none)) (vB (some ((j1 (ob w.params 269)).getD 10 .none)))) := by kernel_rfl
 simp only [Prod.mk.injEq] at f
 (refine oW f fun f1 f2 f3 f4 f5 f6 f7 f8 f9 => ?_; clear f)
 exact ⟨_, _, _, _, _, _, _, _, _, gy (L.at_ (by decide) f1) (by decide), f2, f3, f4, f5, f6, f7, f8, f9, by decide⟩
theorem aE.hT (L : aE w h mg mb) : (Cx w h mg mb).h₀.get? tT = none := TI.gone_none (by simp)
theorem aE.law (L : aE w h mg mb) {vs : List Value} {xs : List Int} (ha : h.get? a = some (aT vs 0)) (hv : ∀ K, ak K (xs.map .int) vs) (hl : xs.length ≤ 63) (hA : dg 4 A) (hfr : A.frames = some []) (hs : s.heap = h) :
 wpAny (model pw w) A (call (.ref 285) [.ref a]) (qq tT s (.bool true)) dq s := by
 subst hs
 refine nl (Hi 182 xs hl) fun ρ' ds dT dr e0 e1 e2 e4 e5 e6 => ?_
 have hx : a ≠ tT := fun q => by subst q; rw [L.t] at ha; cases ha
 have hU : aw (Cx w s.heap mg mb) "UNKNOWN" (.ref 182) := L.glob (by kernel_rfl)
 have hTup : aw (Cx w s.heap mg mb) "tuple" (.type "tuple") := L.boot (by kernel_rfl) (by decide) (by kernel_rfl)
 have hg : aw (Cx w s.heap mg mb) "_get_name_info" (.ref 189) := L.glob (by kernel_rfl)
 refine bk L.gni.ex fun o fd ho hd _ => ?_
 have hk := A0 (n := 0) L.ok L.gni hU
 have hbT := (mo 182 (nW 182) nV).2 (n := 2) L.ok L.B hTup hU hg ho hd hk (L.u_mix 2 (by decide))
 have hAr : aa (Cx w s.heap mg mb) 3 (aQ ah 87) (vj m0) (jX m0) nT := (nG bM oQ kM kN iB i8 eM gB oR oS iD nU iC).2 (n := 1) L.ok L.B L.G L.U L.R
 rw [At] at hAr
 exact za (n := 1) (C := Cx w s.heap mg mb) (T := tT) (c := 269) (aL := 270) (K := fun b => (Cx w s.heap mg mb).h₀.get? b) (x := .list (xs.map .int)) L.ok L.f_la L.f_ta (L.glob (by kernel_rfl)) L.cd L.hd L.bat hbT xu Hk
  ((zA bM oQ kM kN iB i8 eM gB oR oS iD nU iC).2 (n := 1) L.ok L.B L.G L.U L.R) hAr
  ((qJ bM oQ kM kN iB i8 eM gB oR oS iD nU iC).2 (n := 1) L.ok L.B L.G L.U L.R)
  ((uV bM oQ kM kN iB i8 eM gB oR oS iD nU iC).2 (n := 1) L.ok L.B L.G L.U L.R)
  hA hfr (fun b o e => (TI.gone_some e).2) (fun _ _ e => e) L.t L.hT (by simp only [bJ]; exact (fD a vs 0 rfl (gy ha hx) (hv _))) e0 e1 e2 e4 e5 e6
  (fun env => by kernel_rfl) (fun env => by kernel_rfl) (by kernel_rfl)
theorem u5 {P : Params} {h : Heap} (K : KM) : ∀ {xs : List Int} {vs : List Value}, WellAll P h vs (ofPys (xs.map PyData.int)) -> ak K (xs.map .int) vs
 | [], _, hw => by
  cases hw
  exact ak.nil
 | x :: xs, _, hw => by
  cases hw with
  | cons h1 h2 =>
   cases h1
   exact .cons d6 (u5 K h2)
theorem aE.old (L : aE w h mg mb) (k : ∀ b o, b ≠ tT -> h.get? b = some o -> h'.get? b = some o) (t : ∃ ps, h'.get? tT = some (tabObj ps)) : OldK h h' := by
 refine Ex t fun ps t => ?_
 have hT := L.t
 refine ⟨fun b o e => ?_, fun b o e => ?_⟩
 . by_cases q : b = tT
   . subst q
     rw [hT] at e; (replace e := siE e; subst e)
     obtain ⟨o, vs, _, _, _, _, _, _, _, e1, e2, e3, e4, _⟩ := L.hd
     exact .inr (.inl (qk (qm 269 o vs ((TI.gone_some e1).2) e2 e3 e4) rfl (#[]) ps rfl (by simpa using t)))
   . exact .inl (k b o q e)
 . by_cases q : b = tT
   . subst q; exact ⟨_, t⟩
   . exact ⟨o, k b o q e⟩
theorem aE.law_at (L : aE w h mg mb) : mg "law" = some (.ref 285) := (L.mg_eq "law").trans (by kernel_rfl)
theorem aE.fa (L : aE w h mg mb) {fa : Addr} (e : mg "law" = some (.ref fa)) : fa = 285 := by
 injection e.symm.trans L.law_at with e
 injection e
end
section
open PySem PySem.W PyProof.Rows
theorem aE.done (L : aE w s₁.heap mg mb) (hg : s₁.gens = #[]) {xs : List Int} (hw : Well w.params s₁.heap (.ref a) (ofPy (.list (xs.map .int)))) (hl : ¬ (63 : Int) < (xs.length : Int)) {cl : Str -> Option Addr} {mean : ExcName -> Option Value} :
 wpAny (model Challenge.rw_kl0004_01.row.prog w) callerA (call (.ref 285) [.ref a]) (fun v s' => GoodWG Challenge.rw_kl0004_01.row.claim cl mean [ofPy (.list (xs.map .int))] s₁ (.ok (.ret v)) s')
  (fun e s' => GoodWG Challenge.rw_kl0004_01.row.claim cl mean [ofPy (.list (xs.map .int))] s₁ (.error e) s') s₁ := by
 have hw : Well w.params s₁.heap (.ref a) (.list (ofPys (xs.map PyData.int))) := hw
 cases hw with
 | list ha hv =>
  refine wpAny_mono (L.law ha (fun K => u5 K hv) (by lia) (A := callerA) ⟨rfl, by decide +kernel, by decide +kernel⟩ rfl rfl) (fun v s' q => ?_) fun _ _ x => x.elim
  obtain ⟨⟨K', r⟩, k, t, h', tk, rfl⟩ := q
  obtain rfl := dW r
  refine (oE (.inl (nu _ (.bool true) ([]) rfl ?_ (.bool true) ?_ (fun _ => ⟨List.nodup_nil, fun _ h => nomatch h⟩))) (L.old k t) rfl (AllBare.of_eq hg))
  . intro c; rfl
  . kernel_rfl
theorem eH : PySem.Challenge.rw_kl0004_01.wellSaid = true := by
 unfold OpenLaw.wellSaid OpenRow.wellSaid OpenRow.partSaid looksOpen
 rw [show (importedModules PySem.Challenge.rw_kl0004_01.row.prog.main.body).all cThrough.contains = true by kernel_rfl]
 rw [show (["vars", "dir", "locals"] : List Str).filter (readsOut PySem.Challenge.rw_kl0004_01.row.prog PySem.Challenge.rw_kl0004_01.row.prog.main.body) = [] by kernel_rfl]
 simp only [PySem.W.Fast.te11788848310118352699, PySem.W.Fast.te2368527892694137696, PySem.W.Fast.te9807087744658564304, PySem.W.Fast.te12862048085361865435, PySem.W.Fast.te8377067652309620493, PySem.W.R.allR_eq, PySem.W.Fast.te18344453789297297638, PySem.W.Fast.te3471404346716756564, PySem.W.Fast.te14412699480532031325, PySem.W.Fast.te8326940854005059898, PySem.W.Fast.te17119622794617984870, PySem.W.Fast.te17868728402115742887, PySem.W.Fast.te2357444279172408678, PySem.W.R.mapR_eq, PySem.W.Fast.te4857012375875476094, PySem.W.Fast.named_eq, PySem.W.Fast.te13582783067957832011, PySem.W.Fast.te5318747976498570220, PySem.W.R.anyR_eq, PySem.W.Fast.te4274047373036748609, PySem.W.Fast.te12749700546528644094, PySem.W.Fast.te10501279942588096481, PySem.W.Fast.te8179353310426384613, PySem.W.Fast.te797321630700447069, PySem.W.Fast.te9572597257264208301, PySem.W.Fast.te9558739934217749035, PySem.W.Fast.te16286561074155671207, PySem.W.Fast.te6984425678791042302, PySem.W.Fast.te17095254045102204799, PySem.W.Fast.te12879404354523853263, PySem.W.Fast.te482687673346738481, PySem.W.Fast.te10792542408131684335, PySem.W.Fast.te7723801398212525404]
 rw [PySem.W.Fast.sDec_eq]
 repeat' (with_reducible refine look_both ?_ ?_)
 all_goals decide +kernel
end
end
end Mine
end
open PySem PySem.W PyProof.Rows Mine
theorem PySem.Challenge.cw_kl0004_01_holds : PySem.Challenge.rw_kl0004_01.Holds := by
 refine holds_law eH fun _ => ?_
 refine holds_open (q := qL) (loose := fQ) (Xt := fun _ => true) (XP := fun _ _ => True) (Yf := fun s => s.heap) (Ya := fun w => H1 w.params) (YP := fun w h => ∀ b o, (H1 w.params).get? b = some o -> h.get? b = some o) (N := 50000) left
  (fun w s e b o h => by rw [e]; exact h) (fun w h h' y k b o e => k b o (y b o e)) (fun _ _ => trivial) (fun _ _ _ _ _ => trivial) (by rfl) (by rfl) (by rfl) (fun s _ => recFacts_nil rfl) (by rfl) (by assumption) (by decide +kernel) ⟨rfl, rfl, rfl, rfl, rfl, by decide +kernel⟩ ?hw ?hc
 case hw => w_witness2
 case hc =>
  intro w mC s₁ mg mb G Y fa o pm cd doc dV kV ho hd hcd hD hmg hg args dx as hpre hlay hrd hwl hlo
  have L : aE w s₁.heap mg mb := ⟨Y, G.T.g, G.T.b, G.T.nolimit, G.T.nodigits, G.T.builtins, G.T.bmain⟩
  clear hd hD hcd ho
  obtain rfl := L.fa hmg
  clear hmg
  wrow_args hpre hlay hrd hwl hlo
  rename_i xs _ _ _ _ _ _ _ _ _ _ _ _ hw _ _ _ df _
  exact L.done hg hw df